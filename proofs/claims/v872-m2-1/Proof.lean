import JvmDerived
import JvmDerived.Pilot.@@N@@Statement
import JvmDerived.Pilot.@@N@@Code
set_option linter.unusedVariables false
set_option linter.unusedSimpArgs false
@@BLOCK:Masks.lean.txt@@
namespace Jvm.Pilot.@@N@@
open Jvm Jvm.ClassFile Sem Op Lib Jvm.Free Jvm.Stand Jvm.LawKit Jvm.RoadKit Bundle Jvm.Pilot.@@N@@.Jvm.D
section Own
variable {p : Program} {l : Launch} {e : Env} {R : Room} {s : State} {m : MethodId} {args : Array Value} {below : List Frame} {meth : Method} {c : Code} {T : State} {locs : List Loc} {cells slots : Nat} {Z : State} {a0 : Array Value} {h : Heap}
def own_Go (p : Program) (e : Env) (below : List Frame) (Q : Outcome → State → Prop) (T : State) (g : JFrame) : Prop := ∃ s₂ o, Steps p.tables e below (T.setTop g) s₂ ∧ s₂.status = .running ∧ Ended s₂ below o ∧ Q o s₂
theorem own_st {Q : Outcome → State → Prop} {T T' : State} {g g' : JFrame} (h : ∀ t, Steps p.tables e below (T'.setTop g') t → Steps p.tables e below (T.setTop g) t) (k : own_Go p e below Q T' g') : own_Go p e below Q T g := by
  obtain ⟨s₂, o, h1, h2⟩ := k
  exact ⟨s₂, o, h _ h1, h2⟩
theorem own_s {Q : Outcome → State → Prop} {T : State} {g : JFrame} (T' : State) (g' : JFrame) (h : ∀ t, Steps p.tables e below (T'.setTop g') t → Steps p.tables e below (T.setTop g) t) (k : own_Go p e below Q T' g') : own_Go p e below Q T g := own_st h k
abbrev u_ : Slot := .unset
abbrev v_ : Slot := .second
theorem own_cast {Q : Outcome → State → Prop} {T : State} {g g' : JFrame} (q : g = g') (k : own_Go p e below Q T g') : own_Go p e below Q T g := q ▸ k
def own_Post (Qv : Option Value → Heap → List Loc → Prop) (kc ks : Nat) (U : State) (o : Outcome) (U' : State) : Prop := ∃ v L, o = .returned v ∧ Qv v U'.heap L ∧ FrameEnd U o U' L kc ks
def own_Met (l : Launch) (Z : State) (y : MethodName) (bytes : ByteArray) (maxL : Nat) (ret : Option FieldType) (ws : List Jvm.Cond) (rm : Room) (h0 : Heap) (as' : Array Value) (Qv : Option Value → Heap → List Loc → Prop) (kc ks : Nat) : Prop :=
  MetFree l y (head1 (Jvm.Cond.code y bytes maxL ret :: ws) rm) (fun a U => a = as' ∧ Z.Warmed39 U.vm ∧ U.heap = h0) (fun _ _ _ _ _ => True) (fun _ U o U' => own_Post Qv kc ks U o U')
theorem own_start {y : MethodName} {bytes : ByteArray} {maxL : Nat} {ret : Option FieldType} {ws : List Jvm.Cond} {rm : Room} {h0 : Heap} {as' : Array Value} {Qv : Option Value → Heap → List Loc → Prop} {kc ks : Nat} (hpl : plainFor y = true)
    (body : ∀ (p : Program) (e : Env) (s : State) (m : MethodId) (below : List Frame) (meth : Method) (c : Code) (s₁ : State), Stand p l e rm s m as' below meth c s₁ [] 0 0 → p.tables.exec = Jvm.exec → Z.Warmed39 s.vm → c.code = bytes → c.maxLocals = maxL → meth.sig.returnType = ret → meth.locks = false → s.vm.findClass y.cls = some m.cls → meth.name = y.name → s₁.heap = h0 → own_Go p e below (own_Post Qv kc ks s) s₁ (entryFrame m as' maxL)) :
    own_Met l Z y bytes maxL ret ws rm h0 as' Qv kc ks := by
  refine MetFree.of_bodySF hpl hisR ?_
  intro p e s m args below meth c s₁ Bd hml0 hP hK
  obtain ⟨rfl, hZ, hh⟩ := hP
  exact body p e s m below meth c s₁ (Stand.of_body Bd) Bd.exec hZ Bd.bytes hml0 Bd.returns Bd.notSynchronized (findClass_of_methodNamed Bd.named) (name_of_methodNamed Bd.named Bd.method).1 (by rw [← hh, Bd.state]; rfl)
def own_PostW (Qv : Option Value → Heap → Vm → List Loc → Prop) (kc ks : Nat) (U : State) (o : Outcome) (U' : State) : Prop := ∃ v L, o = .returned v ∧ Qv v U'.heap U'.vm L ∧ ReturnedEndW U o U' L kc ks
def own_MetW (l : Launch) (Z : State) (y : MethodName) (bytes : ByteArray) (maxL : Nat) (ret : Option FieldType) (ws : List Jvm.Cond) (rm : Room) (h0 : Heap) (J : Vm → Prop) (as' : Array Value) (Qv : Option Value → Heap → Vm → List Loc → Prop) (kc ks : Nat) : Prop :=
  MetFree l y (head1 (Jvm.Cond.code y bytes maxL ret :: ws) rm) (fun a U => a = as' ∧ Z.Warmed39 U.vm ∧ U.heap = h0 ∧ J U.vm) (fun _ _ _ _ _ => True) (fun _ U o U' => own_PostW Qv kc ks U o U')
theorem own_startW {y : MethodName} {bytes : ByteArray} {maxL : Nat} {ret : Option FieldType} {ws : List Jvm.Cond} {rm : Room} {h0 : Heap} {J : Vm → Prop} {as' : Array Value} {Qv : Option Value → Heap → Vm → List Loc → Prop} {kc ks : Nat} (hpl : plainFor y = true)
    (body : ∀ (p : Program) (e : Env) (s : State) (m : MethodId) (below : List Frame) (meth : Method) (c : Code) (s₁ : State), Stand p l e rm (s.setVm s.vm) m as' below meth c s₁ [] 0 0 → p.tables.exec = Jvm.exec → Z.Warmed39 s.vm → c.code = bytes → c.maxLocals = maxL → meth.sig.returnType = ret → meth.locks = false → s.vm.findClass y.cls = some m.cls → meth.name = y.name → s₁.heap = h0 → s.Since s.vm 0 → s.heap = h0 → J s.vm → own_Go p e below (own_PostW Qv kc ks s) s₁ (entryFrame m as' maxL)) :
    own_MetW l Z y bytes maxL ret ws rm h0 J as' Qv kc ks := by
  refine MetFree.of_bodySF hpl hisR ?_
  intro p e s m args below meth c s₁ Bd hml0 hP hK
  obtain ⟨rfl, hZ, hh, hJ⟩ := hP
  exact body p e s m below meth c s₁ (Stand.of_body Bd) Bd.exec hZ Bd.bytes hml0 Bd.returns Bd.notSynchronized (findClass_of_methodNamed Bd.named) (name_of_methodNamed Bd.named Bd.method).1 (by rw [← hh, Bd.state]; rfl) ((State.WarmedH.refl s).since 0) hh hJ
def own_End (e : Env) (below : List Frame) (m : MethodId) (T : State) (v : Option Value) (P : Outcome → State → Prop) : Prop := ∃ fs, (∀ (f : JFrame) (acts : List Action), f.method = m → f.locked = none → f.entered = [] → (doReturn e (T.setTop f) acts v).1 = T.setFrames fs) ∧ (T.setFrames fs).status = .running ∧ Ended (T.setFrames fs) below (.returned v) ∧ P (.returned v) (T.setFrames fs)
theorem own_end {Qv : Option Value → Heap → List Loc → Prop} {kc ks : Nat} (X : Stand p l e R s m args below meth c T locs cells slots) {v : Option Value} (hv : meth.sig.returnType = none → v = none) (hlocks : meth.locks = false) (hc : cells ≤ kc) (hs : slots ≤ ks) (eT : T.heap = h) (q : Qv v h locs) : own_End e below m T v (own_Post Qv kc ks s) := by
  obtain ⟨fs, hr, hrun, hended, hW, hsame⟩ := X.leave hv hlocks
  exact ⟨fs, hr, hrun, hended, _, _, rfl, (by show Qv v T.heap locs; rw [eT]; exact q), ⟨_, rfl⟩, hW, hsame.mono hc hs⟩
theorem own_endW {Qv : Option Value → Heap → Vm → List Loc → Prop} {kc ks : Nat} {vm1 : Vm} (X : Stand p l e R (s.setVm vm1) m args below meth c T locs cells slots) {n : Nat} (hS : s.Since vm1 n) {v : Option Value} (hv : meth.sig.returnType = none → v = none) (hlocks : meth.locks = false) (hc : cells ≤ kc) (hs : slots ≤ ks) (eT : T.heap = h) (hk : n ≤ h.size) (q : ∀ vm', (s.setVm vm1).WarmedH vm' → Qv v h vm' locs) : own_End e below m T v (own_PostW Qv kc ks s) := by
  obtain ⟨fs, hr, hrun, hended, hE⟩ := X.leaveW hS (by rw [eT]; exact hk) hv hlocks
  exact ⟨fs, hr, hrun, hended, _, _, rfl, (by show Qv v T.heap T.vm locs; rw [eT]; exact q _ X.warmed), hE.1, hE.2.1, hE.2.2.1, hE.2.2.2.mono hc hs⟩
theorem own_fin {P : Outcome → State → Prop} {v : Option Value} {g : JFrame} (E : own_End e below m T v P) (st : ∀ fs, (∀ (f : JFrame) (acts : List Action), f.method = m → f.locked = none → f.entered = [] → (doReturn e (T.setTop f) acts v).1 = T.setFrames fs) → Steps p.tables e below (T.setTop g) (T.setFrames fs)) : own_Go p e below P T g := by
  obtain ⟨fs, hr, hrun, hended, q⟩ := E
  exact ⟨_, _, st fs hr, hrun, hended, q⟩
theorem own_some {t : FieldType} {v : Option Value} (hret : meth.sig.returnType = some t) : meth.sig.returnType = none → v = none := fun h => by rw [hret] at h; cases h
theorem own_finV {P : Outcome → State → Prop} (X : Stand p l e R s m args below meth c T locs cells slots) (hx : p.tables.exec = Jvm.exec) (hret : meth.sig.returnType = none) {pc : Nat} {Ls : Array Slot} (hd : decode c.code pc = .ok (.return_, 1)) (E : own_End e below m T none P) : own_Go p e below P T (mkF m pc Ls []) :=
  own_fin E (fun fs hr => X.returnOut hx hret hd hr)
theorem own_finX {P : Outcome → State → Prop} (X : Stand p l e R s m args below meth c T locs cells slots) (hx : p.tables.exec = Jvm.exec) {t : FieldType} (hret : meth.sig.returnType = some t) {pc : Nat} {Ls : Array Slot} {w : Value} {i : Instr} {rest : List Value} (hn : narrow t w = w)
    (hi : (i = .ireturn ∧ (t = .int ∨ t = .boolean ∨ t = .byte ∨ t = .char ∨ t = .short) ∧ ∃ z, w = .int z) ∨ (i = .lreturn ∧ t = .long ∧ ∃ z, w = .long z) ∨ (i = .dreturn ∧ t = .double ∧ ∃ z, w = .double z) ∨ (i = .freturn ∧ t = .float ∧ ∃ z, w = .float z) ∨ (i = .areturn ∧ t.isReference = true ∧ w.isRef = true))
    (hd : decode c.code pc = .ok (i, 1)) (E : own_End e below m T (some w) P) : own_Go p e below P T (mkF m pc Ls (w :: rest)) :=
  own_fin E (fun fs hr => retOut X hx hret hn hi hd hr)
theorem own_finI {P : Outcome → State → Prop} (X : Stand p l e R s m args below meth c T locs cells slots) (hx : p.tables.exec = Jvm.exec) (hret : meth.sig.returnType = some .int) {pc : Nat} {Ls : Array Slot} {z : Int32} {rest : List Value} (hd : decode c.code pc = .ok (.ireturn, 1)) (E : own_End e below m T (some (.int z)) P) : own_Go p e below P T (mkF m pc Ls (.int z :: rest)) :=
  own_finX X hx hret rfl (Or.inl ⟨rfl, Or.inl rfl, _, rfl⟩) hd E
theorem own_finL {P : Outcome → State → Prop} (X : Stand p l e R s m args below meth c T locs cells slots) (hx : p.tables.exec = Jvm.exec) (hret : meth.sig.returnType = some .long) {pc : Nat} {Ls : Array Slot} {z : Int64} {rest : List Value} (hd : decode c.code pc = .ok (.lreturn, 1)) (E : own_End e below m T (some (.long z)) P) : own_Go p e below P T (mkF m pc Ls (.long z :: rest)) :=
  own_finX X hx hret rfl (Or.inr (Or.inl ⟨rfl, rfl, _, rfl⟩)) hd E
theorem own_finD {P : Outcome → State → Prop} (X : Stand p l e R s m args below meth c T locs cells slots) (hx : p.tables.exec = Jvm.exec) (hret : meth.sig.returnType = some .double) {pc : Nat} {Ls : Array Slot} {z : UInt64} {rest : List Value} (hd : decode c.code pc = .ok (.dreturn, 1)) (E : own_End e below m T (some (.double z)) P) : own_Go p e below P T (mkF m pc Ls (.double z :: rest)) :=
  own_finX X hx hret rfl (Or.inr (Or.inr (Or.inl ⟨rfl, rfl, _, rfl⟩))) hd E
theorem own_finA {P : Outcome → State → Prop} (X : Stand p l e R s m args below meth c T locs cells slots) (hx : p.tables.exec = Jvm.exec) {t : FieldType} (hret : meth.sig.returnType = some t) (ht : t.isReference = true) {pc : Nat} {Ls : Array Slot} {w : Value} {rest : List Value} (hw : w.isRef = true) (hd : decode c.code pc = .ok (.areturn, 1)) (E : own_End e below m T (some w) P) : own_Go p e below P T (mkF m pc Ls (w :: rest)) :=
  own_finX X hx hret (by rcases ref_cases hw with rfl | ⟨z, rfl⟩ <;> cases t <;> first | rfl | cases ht) (Or.inr (Or.inr (Or.inr (Or.inr ⟨rfl, ht, hw⟩)))) hd E
theorem own_finZ {P : Outcome → State → Prop} (X : Stand p l e R s m args below meth c T locs cells slots) (hx : p.tables.exec = Jvm.exec) {t : FieldType} (hret : meth.sig.returnType = some t) (ht : t = .boolean ∨ t = .byte ∨ t = .char ∨ t = .short) {pc : Nat} {Ls : Array Slot} {z z' : Int32} {rest : List Value} (hz : nar t z = z') (hd : decode c.code pc = .ok (.ireturn, 1)) (E : own_End e below m T (some (.int z')) P) : own_Go p e below P T (mkF m pc Ls (.int z :: rest)) :=
  own_fin E (fun fs hr => by subst hz; exact retN X hx hret ht hd hr)
theorem own_callS (X : Stand p l e R s m args below meth c T locs cells slots) (hx : p.tables.exec = Jvm.exec) (hZ : Z.Warmed39 s.vm) {own : String} {index : Nat} {y : MethodName} {bytes : ByteArray} {maxL : Nat} {ret : Option FieldType} {rm : Room} {W : Nat} {Q : Option Value → Heap → List Loc → Prop} {argsL rest : List Value} {as' : Array Value}
    (hown : s.vm.findClass own = some m.cls) (w1 : (Cond.methodLink own index y).before a0 Z = true) (w2 : (Cond.static y).before a0 Z = true) (w3 : (Cond.initialized y.cls).before a0 Z = true) (w4 : (Cond.code y bytes maxL ret).before a0 Z = true) (hy : y.cls ≠ "java/lang/invoke/MethodHandle" ∧ y.cls ≠ "java/lang/invoke/VarHandle")
    (hM : own_Met l Z y bytes maxL ret [] rm h as' Q rm.cells rm.slots) (hf : rm.frames + 1 ≤ R.frames) (hl : W + (maxL + 11) + rm.locals ≤ R.locals) {g : JFrame} (hg : g.method = m) (hsz : g.locals.size = c.maxLocals) (has : argsL.toArray = as') (hlen : ∀ sig, parseMethodDescriptor y.desc = some sig → argsL.length = sig.parameters.length) (hstk : g.stack = argsL.reverse ++ rest) (hW : 2 * g.monitorRoom + (rest.map fun v => v.category).sum ≤ W)
    (hd : decode c.code g.pc = .ok (.invokestatic index, 3)) (eT : T.heap = h) (hc : cells + rm.cells ≤ R.cells) (hs : slots + rm.slots ≤ R.slots) :
    ∃ v T' L, Stand p l e R s m args below meth c T' (locs ++ L) (cells + rm.cells) (slots + rm.slots) ∧ Q v T'.heap L ∧ ∀ target, Steps p.tables e below (T'.setTop { g with pc := g.pc + 3, stack := v.toList ++ rest }) target → Steps p.tables e below (T.setTop g) target := by
  obtain ⟨v, _, ⟨T', L', k', n'⟩, -, X', ⟨Lc, hQ, l', y', z'⟩, st⟩ := Jvm.LawKit.callS X hx (y := y) hown (mvT hZ w1) (mvT hZ w2) (mvT hZ w3) (mvT hZ w4) hy (backOf (W := W) hM hZ w4 w3 hf hl) (g := g) hg hsz (argsL := argsL) (rest := rest) hlen hstk hW hd (fun _ _ => ⟨has, eT, hc, hs⟩)
  dsimp only [Pt.U, Pt.locs, Pt.cells, Pt.slots] at X' l' y' z' st hQ
  subst l' y' z'
  exact ⟨v, T', Lc, X', hQ, st⟩
theorem own_callI (X : Stand p l e R s m args below meth c T locs cells slots) (hx : p.tables.exec = Jvm.exec) (hZ : Z.Warmed39 s.vm) {own : String} {index : Nat} {y : MethodName} {bytes : ByteArray} {maxL : Nat} {rm : Room} {W : Nat} {Q : Option Value → Heap → List Loc → Prop} {a : Addr} {argsL rest : List Value} {as' : Array Value} (hyn : y.name = "<init>")
    (hown : s.vm.findClass own = some m.cls) (w1 : (Cond.methodLink own index y).before a0 Z = true) (w2 : (Cond.instanceMethod y).before a0 Z = true) (w3 : (Cond.initialized y.cls).before a0 Z = true) (w4 : (Cond.code y bytes maxL none).before a0 Z = true) (hy : y.cls ≠ "java/lang/invoke/MethodHandle" ∧ y.cls ≠ "java/lang/invoke/VarHandle")
    (hM : own_Met l Z y bytes maxL none [] rm h as' Q rm.cells rm.slots) (hf : rm.frames + 1 ≤ R.frames) (hl : W + (maxL + 11) + rm.locals ≤ R.locals) {g : JFrame} (hg : g.method = m) (hsz : g.locals.size = c.maxLocals) (has : (Value.ref a :: argsL).toArray = as') (hlen : ∀ sig, parseMethodDescriptor y.desc = some sig → argsL.length = sig.parameters.length) (hstk : g.stack = argsL.reverse ++ .ref a :: rest) (hW : 2 * g.monitorRoom + (rest.map fun v => v.category).sum ≤ W)
    (hd : decode c.code g.pc = .ok (.invokespecial index, 3)) (eT : T.heap = h) (hc : cells + rm.cells ≤ R.cells) (hs : slots + rm.slots ≤ R.slots) :
    ∃ v T' L, Stand p l e R s m args below meth c T' (locs ++ L) (cells + rm.cells) (slots + rm.slots) ∧ Q v T'.heap L ∧ ∀ target, Steps p.tables e below (T'.setTop { g with pc := g.pc + 3, stack := v.toList ++ rest }) target → Steps p.tables e below (T.setTop g) target := by
  obtain ⟨v, _, ⟨T', L', k', n'⟩, -, X', ⟨Lc, hQ, l', y', z'⟩, st⟩ := X.specialBack hx (y := y) hyn hown (mvT hZ w1) (mvT hZ w2) (mvT hZ w4) hy (backOf (W := W) hM hZ w4 w3 hf hl) (g := g) hg hsz (Steps.refl _) (a := a) (argsL := argsL) (rest := rest) hlen hstk hW hd (fun _ _ => ⟨has, eT, hc, hs⟩)
  dsimp only [Pt.U, Pt.locs, Pt.cells, Pt.slots] at X' l' y' z' st hQ
  subst l' y' z'
  exact ⟨v, T', Lc, X', hQ, fun t k => st.trans k⟩
theorem own_callV (X : Stand p l e R s m args below meth c T locs cells slots) (hx : p.tables.exec = Jvm.exec) (hZ : Z.Warmed39 s.vm) {own C : String} {index : Nat} {y z : MethodName} {bytes : ByteArray} {maxL : Nat} {ret : Option FieldType} {rm : Room} {W : Nat} {Q : Option Value → Heap → List Loc → Prop} {a : Addr} {argsL rest : List Value} {as' : Array Value}
    (hown : s.vm.findClass own = some m.cls) (w1 : (Cond.methodLink own index y).before a0 Z = true) (w2 : (Cond.declares y).before a0 Z = true) (hnf : NotFace s y) (wsel : (Cond.selects C y z).before a0 Z = true) (wi : (Cond.instanceMethod z).before a0 Z = true) (w3 : (Cond.initialized z.cls).before a0 Z = true) (w4 : (Cond.code z bytes maxL ret).before a0 Z = true) (hy : y.cls ≠ "java/lang/invoke/MethodHandle" ∧ y.cls ≠ "java/lang/invoke/VarHandle")
    (hM : own_Met l Z z bytes maxL ret [] rm h as' Q rm.cells rm.slots) (hf : rm.frames + 1 ≤ R.frames) (hl : W + (maxL + 11) + rm.locals ≤ R.locals) (E : Exa Z h a C) {g : JFrame} (hg : g.method = m) (hsz : g.locals.size = c.maxLocals) (has : (Value.ref a :: argsL).toArray = as') (hlen : ∀ sig, parseMethodDescriptor y.desc = some sig → argsL.length = sig.parameters.length) (hstk : g.stack = argsL.reverse ++ .ref a :: rest) (hW : 2 * g.monitorRoom + (rest.map fun v => v.category).sum ≤ W)
    (hd : decode c.code g.pc = .ok (.invokevirtual index, 3)) (eT : T.heap = h) (hc : cells + rm.cells ≤ R.cells) (hs : slots + rm.slots ≤ R.slots) :
    ∃ v T' L, Stand p l e R s m args below meth c T' (locs ++ L) (cells + rm.cells) (slots + rm.slots) ∧ Q v T'.heap L ∧ ∀ target, Steps p.tables e below (T'.setTop { g with pc := g.pc + 3, stack := v.toList ++ rest }) target → Steps p.tables e below (T.setTop g) target := by
  obtain ⟨cq, kq, qa, qb, qc⟩ := isOf hZ eT E
  obtain ⟨v, _, ⟨T', L', k', n'⟩, -, X', ⟨Lc, hQ, l', y', z'⟩, st⟩ := X.virtualBack hx (y := y) (z := z) hown (mvT hZ w1) (mvT hZ w2) hnf (mvT hZ wsel) (mvT hZ wi) hy (backOf (W := W) hM hZ w4 w3 hf hl) qa qc (g := g) hg hsz (Steps.refl _) (argsL := argsL) (rest := rest) hlen hstk hW hd (fun _ _ => ⟨has, eT, hc, hs⟩)
  dsimp only [Pt.U, Pt.locs, Pt.cells, Pt.slots] at X' l' y' z' st hQ
  subst l' y' z'
  exact ⟨v, T', Lc, X', hQ, fun t k => st.trans k⟩
theorem own_callP (X : Stand p l e R s m args below meth c T locs cells slots) (hx : p.tables.exec = Jvm.exec) (hZ : Z.Warmed39 s.vm) {own C : String} {index : Nat} {y : MethodName} {bytes : ByteArray} {maxL : Nat} {ret : Option FieldType} {rm : Room} {W : Nat} {Q : Option Value → Heap → List Loc → Prop} {a : Addr} {argsL rest : List Value} {as' : Array Value}
    (hown : s.vm.findClass own = some m.cls) (w1 : (Cond.methodLink own index y).before a0 Z = true) (wi : (Cond.instanceMethod y).before a0 Z = true) {kk : Nat} (wn : (Cond.instantiable y.cls kk).before a0 Z = true) (wp : (Cond.privateMethod y).before a0 Z = true) (w3 : (Cond.initialized y.cls).before a0 Z = true) (w4 : (Cond.code y bytes maxL ret).before a0 Z = true) (hy : y.cls ≠ "java/lang/invoke/MethodHandle" ∧ y.cls ≠ "java/lang/invoke/VarHandle")
    (hM : own_Met l Z y bytes maxL ret [] rm h as' Q rm.cells rm.slots) (hf : rm.frames + 1 ≤ R.frames) (hl : W + (maxL + 11) + rm.locals ≤ R.locals) (E : Exa Z h a C) {g : JFrame} (hg : g.method = m) (hsz : g.locals.size = c.maxLocals) (has : (Value.ref a :: argsL).toArray = as') (hlen : ∀ sig, parseMethodDescriptor y.desc = some sig → argsL.length = sig.parameters.length) (hstk : g.stack = argsL.reverse ++ .ref a :: rest) (hW : 2 * g.monitorRoom + (rest.map fun v => v.category).sum ≤ W)
    (hd : decode c.code g.pc = .ok (.invokevirtual index, 3)) (eT : T.heap = h) (hc : cells + rm.cells ≤ R.cells) (hs : slots + rm.slots ≤ R.slots) :
    ∃ v T' L, Stand p l e R s m args below meth c T' (locs ++ L) (cells + rm.cells) (slots + rm.slots) ∧ Q v T'.heap L ∧ ∀ target, Steps p.tables e below (T'.setTop { g with pc := g.pc + 3, stack := v.toList ++ rest }) target → Steps p.tables e below (T.setTop g) target := by
  obtain ⟨cq, q1, q2⟩ := E.cell
  obtain ⟨ci, ki, hi1, hi2, -, hi4, -⟩ := Cond.instantiable_spec (mvT (args := args) hZ wn)
  have hsel : (Cond.selects y.cls y y).before args s = true := selects_self_of_private hi1 hi2 (by simp only [Bool.or_eq_false_iff] at hi4; exact hi4.1) (Cond.privateMethod_at (mvP hZ wp (args := #[]))) (mvT hZ wi) hy
  obtain ⟨v, _, ⟨T', L', k', n'⟩, -, X', ⟨Lc, hQ, l', y', z'⟩, st⟩ := X.privateBack hx (y := y) hown (mvT hZ w1) (mvT hZ wi) hsel (Cond.privateMethod_at (mvP hZ wp (args := #[]))) (mvT hZ w4) hy (backOf (W := W) hM hZ w4 w3 hf hl) (g := g) hg hsz (Steps.refl _) (a := a) (by rw [eT]; exact q1) q2 (argsL := argsL) (rest := rest) hlen hstk hW hd (fun _ _ => ⟨has, eT, hc, hs⟩)
  dsimp only [Pt.U, Pt.locs, Pt.cells, Pt.slots] at X' l' y' z' st hQ
  subst l' y' z'
  exact ⟨v, T', Lc, X', hQ, fun t k => st.trans k⟩
end Own

theorem own_h {a0 : Array Value} {Z : State} (hw : ∀ d ∈ tables_1, d.before a0 Z = true) (i : Nat) {d : Jvm.Cond} (h : tables_1[i]? = some d) : d.before a0 Z = true := hw d (List.mem_of_getElem? h)
theorem own_at {T : State} {h : Heap} {a : Addr} {c : Cell} (eT : T.heap = h) (q : h[a]? = some c) : T.heap[a]? = some c := by rw [eT]; exact q
theorem own_nl {a x n : Nat} (h : a < n) (g : n ≤ x) : a ≠ x := Nat.ne_of_lt (Nat.lt_of_lt_of_le h g)
theorem own_nf {a x n : Nat} (h : a < n) (g : x = n) : a ≠ x := fun q => Nat.ne_of_lt h (q.trans g)
def own_b (b : Bool) : Int32 := cond b 1 0
theorem own_b0 {b : Bool} (h : b = false) : own_b b = 0 := by subst h; rfl
theorem own_b1 {b : Bool} (h : ¬ b = false) : ¬ own_b b = 0 := by cases b; exact absurd rfl h; decide
theorem own_narb (b : Bool) : nar .boolean (own_b b) = own_b b := by cases b <;> rfl
theorem own_lclt {a b : Int64} (h : a < b) : lcmpW a b < 0 := by rw [lcW]; exact (lc_lt a b).mpr h
theorem own_lcltN {a b : Int64} (h : ¬ a < b) : ¬ lcmpW a b < 0 := fun q => by rw [lcW] at q; exact h ((lc_lt a b).mp q)
theorem own_lcgt {a b : Int64} (h : b < a) : 0 < lcmpW a b := by rw [lcW]; exact (lc_gt a b).mpr h
theorem own_lcgtN {a b : Int64} (h : ¬ b < a) : ¬ 0 < lcmpW a b := fun q => by rw [lcW] at q; exact h ((lc_gt a b).mp q)
theorem own_lceq {a b : Int64} (h : a = b) : lcmpW a b = 0 := by rw [lcW]; exact (lc_eq a b).mpr h
theorem own_lceqN {a b : Int64} (h : ¬ a = b) : ¬ lcmpW a b = 0 := fun q => by rw [lcW] at q; exact h ((lc_eq a b).mp q)
theorem own_insKeep {Z : State} {h h' : Heap} {a : Addr} {C : String} {bo : Bool} {ws : List Addr} (F : Ins Z h a C bo) (K : Keep h h' ws) : Ins Z h' a C bo := by
  obtain ⟨cell, cT, h1, h2, h3⟩ := F
  obtain ⟨c', q1, q2, q3, -⟩ := K.2.2 _ _ h1
  exact ⟨c', cT, q1, h2, by rw [q2, q3]; exact h3⟩
theorem own_staKeep {Z : State} {h h' : Heap} {C n d : String} {v : Value} (F : Sta Z h C n d v) (K : Keep h h' []) : Sta Z h' C n d v := by
  obtain ⟨cf, i, k, f, st, cell, h1, h2, h3, h4, h5, r⟩ := F
  exact ⟨cf, i, k, f, st, cell, h1, h2, h3, h4, K.2.1 _ _ h5 nin0, r⟩
theorem own_staKeepW {Z : State} {h h' : Heap} {C n d : String} {v : Value} {ws : List Addr} (F : Sta Z h C n d v) (K : Keep h h' ws) (hw : ∀ x ∈ ws, ∀ cell : Cell, h[x]? = some cell → cell.vm.isStatics = false) : Sta Z h' C n d v := by
  obtain ⟨cf, i, k, f, st, cell, h1, h2, h3, h4, h5, h6, r⟩ := F
  exact ⟨cf, i, k, f, st, cell, h1, h2, h3, h4, K.2.1 _ _ h5 (fun q => by rw [hw _ q _ h5] at h6; cases h6), h6, r⟩
theorem own_narR {t : FieldType} {w : Value} (hw : w.isRef = true) : narrow t w = w := by rcases ref_cases hw with rfl | ⟨z, rfl⟩ <;> cases t <;> rfl
theorem own_fitR {t : FieldType} {w : Value} (hw : w.isRef = true) (ht : t.isReference = true := by rfl) : fits t w = true := by rcases ref_cases hw with rfl | ⟨z, rfl⟩ <;> cases t <;> first | rfl | cases ht
theorem own_catR {w : Value} (hw : w.isRef = true) : w.category = 1 := by rcases ref_cases hw with rfl | ⟨z, rfl⟩ <;> rfl
theorem own_stV {l l' : Array Slot} {i : Nat} {w : Value} {o : Slot} (hw : w.isRef = true) (hold : l[i]? = some o) (ho : o = .unset ∨ ∃ x, o = .val x ∧ x.category = 1) (e : l.setIfInBounds i (.val w) = l') : storeLocals l i w = some l' := (XS.store1 hold ho (own_catR hw)).trans (congrArg some e)
theorem own_len {p : Program} {l : Launch} {e : Env} {R : Room} {s : State} {m : MethodId} {args : Array Value} {below : List Frame} {meth : Method} {c : Code} {T : State} {locs : List Loc} {cells slots : Nat} {Z : State} {h : Heap} (X : Stand p l e R s m args below meth c T locs cells slots) (hx : p.tables.exec = Jvm.exec) (hZ : Z.Warmed39 s.vm) (eT : T.heap = h) {a : Addr} {cl : Cell} {ty : FieldType} {z : Int32} (A : Arr Z h a cl ty) (S : cl.slots.size = z.toNatClampNeg) (hz : ¬ z < 0)
    {g : JFrame} (hg : g.method = m) {rest : List Value} (hs : g.stack = .ref a :: rest) (hd : decode c.code g.pc = .ok (.arraylength, 1)) {target : State} (k : Steps p.tables e below (T.setTop { g with pc := g.pc + 1, stack := .int z :: rest }) target) : Steps p.tables e below (T.setTop g) target := by
  refine X.arraylength hx (by rw [eT]; exact A.1) (State.isArrayOf_alike hZ.alike A.2.1) (g := g) hg hs hd _ ?_
  rw [len_of S hz]
  exact k
theorem own_eqI {args : Array Value} {s : State} {a b : Term} {z k : Int32} (hx : a.eval args s none [] s = some (.int z)) (hy : b.eval args s none [] s = some (.int k)) (h : (Jvm.Cond.eq a b).value args s none s [] = some true) : z = k := by
  simpa [Cond.value, hx, hy] using h
theorem own_fldAt {args : Array Value} {s : State} {t : Term} {a : Addr} {Cc n d : String} {k : Int32} (h : (Jvm.Cond.eq (.field t Cc n d) (.int k)).value args s none s [] = some true) (ht : t.eval args s none [] s = some (.ref a)) : Fld s s.heap a Cc n d (.int k) := by
  obtain ⟨x, y, hx, hy, k1, k2⟩ := cmp_v (Or.inl h)
  have hy' : some (Value.int k) = some y := hy
  cases hy'
  obtain ⟨z, rfl⟩ := k2
  have e : z = k := own_eqI hx hy h
  subst e
  exact Fld.start ((fld_at ht).symm.trans hx)
theorem own_fldR {args : Array Value} {s : State} {t : Term} {a b : Addr} {Cc n d : String} (ht : t.eval args s none [] s = some (.ref a)) (hx : (Term.field t Cc n d).eval args s none [] s = some (.ref b)) : Fld s s.heap a Cc n d (.ref b) := Fld.start ((fld_at ht).symm.trans hx)
theorem own_elemAt {args : Array Value} {s : State} {t u : Term} {a o : Addr} {cl : Cell} {i : Int32} {j : Nat} (h : (Jvm.Cond.eq (.elem t (.int i)) u).value args s none s [] = some true) (ht : t.eval args s none [] s = some (.ref a)) (hu : u.eval args s none [] s = some (.ref o)) (hc : s.heap[a]? = some cl) (hij : i.toNatClampNeg = j) : cl.slots[j]? = some (.ref o) := by
  obtain ⟨x, y, hx, hy, k1, k2⟩ := cmp_v (Or.inl h)
  cases hu.symm.trans hy
  have q := gotT (eq_R hx hy k2.2 rfl) h
  subst q
  have := (elem_in hx ht rfl hc).2
  rw [hij] at this
  exact this
theorem own_elemI {args : Array Value} {s : State} {t : Term} {a : Addr} {cl : Cell} {i k : Int32} {j : Nat} (h : (Jvm.Cond.eq (.elem t (.int i)) (.int k)).value args s none s [] = some true) (ht : t.eval args s none [] s = some (.ref a)) (hc : s.heap[a]? = some cl) (hij : i.toNatClampNeg = j) : cl.slots[j]? = some (.int k) := by
  obtain ⟨x, y, hx, hy, k1, k2⟩ := cmp_v (Or.inl h)
  have hy' : some (Value.int k) = some y := hy
  cases hy'
  obtain ⟨z, rfl⟩ := k2
  have e : z = k := own_eqI hx hy h
  subst e
  have := (elem_in hx ht rfl hc).2
  rw [hij] at this
  exact this
theorem own_lenAt {args : Array Value} {s : State} {t : Term} {a : Addr} {cl : Cell} {ty : FieldType} {k : Int32} (h : (Jvm.Cond.eq (.length t) (.int k)).value args s none s [] = some true) (ht : t.eval args s none [] s = some (.ref a)) (A : Arr s s.heap a cl ty) : cl.slots.size < 2 ^ 31 ∧ cl.slots.size.toInt32 = k := by
  obtain ⟨x, y, hx, hy, k1, k2⟩ := cmp_v (Or.inl h)
  have hy' : some (Value.int k) = some y := hy
  cases hy'
  obtain ⟨z, rfl⟩ := k2
  have e : z = k := own_eqI hx hy h
  subst e
  have ha := Arr.fin (U := s) (Vm.Alike.refl _) A
  simp only [Term.eval, ht, ha, Option.bind_eq_bind, Option.bind_some] at hx
  split at hx
  · rename_i q; exact ⟨q, Value.int.inj (Option.some.inj hx)⟩
  · cases hx
theorem own_staI {args : Array Value} {s : State} {Cc n d : String} (h : (Jvm.Cond.isInt (.static Cc n d)).value args s none s [] = some true) (hi : (Jvm.Cond.initializedFor Cc n d).before args s = true) : ∃ z, Sta s s.heap Cc n d (.int z) ∧ (Term.static Cc n d).eval args s none [] s = some (.int z) := by
  obtain ⟨z, e⟩ := is_v h
  exact ⟨z, Sta.start e (Or.inl hi), e⟩
theorem own_not0 {args : Array Value} {s : State} {t : Term} {z k : Int32} (e : t.eval args s none [] s = some (.int z)) (h : (Jvm.Cond.not (.eq t (.int k))).value args s none s [] = some true) : ¬ z = k := fun q => by
  subst q
  have h2 := not_v h
  simp [Cond.value, e, Term.eval] at h2
theorem own_staR {args : Array Value} {s : State} {Cc n d : String} (h : (Jvm.Cond.isRef (.static Cc n d)).value args s none s [] = some true) (hi : (Jvm.Cond.initializedFor Cc n d).before args s = true) : ∃ z, Sta s s.heap Cc n d z ∧ z.isRef = true := by
  obtain ⟨z, e, r⟩ := isR_v h
  exact ⟨z, Sta.start e (Or.inl hi), r⟩
def own_by (c : Int32) : Int32 := nar .byte (c.toInt8.toInt32)
abbrev own_y0 : MethodName := ⟨"java/lang/StringUTF16", "compress", "([CI[BII)I"⟩
theorem own_pn0 : plainName "java/lang/StringUTF16" = true := by first | (simp [plainName, overriddenIn]; done) | decide +kernel
theorem od_jdk_52_m_21_0 : decode jdk_52_method_21_code 0 = .ok (.iconst 0, 1) := by decide +kernel
theorem od_jdk_52_m_21_1 : decode jdk_52_method_21_code 1 = .ok (.istore 5, 2) := by decide +kernel
theorem od_jdk_52_m_21_3 : decode jdk_52_method_21_code 3 = .ok (.iload 5, 2) := by decide +kernel
theorem od_jdk_52_m_21_5 : decode jdk_52_method_21_code 5 = .ok (.iload 4, 2) := by decide +kernel
theorem od_jdk_52_m_21_7 : decode jdk_52_method_21_code 7 = .ok (.if_icmp .ge 37, 3) := by decide +kernel
theorem od_jdk_52_m_21_10 : decode jdk_52_method_21_code 10 = .ok (.aload_n 0, 1) := by decide +kernel
theorem od_jdk_52_m_21_11 : decode jdk_52_method_21_code 11 = .ok (.iload_n 1, 1) := by decide +kernel
theorem od_jdk_52_m_21_12 : decode jdk_52_method_21_code 12 = .ok (.caload, 1) := by decide +kernel
theorem od_jdk_52_m_21_13 : decode jdk_52_method_21_code 13 = .ok (.istore 6, 2) := by decide +kernel
theorem od_jdk_52_m_21_15 : decode jdk_52_method_21_code 15 = .ok (.iload 6, 2) := by decide +kernel
theorem od_jdk_52_m_21_17 : decode jdk_52_method_21_code 17 = .ok (.sipush 255, 3) := by decide +kernel
theorem od_jdk_52_m_21_20 : decode jdk_52_method_21_code 20 = .ok (.if_icmp .le 6, 3) := by decide +kernel
theorem od_jdk_52_m_21_26 : decode jdk_52_method_21_code 26 = .ok (.aload_n 2, 1) := by decide +kernel
theorem od_jdk_52_m_21_27 : decode jdk_52_method_21_code 27 = .ok (.iload_n 3, 1) := by decide +kernel
theorem od_jdk_52_m_21_28 : decode jdk_52_method_21_code 28 = .ok (.iload 6, 2) := by decide +kernel
theorem od_jdk_52_m_21_30 : decode jdk_52_method_21_code 30 = .ok (.i2b, 1) := by decide +kernel
theorem od_jdk_52_m_21_31 : decode jdk_52_method_21_code 31 = .ok (.bastore, 1) := by decide +kernel
theorem od_jdk_52_m_21_32 : decode jdk_52_method_21_code 32 = .ok (.iinc 1 1, 3) := by decide +kernel
theorem od_jdk_52_m_21_35 : decode jdk_52_method_21_code 35 = .ok (.iinc 3 1, 3) := by decide +kernel
theorem od_jdk_52_m_21_38 : decode jdk_52_method_21_code 38 = .ok (.iinc 5 1, 3) := by decide +kernel
theorem od_jdk_52_m_21_41 : decode jdk_52_method_21_code 41 = .ok (.goto (-38), 3) := by decide +kernel
theorem od_jdk_52_m_21_44 : decode jdk_52_method_21_code 44 = .ok (.iload 4, 2) := by decide +kernel
theorem od_jdk_52_m_21_46 : decode jdk_52_method_21_code 46 = .ok (.ireturn, 1) := by decide +kernel
theorem own_efz5_4 (m : MethodId) (x0 : Addr) (x1 : Int32) (x2 : Addr) (x3 : Int32) (x4 : Int32) : entryFrame m #[(.ref x0), (.int x1), (.ref x2), (.int x3), (.int x4)] 7 = mkF m 0 #[rv x0, iv x1, rv x2, iv x3, iv x4, u_, u_] [] := by first | (simp [entryFrame, mkF, argsToLocals, Value.category]; done) | rfl
def own_Qz5_4 (Z : State) (a1 : Addr) (a3 : Addr) (ka : ClassId) (kc : ClassId) (ch0 ch1 ch2 ch3 : Int32) (h0 : Heap) (n0 : Nat) : Option Value → Heap → List Loc → Prop := fun v h L => v = some (.int 4) ∧ Fr n0 L ∧ Keep h0 h [a3] ∧ Arv Z h a3 kc .byte (4 : Int32) [(.int (own_by ch0)), (.int (own_by ch1)), (.int (own_by ch2)), (.int (own_by ch3))] (.int 0)
def own_Rz5_4 : Room := { frames := 0, cells := 0, slots := 0, locals := 0 }
set_option maxRecDepth 65536 in
set_option maxHeartbeats 40000000 in
theorem own_rmz5_4 (l : Launch) (Z : State) (a0 : Array Value) (hw : ∀ d ∈ tables_1, d.before a0 Z = true) (ws : List Jvm.Cond) (a1 : Addr) (a3 : Addr) (ka : ClassId) (kc : ClassId) (ch0 ch1 ch2 ch3 : Int32) (h0 : Heap) (n0 : Nat) (Z0 : n0 ≤ h0.size) (V1 : Arv Z h0 a1 ka .char (4 : Int32) [(.int ch0), (.int ch1), (.int ch2), (.int ch3)] (.int 0)) (V3 : Arv Z h0 a3 kc .byte (4 : Int32) [(.int 0), (.int 0), (.int 0), (.int 0)] (.int 0)) (hne : a1 ≠ a3) (g_a3 : n0 ≤ a3) (hc0 : ¬ (255 : Int32) < ch0) (hc1 : ¬ (255 : Int32) < ch1) (hc2 : ¬ (255 : Int32) < ch2) (hc3 : ¬ (255 : Int32) < ch3) :
    own_Met l Z own_y0 jdk_52_method_21_code 7 (some .int) ws own_Rz5_4 h0 #[(.ref a1), (.int 0), (.ref a3), (.int 0), (.int 4)] (own_Qz5_4 Z a1 a3 ka kc ch0 ch1 ch2 ch3 h0 n0) own_Rz5_4.cells own_Rz5_4.slots := by
  refine own_start (plainFor_of_name own_pn0) ?_
  intro p e s m below meth c s₁ X0 hx hZ hby hml hret hlk hown hnm e0
  have hown : s.vm.findClass "java/lang/StringUTF16" = some m.cls := hown
  have hml : c.maxLocals = 7 := hml
  have N0 := Fr.nil n0
  refine own_cast (own_efz5_4 m a1 (0 : Int32) a3 (0 : Int32) (4 : Int32)) ?_
  refine own_s s₁ (mkF m 12 #[rv a1, iv 0, rv a3, iv 0, iv 4, iv 0, u_] [(.int 0), (.ref a1)]) (fun _ k => XS.iconst X0.here hx rfl (hb hby od_jdk_52_m_21_0) (XS.istore X0.here hx rfl (hb hby od_jdk_52_m_21_1) rfl (l' := #[rv a1, iv 0, rv a3, iv 0, iv 4, iv 0, u_]) rfl (XS.iload X0.here hx rfl (hb hby od_jdk_52_m_21_3) rfl  (XS.iload X0.here hx rfl (hb hby od_jdk_52_m_21_5) rfl  (XS.icmpNo X0.here hx rfl (hb hby od_jdk_52_m_21_7) rfl (tlt (by decide : ((0 : Int32) < (4 : Int32)))).2.1 (XS.aloadN X0.here hx rfl (hb hby od_jdk_52_m_21_10) rfl rfl (XS.iloadN X0.here hx rfl (hb hby od_jdk_52_m_21_11) rfl  k))))))) ?_
  obtain ⟨cl1, Ar1, q1, S1, Nn1, H1, G1⟩ := id V1
  have hin1 : ¬ ((0 : Int32) < 0 ∨ cl1.slots.size ≤ ((0 : Int32)).toNatClampNeg) := (inb_of S1 ⟨by decide, by decide⟩)
  refine own_s s₁ (mkF m 30 #[rv a1, iv 0, rv a3, iv 0, iv 4, iv 0, iv ch0] [(.int ch0), (.int 0), (.ref a3)]) (fun _ k => X0.caload hx (j := (0 : Int32)) (v := (.int ch0)) (own_at e0 Ar1.1) (State.isArrayOf_alike hZ.alike Ar1.2.1) Ar1.2.2 hin1 (Has.at H1 hin1 rfl) (g := (mkF m 12 #[rv a1, iv 0, rv a3, iv 0, iv 4, iv 0, u_] [(.int 0), (.ref a1)])) rfl rfl (hb hby od_jdk_52_m_21_12) _ (XS.istore X0.here hx rfl (hb hby od_jdk_52_m_21_13) rfl (l' := #[rv a1, iv 0, rv a3, iv 0, iv 4, iv 0, iv ch0]) rfl (XS.iload X0.here hx rfl (hb hby od_jdk_52_m_21_15) rfl  (XS.sipush X0.here hx rfl (hb hby od_jdk_52_m_21_17) (XS.icmpYes X0.here hx rfl (pc0 := 20) (pc' := 26) rfl (hb hby od_jdk_52_m_21_20) rfl (flt hc0).2.2.2 (by decide) (by decide) (XS.aloadN X0.here hx rfl (hb hby od_jdk_52_m_21_26) rfl rfl (XS.iloadN X0.here hx rfl (hb hby od_jdk_52_m_21_27) rfl  (XS.iload X0.here hx rfl (hb hby od_jdk_52_m_21_28) rfl  k)))))))) ?_
  refine own_s s₁ (mkF m 31 #[rv a1, iv 0, rv a3, iv 0, iv 4, iv 0, iv ch0] [(.int (ch0.toInt8.toInt32)), (.int 0), (.ref a3)]) (fun _ k => XS.i2b X0.here hx rfl (hb hby od_jdk_52_m_21_30) rfl k) ?_
  obtain ⟨cl2, Ar2, q2, S2, Nn2, H2, G2⟩ := id V3
  have hin2 : ¬ ((0 : Int32) < 0 ∨ cl2.slots.size ≤ ((0 : Int32)).toNatClampNeg) := (inb_of S2 ⟨by decide, by decide⟩)
  obtain ⟨T2, h2, X2, e2, W2, st2⟩ := stB X0 hx hZ e0 Ar2 (j := (0 : Int32)) hin2 (g := (mkF m 31 #[rv a1, iv 0, rv a3, iv 0, iv 4, iv 0, iv ch0] [(.int (ch0.toInt8.toInt32)), (.int 0), (.ref a3)])) rfl rfl (hb hby od_jdk_52_m_21_31)
  have f2 : Arv Z h2 a3 kc .byte (4 : Int32) [(.int (own_by ch0)), (.int 0), (.int 0), (.int 0)] (.int 0) := Arv.set Ar2 q2 S2 Nn2 H2 G2 (fits_nar_byte _) W2 0 rfl (Nat.le_of_ble_eq_true rfl)
  have f3 := V1.other W2 hne
  have K2 : Keep h0 h2 [a3] := (Keep.refl h0 [a3]).wr W2 (Or.inl (List.mem_of_getElem? (i := 0) rfl))
  have Z2 := Nat.le_trans Z0 (Nat.le_of_eq W2.size.symm)
  have N2 := Fr.snoc X2 N0 g_a3
  refine own_s T2 (mkF m 32 #[rv a1, iv 0, rv a3, iv 0, iv 4, iv 0, iv ch0] []) st2 ?_
  refine own_s T2 (mkF m 11 #[rv a1, iv 1, rv a3, iv 1, iv 4, iv 1, iv ch0] [(.ref a1)]) (fun _ k => XS.iinc X2.here hx rfl (hb hby od_jdk_52_m_21_32) rfl (l' := #[rv a1, iv 1, rv a3, iv 0, iv 4, iv 0, iv ch0]) rfl (XS.iinc X2.here hx rfl (hb hby od_jdk_52_m_21_35) rfl (l' := #[rv a1, iv 1, rv a3, iv 1, iv 4, iv 0, iv ch0]) rfl (XS.iinc X2.here hx rfl (hb hby od_jdk_52_m_21_38) rfl (l' := #[rv a1, iv 1, rv a3, iv 1, iv 4, iv 1, iv ch0]) rfl (XS.goto X2.here hx rfl (pc0 := 41) (pc' := 3) rfl (hb hby od_jdk_52_m_21_41) (by decide) (by decide) (XS.iload X2.here hx rfl (hb hby od_jdk_52_m_21_3) rfl  (XS.iload X2.here hx rfl (hb hby od_jdk_52_m_21_5) rfl  (XS.icmpNo X2.here hx rfl (hb hby od_jdk_52_m_21_7) rfl (tlt (by decide : ((1 : Int32) < (4 : Int32)))).2.1 (XS.aloadN X2.here hx rfl (hb hby od_jdk_52_m_21_10) rfl rfl k)))))))) ?_
  refine own_s T2 (mkF m 12 #[rv a1, iv 1, rv a3, iv 1, iv 4, iv 1, iv ch0] [(.int 1), (.ref a1)]) (fun _ k => XS.iloadN X2.here hx rfl (hb hby od_jdk_52_m_21_11) rfl  k) ?_
  obtain ⟨cl4, Ar4, q4, S4, Nn4, H4, G4⟩ := id f3
  have hin4 : ¬ ((1 : Int32) < 0 ∨ cl4.slots.size ≤ ((1 : Int32)).toNatClampNeg) := (inb_of S4 ⟨by decide, by decide⟩)
  refine own_s T2 (mkF m 30 #[rv a1, iv 1, rv a3, iv 1, iv 4, iv 1, iv ch1] [(.int ch1), (.int 1), (.ref a3)]) (fun _ k => X2.caload hx (j := (1 : Int32)) (v := (.int ch1)) (own_at e2 Ar4.1) (State.isArrayOf_alike hZ.alike Ar4.2.1) Ar4.2.2 hin4 (Has.at H4 hin4 rfl) (g := (mkF m 12 #[rv a1, iv 1, rv a3, iv 1, iv 4, iv 1, iv ch0] [(.int 1), (.ref a1)])) rfl rfl (hb hby od_jdk_52_m_21_12) _ (XS.istore X2.here hx rfl (hb hby od_jdk_52_m_21_13) rfl (l' := #[rv a1, iv 1, rv a3, iv 1, iv 4, iv 1, iv ch1]) rfl (XS.iload X2.here hx rfl (hb hby od_jdk_52_m_21_15) rfl  (XS.sipush X2.here hx rfl (hb hby od_jdk_52_m_21_17) (XS.icmpYes X2.here hx rfl (pc0 := 20) (pc' := 26) rfl (hb hby od_jdk_52_m_21_20) rfl (flt hc1).2.2.2 (by decide) (by decide) (XS.aloadN X2.here hx rfl (hb hby od_jdk_52_m_21_26) rfl rfl (XS.iloadN X2.here hx rfl (hb hby od_jdk_52_m_21_27) rfl  (XS.iload X2.here hx rfl (hb hby od_jdk_52_m_21_28) rfl  k)))))))) ?_
  refine own_s T2 (mkF m 31 #[rv a1, iv 1, rv a3, iv 1, iv 4, iv 1, iv ch1] [(.int (ch1.toInt8.toInt32)), (.int 1), (.ref a3)]) (fun _ k => XS.i2b X2.here hx rfl (hb hby od_jdk_52_m_21_30) rfl k) ?_
  obtain ⟨cl5, Ar5, q5, S5, Nn5, H5, G5⟩ := id f2
  have hin5 : ¬ ((1 : Int32) < 0 ∨ cl5.slots.size ≤ ((1 : Int32)).toNatClampNeg) := (inb_of S5 ⟨by decide, by decide⟩)
  obtain ⟨T5, h5, X5, e5, W5, st5⟩ := stB X2 hx hZ e2 Ar5 (j := (1 : Int32)) hin5 (g := (mkF m 31 #[rv a1, iv 1, rv a3, iv 1, iv 4, iv 1, iv ch1] [(.int (ch1.toInt8.toInt32)), (.int 1), (.ref a3)])) rfl rfl (hb hby od_jdk_52_m_21_31)
  have f5 : Arv Z h5 a3 kc .byte (4 : Int32) [(.int (own_by ch0)), (.int (own_by ch1)), (.int 0), (.int 0)] (.int 0) := Arv.set Ar5 q5 S5 Nn5 H5 G5 (fits_nar_byte _) W5 1 rfl (Nat.le_of_ble_eq_true rfl)
  have f6 := f3.other W5 hne
  have K5 : Keep h0 h5 [a3] := K2.wr W5 (Or.inl (List.mem_of_getElem? (i := 0) rfl))
  have Z5 := Nat.le_trans Z2 (Nat.le_of_eq W5.size.symm)
  have N5 := Fr.snoc X5 N2 g_a3
  refine own_s T5 (mkF m 32 #[rv a1, iv 1, rv a3, iv 1, iv 4, iv 1, iv ch1] []) st5 ?_
  refine own_s T5 (mkF m 11 #[rv a1, iv 2, rv a3, iv 2, iv 4, iv 2, iv ch1] [(.ref a1)]) (fun _ k => XS.iinc X5.here hx rfl (hb hby od_jdk_52_m_21_32) rfl (l' := #[rv a1, iv 2, rv a3, iv 1, iv 4, iv 1, iv ch1]) rfl (XS.iinc X5.here hx rfl (hb hby od_jdk_52_m_21_35) rfl (l' := #[rv a1, iv 2, rv a3, iv 2, iv 4, iv 1, iv ch1]) rfl (XS.iinc X5.here hx rfl (hb hby od_jdk_52_m_21_38) rfl (l' := #[rv a1, iv 2, rv a3, iv 2, iv 4, iv 2, iv ch1]) rfl (XS.goto X5.here hx rfl (pc0 := 41) (pc' := 3) rfl (hb hby od_jdk_52_m_21_41) (by decide) (by decide) (XS.iload X5.here hx rfl (hb hby od_jdk_52_m_21_3) rfl  (XS.iload X5.here hx rfl (hb hby od_jdk_52_m_21_5) rfl  (XS.icmpNo X5.here hx rfl (hb hby od_jdk_52_m_21_7) rfl (tlt (by decide : ((2 : Int32) < (4 : Int32)))).2.1 (XS.aloadN X5.here hx rfl (hb hby od_jdk_52_m_21_10) rfl rfl k)))))))) ?_
  refine own_s T5 (mkF m 12 #[rv a1, iv 2, rv a3, iv 2, iv 4, iv 2, iv ch1] [(.int 2), (.ref a1)]) (fun _ k => XS.iloadN X5.here hx rfl (hb hby od_jdk_52_m_21_11) rfl  k) ?_
  obtain ⟨cl7, Ar7, q7, S7, Nn7, H7, G7⟩ := id f6
  have hin7 : ¬ ((2 : Int32) < 0 ∨ cl7.slots.size ≤ ((2 : Int32)).toNatClampNeg) := (inb_of S7 ⟨by decide, by decide⟩)
  refine own_s T5 (mkF m 30 #[rv a1, iv 2, rv a3, iv 2, iv 4, iv 2, iv ch2] [(.int ch2), (.int 2), (.ref a3)]) (fun _ k => X5.caload hx (j := (2 : Int32)) (v := (.int ch2)) (own_at e5 Ar7.1) (State.isArrayOf_alike hZ.alike Ar7.2.1) Ar7.2.2 hin7 (Has.at H7 hin7 rfl) (g := (mkF m 12 #[rv a1, iv 2, rv a3, iv 2, iv 4, iv 2, iv ch1] [(.int 2), (.ref a1)])) rfl rfl (hb hby od_jdk_52_m_21_12) _ (XS.istore X5.here hx rfl (hb hby od_jdk_52_m_21_13) rfl (l' := #[rv a1, iv 2, rv a3, iv 2, iv 4, iv 2, iv ch2]) rfl (XS.iload X5.here hx rfl (hb hby od_jdk_52_m_21_15) rfl  (XS.sipush X5.here hx rfl (hb hby od_jdk_52_m_21_17) (XS.icmpYes X5.here hx rfl (pc0 := 20) (pc' := 26) rfl (hb hby od_jdk_52_m_21_20) rfl (flt hc2).2.2.2 (by decide) (by decide) (XS.aloadN X5.here hx rfl (hb hby od_jdk_52_m_21_26) rfl rfl (XS.iloadN X5.here hx rfl (hb hby od_jdk_52_m_21_27) rfl  (XS.iload X5.here hx rfl (hb hby od_jdk_52_m_21_28) rfl  k)))))))) ?_
  refine own_s T5 (mkF m 31 #[rv a1, iv 2, rv a3, iv 2, iv 4, iv 2, iv ch2] [(.int (ch2.toInt8.toInt32)), (.int 2), (.ref a3)]) (fun _ k => XS.i2b X5.here hx rfl (hb hby od_jdk_52_m_21_30) rfl k) ?_
  obtain ⟨cl8, Ar8, q8, S8, Nn8, H8, G8⟩ := id f5
  have hin8 : ¬ ((2 : Int32) < 0 ∨ cl8.slots.size ≤ ((2 : Int32)).toNatClampNeg) := (inb_of S8 ⟨by decide, by decide⟩)
  obtain ⟨T8, h8, X8, e8, W8, st8⟩ := stB X5 hx hZ e5 Ar8 (j := (2 : Int32)) hin8 (g := (mkF m 31 #[rv a1, iv 2, rv a3, iv 2, iv 4, iv 2, iv ch2] [(.int (ch2.toInt8.toInt32)), (.int 2), (.ref a3)])) rfl rfl (hb hby od_jdk_52_m_21_31)
  have f8 : Arv Z h8 a3 kc .byte (4 : Int32) [(.int (own_by ch0)), (.int (own_by ch1)), (.int (own_by ch2)), (.int 0)] (.int 0) := Arv.set Ar8 q8 S8 Nn8 H8 G8 (fits_nar_byte _) W8 2 rfl (Nat.le_of_ble_eq_true rfl)
  have f9 := f6.other W8 hne
  have K8 : Keep h0 h8 [a3] := K5.wr W8 (Or.inl (List.mem_of_getElem? (i := 0) rfl))
  have Z8 := Nat.le_trans Z5 (Nat.le_of_eq W8.size.symm)
  have N8 := Fr.snoc X8 N5 g_a3
  refine own_s T8 (mkF m 32 #[rv a1, iv 2, rv a3, iv 2, iv 4, iv 2, iv ch2] []) st8 ?_
  refine own_s T8 (mkF m 11 #[rv a1, iv 3, rv a3, iv 3, iv 4, iv 3, iv ch2] [(.ref a1)]) (fun _ k => XS.iinc X8.here hx rfl (hb hby od_jdk_52_m_21_32) rfl (l' := #[rv a1, iv 3, rv a3, iv 2, iv 4, iv 2, iv ch2]) rfl (XS.iinc X8.here hx rfl (hb hby od_jdk_52_m_21_35) rfl (l' := #[rv a1, iv 3, rv a3, iv 3, iv 4, iv 2, iv ch2]) rfl (XS.iinc X8.here hx rfl (hb hby od_jdk_52_m_21_38) rfl (l' := #[rv a1, iv 3, rv a3, iv 3, iv 4, iv 3, iv ch2]) rfl (XS.goto X8.here hx rfl (pc0 := 41) (pc' := 3) rfl (hb hby od_jdk_52_m_21_41) (by decide) (by decide) (XS.iload X8.here hx rfl (hb hby od_jdk_52_m_21_3) rfl  (XS.iload X8.here hx rfl (hb hby od_jdk_52_m_21_5) rfl  (XS.icmpNo X8.here hx rfl (hb hby od_jdk_52_m_21_7) rfl (tlt (by decide : ((3 : Int32) < (4 : Int32)))).2.1 (XS.aloadN X8.here hx rfl (hb hby od_jdk_52_m_21_10) rfl rfl k)))))))) ?_
  refine own_s T8 (mkF m 12 #[rv a1, iv 3, rv a3, iv 3, iv 4, iv 3, iv ch2] [(.int 3), (.ref a1)]) (fun _ k => XS.iloadN X8.here hx rfl (hb hby od_jdk_52_m_21_11) rfl  k) ?_
  obtain ⟨cl10, Ar10, q10, S10, Nn10, H10, G10⟩ := id f9
  have hin10 : ¬ ((3 : Int32) < 0 ∨ cl10.slots.size ≤ ((3 : Int32)).toNatClampNeg) := (inb_of S10 ⟨by decide, by decide⟩)
  refine own_s T8 (mkF m 30 #[rv a1, iv 3, rv a3, iv 3, iv 4, iv 3, iv ch3] [(.int ch3), (.int 3), (.ref a3)]) (fun _ k => X8.caload hx (j := (3 : Int32)) (v := (.int ch3)) (own_at e8 Ar10.1) (State.isArrayOf_alike hZ.alike Ar10.2.1) Ar10.2.2 hin10 (Has.at H10 hin10 rfl) (g := (mkF m 12 #[rv a1, iv 3, rv a3, iv 3, iv 4, iv 3, iv ch2] [(.int 3), (.ref a1)])) rfl rfl (hb hby od_jdk_52_m_21_12) _ (XS.istore X8.here hx rfl (hb hby od_jdk_52_m_21_13) rfl (l' := #[rv a1, iv 3, rv a3, iv 3, iv 4, iv 3, iv ch3]) rfl (XS.iload X8.here hx rfl (hb hby od_jdk_52_m_21_15) rfl  (XS.sipush X8.here hx rfl (hb hby od_jdk_52_m_21_17) (XS.icmpYes X8.here hx rfl (pc0 := 20) (pc' := 26) rfl (hb hby od_jdk_52_m_21_20) rfl (flt hc3).2.2.2 (by decide) (by decide) (XS.aloadN X8.here hx rfl (hb hby od_jdk_52_m_21_26) rfl rfl (XS.iloadN X8.here hx rfl (hb hby od_jdk_52_m_21_27) rfl  (XS.iload X8.here hx rfl (hb hby od_jdk_52_m_21_28) rfl  k)))))))) ?_
  refine own_s T8 (mkF m 31 #[rv a1, iv 3, rv a3, iv 3, iv 4, iv 3, iv ch3] [(.int (ch3.toInt8.toInt32)), (.int 3), (.ref a3)]) (fun _ k => XS.i2b X8.here hx rfl (hb hby od_jdk_52_m_21_30) rfl k) ?_
  obtain ⟨cl11, Ar11, q11, S11, Nn11, H11, G11⟩ := id f8
  have hin11 : ¬ ((3 : Int32) < 0 ∨ cl11.slots.size ≤ ((3 : Int32)).toNatClampNeg) := (inb_of S11 ⟨by decide, by decide⟩)
  obtain ⟨T11, h11, X11, e11, W11, st11⟩ := stB X8 hx hZ e8 Ar11 (j := (3 : Int32)) hin11 (g := (mkF m 31 #[rv a1, iv 3, rv a3, iv 3, iv 4, iv 3, iv ch3] [(.int (ch3.toInt8.toInt32)), (.int 3), (.ref a3)])) rfl rfl (hb hby od_jdk_52_m_21_31)
  have f11 : Arv Z h11 a3 kc .byte (4 : Int32) [(.int (own_by ch0)), (.int (own_by ch1)), (.int (own_by ch2)), (.int (own_by ch3))] (.int 0) := Arv.set Ar11 q11 S11 Nn11 H11 G11 (fits_nar_byte _) W11 3 rfl (Nat.le_of_ble_eq_true rfl)
  have f12 := f9.other W11 hne
  have K11 : Keep h0 h11 [a3] := K8.wr W11 (Or.inl (List.mem_of_getElem? (i := 0) rfl))
  have Z11 := Nat.le_trans Z8 (Nat.le_of_eq W11.size.symm)
  have N11 := Fr.snoc X11 N8 g_a3
  refine own_s T11 (mkF m 32 #[rv a1, iv 3, rv a3, iv 3, iv 4, iv 3, iv ch3] []) st11 ?_
  refine own_s T11 (mkF m 46 #[rv a1, iv 4, rv a3, iv 4, iv 4, iv 4, iv ch3] [(.int 4)]) (fun _ k => XS.iinc X11.here hx rfl (hb hby od_jdk_52_m_21_32) rfl (l' := #[rv a1, iv 4, rv a3, iv 3, iv 4, iv 3, iv ch3]) rfl (XS.iinc X11.here hx rfl (hb hby od_jdk_52_m_21_35) rfl (l' := #[rv a1, iv 4, rv a3, iv 4, iv 4, iv 3, iv ch3]) rfl (XS.iinc X11.here hx rfl (hb hby od_jdk_52_m_21_38) rfl (l' := #[rv a1, iv 4, rv a3, iv 4, iv 4, iv 4, iv ch3]) rfl (XS.goto X11.here hx rfl (pc0 := 41) (pc' := 3) rfl (hb hby od_jdk_52_m_21_41) (by decide) (by decide) (XS.iload X11.here hx rfl (hb hby od_jdk_52_m_21_3) rfl  (XS.iload X11.here hx rfl (hb hby od_jdk_52_m_21_5) rfl  (XS.icmpYes X11.here hx rfl (pc0 := 7) (pc' := 44) rfl (hb hby od_jdk_52_m_21_7) rfl (flt (by decide : ¬ ((4 : Int32) < (4 : Int32)))).2.1 (by decide) (by decide) (XS.iload X11.here hx rfl (hb hby od_jdk_52_m_21_44) rfl  k)))))))) ?_
  exact own_finI X11 hx hret (hb hby od_jdk_52_m_21_46) (own_end (Qv := (own_Qz5_4 Z a1 a3 ka kc ch0 ch1 ch2 ch3 h0 n0)) X11 (own_some hret) hlk (by decide) (by decide) e11 ⟨rfl, N11, K11, f11⟩)
theorem own_pd0 : parseMethodDescriptor "([CI[BII)I" = some ⟨[(.array .char), .int, (.array .byte), .int, .int], some .int⟩ := by decide +kernel
abbrev own_y1 : MethodName := ⟨"java/lang/StringUTF16", "compress", "([CII)[B"⟩
theorem od_jdk_52_m_16_0 : decode jdk_52_method_16_code 0 = .ok (.iload_n 2, 1) := by decide +kernel
theorem od_jdk_52_m_16_1 : decode jdk_52_method_16_code 1 = .ok (.newarray .byte, 2) := by decide +kernel
theorem od_jdk_52_m_16_3 : decode jdk_52_method_16_code 3 = .ok (.astore_n 3, 1) := by decide +kernel
theorem od_jdk_52_m_16_4 : decode jdk_52_method_16_code 4 = .ok (.aload_n 0, 1) := by decide +kernel
theorem od_jdk_52_m_16_5 : decode jdk_52_method_16_code 5 = .ok (.iload_n 1, 1) := by decide +kernel
theorem od_jdk_52_m_16_6 : decode jdk_52_method_16_code 6 = .ok (.aload_n 3, 1) := by decide +kernel
theorem od_jdk_52_m_16_7 : decode jdk_52_method_16_code 7 = .ok (.iconst 0, 1) := by decide +kernel
theorem od_jdk_52_m_16_8 : decode jdk_52_method_16_code 8 = .ok (.iload_n 2, 1) := by decide +kernel
theorem od_jdk_52_m_16_9 : decode jdk_52_method_16_code 9 = .ok (.invokestatic 115, 3) := by decide +kernel
theorem od_jdk_52_m_16_12 : decode jdk_52_method_16_code 12 = .ok (.istore 4, 2) := by decide +kernel
theorem od_jdk_52_m_16_14 : decode jdk_52_method_16_code 14 = .ok (.iload 4, 2) := by decide +kernel
theorem od_jdk_52_m_16_16 : decode jdk_52_method_16_code 16 = .ok (.iload_n 2, 1) := by decide +kernel
theorem od_jdk_52_m_16_17 : decode jdk_52_method_16_code 17 = .ok (.if_icmp .eq 40, 3) := by decide +kernel
theorem od_jdk_52_m_16_57 : decode jdk_52_method_16_code 57 = .ok (.aload_n 3, 1) := by decide +kernel
theorem od_jdk_52_m_16_58 : decode jdk_52_method_16_code 58 = .ok (.areturn, 1) := by decide +kernel
theorem own_efz3_4 (m : MethodId) (x0 : Addr) (x1 : Int32) (x2 : Int32) : entryFrame m #[(.ref x0), (.int x1), (.int x2)] 6 = mkF m 0 #[rv x0, iv x1, iv x2, u_, u_, u_] [] := by first | (simp [entryFrame, mkF, argsToLocals, Value.category]; done) | rfl
def own_Qz3_4 (Z : State) (a1 : Addr) (ka : ClassId) (ch0 ch1 ch2 ch3 : Int32) (h0 : Heap) (n0 : Nat) : Option Value → Heap → List Loc → Prop := fun v h L => (∃ (b : Addr) (k : ClassId), v = some (.ref b) ∧ n0 ≤ b ∧ h0.size ≤ b ∧ Arv Z h b k .byte (4 : Int32) [(.int (own_by ch0)), (.int (own_by ch1)), (.int (own_by ch2)), (.int (own_by ch3))] (.int 0)) ∧ Fr n0 L ∧ Keep h0 h []
def own_Rz3_4 : Room := { frames := 1, cells := 1, slots := 4, locals := 18 }
set_option maxRecDepth 65536 in
set_option maxHeartbeats 40000000 in
theorem own_rmz3_4 (l : Launch) (Z : State) (a0 : Array Value) (hw : ∀ d ∈ tables_1, d.before a0 Z = true) (ws : List Jvm.Cond) (a1 : Addr) (ka : ClassId) (ch0 ch1 ch2 ch3 : Int32) (h0 : Heap) (n0 : Nat) (Z0 : n0 ≤ h0.size) (V1 : Arv Z h0 a1 ka .char (4 : Int32) [(.int ch0), (.int ch1), (.int ch2), (.int ch3)] (.int 0)) (hc0 : ¬ (255 : Int32) < ch0) (hc1 : ¬ (255 : Int32) < ch1) (hc2 : ¬ (255 : Int32) < ch2) (hc3 : ¬ (255 : Int32) < ch3) :
    own_Met l Z own_y1 jdk_52_method_16_code 6 (some (.array .byte)) ws own_Rz3_4 h0 #[(.ref a1), (.int 0), (.int 4)] (own_Qz3_4 Z a1 ka ch0 ch1 ch2 ch3 h0 n0) own_Rz3_4.cells own_Rz3_4.slots := by
  refine own_start (plainFor_of_name own_pn0) ?_
  intro p e s m below meth c s₁ X0 hx hZ hby hml hret hlk hown hnm e0
  have hown : s.vm.findClass "java/lang/StringUTF16" = some m.cls := hown
  have hml : c.maxLocals = 6 := hml
  have N0 := Fr.nil n0
  refine own_cast (own_efz3_4 m a1 (0 : Int32) (4 : Int32)) ?_
  refine own_s s₁ (mkF m 1 #[rv a1, iv 0, iv 4, u_, u_, u_] [(.int 4)]) (fun _ k => XS.iloadN X0.here hx rfl (hb hby od_jdk_52_m_16_0) rfl  k) ?_
  obtain ⟨T1, h1, k1, X1, e1, E1, A1, st1⟩ := newP X0 hx hZ (own_h hw 21 rfl) e0 (g := (mkF m 1 #[rv a1, iv 0, iv 4, u_, u_, u_] [(.int 4)])) rfl (hb hby od_jdk_52_m_16_1) rfl (by decide) (cap := 4) (by decide) (by decide) (by decide) (by decide)
  obtain ⟨b1, g1⟩ : ∃ z, z = h0.size := ⟨_, rfl⟩
  have g_b1 : n0 ≤ b1 := Nat.le_trans Z0 (Nat.le_of_eq g1.symm)
  have sz_b1 : h0.size ≤ b1 := Nat.le_trans (Keep.refl h0 []).1 (Nat.le_of_eq g1.symm)
  rw [← g1] at A1 st1
  have f2 := V1.ext E1
  have K1 : Keep h0 h1 [] := (Keep.refl h0 []).ext E1
  have Z1 := Nat.le_trans Z0 E1.1
  have f1 : Arv Z h1 b1 k1 .byte 4 [(.int 0), (.int 0), (.int 0), (.int 0)] (.int 0) := (Arv.new A1 (by decide)).pad (pad_rep [] (.int 0) 4)
  refine own_s T1 (mkF m 3 #[rv a1, iv 0, iv 4, u_, u_, u_] [(.ref b1)]) st1 ?_
  refine own_s T1 (mkF m 9 #[rv a1, iv 0, iv 4, rv b1, u_, u_] [(.int 4), (.int 0), (.ref b1), (.int 0), (.ref a1)]) (fun _ k => XS.astoreN X1.here hx rfl (hb hby od_jdk_52_m_16_3) rfl rfl (l' := #[rv a1, iv 0, iv 4, rv b1, u_, u_]) rfl (XS.aloadN X1.here hx rfl (hb hby od_jdk_52_m_16_4) rfl rfl (XS.iloadN X1.here hx rfl (hb hby od_jdk_52_m_16_5) rfl  (XS.aloadN X1.here hx rfl (hb hby od_jdk_52_m_16_6) rfl rfl (XS.iconst X1.here hx rfl (hb hby od_jdk_52_m_16_7) (XS.iloadN X1.here hx rfl (hb hby od_jdk_52_m_16_8) rfl  k)))))) ?_
  obtain ⟨v3, T3, L3, X3, hQ3, st3⟩ := own_callS X1 hx hZ (y := own_y0) (W := 0) hown (own_h hw 22 rfl) (own_h hw 23 rfl) (own_h hw 19 rfl) (own_h hw 24 rfl) (by decide) (own_rmz5_4 l Z a0 hw [] a1 b1 ka k1 ch0 ch1 ch2 ch3 h1 n0 Z1 f2 f1 (own_nf V1.lt g1) g_b1 hc0 hc1 hc2 hc3) (by decide) (by decide) (g := (mkF m 9 #[rv a1, iv 0, iv 4, rv b1, u_, u_] [(.int 4), (.int 0), (.ref b1), (.int 0), (.ref a1)])) rfl (by rw [hml]; rfl) (argsL := [(.ref a1), (.int 0), (.ref b1), (.int 0), (.int 4)]) (rest := []) rfl (lenOf own_pd0 rfl) rfl (by show 2 * 0 + _ ≤ _; exact Nat.le_of_eq rfl) (hb hby od_jdk_52_m_16_9) e1 (by decide) (by decide)
  obtain ⟨rfl, Nq3, Kq3, Vq3⟩ := hQ3
  have N3 := Fr.app N0 Nq3
  have f4 := f2.keep Kq3 (ninS (own_nf V1.lt g1) nin0)
  have K3 : Keep h0 T3.heap [] := K1.trans Kq3 (allS (Or.inr sz_b1) all0)
  have Z3 := Nat.le_trans Z1 Kq3.1
  refine own_s T3 (mkF m 12 #[rv a1, iv 0, iv 4, rv b1, u_, u_] [(.int 4)]) st3 ?_
  refine own_s T3 (mkF m 58 #[rv a1, iv 0, iv 4, rv b1, iv 4, u_] [(.ref b1)]) (fun _ k => XS.istore X3.here hx rfl (hb hby od_jdk_52_m_16_12) rfl (l' := #[rv a1, iv 0, iv 4, rv b1, iv 4, u_]) rfl (XS.iload X3.here hx rfl (hb hby od_jdk_52_m_16_14) rfl  (XS.iloadN X3.here hx rfl (hb hby od_jdk_52_m_16_16) rfl  (XS.icmpYes X3.here hx rfl (pc0 := 17) (pc' := 57) rfl (hb hby od_jdk_52_m_16_17) rfl (teq (by decide : ((4 : Int32) = (4 : Int32)))).1 (by decide) (by decide) (XS.aloadN X3.here hx rfl (hb hby od_jdk_52_m_16_57) rfl rfl k))))) ?_
  exact own_finA X3 hx hret rfl rfl (hb hby od_jdk_52_m_16_58) (own_end (Qv := (own_Qz3_4 Z a1 ka ch0 ch1 ch2 ch3 h0 n0)) X3 (own_some hret) hlk (by decide) (by decide) rfl ⟨⟨b1, _, rfl, g_b1, sz_b1, Vq3⟩, N3, K3⟩)
abbrev own_y2 : MethodName := ⟨"java/lang/StringUTF16", "coderFromArrayLen", "([BI)B"⟩
theorem od_jdk_52_m_15_0 : decode jdk_52_method_15_code 0 = .ok (.iload_n 1, 1) := by decide +kernel
theorem od_jdk_52_m_15_1 : decode jdk_52_method_15_code 1 = .ok (.aload_n 0, 1) := by decide +kernel
theorem od_jdk_52_m_15_2 : decode jdk_52_method_15_code 2 = .ok (.arraylength, 1) := by decide +kernel
theorem od_jdk_52_m_15_3 : decode jdk_52_method_15_code 3 = .ok (.isub, 1) := by decide +kernel
theorem od_jdk_52_m_15_4 : decode jdk_52_method_15_code 4 = .ok (.bipush 31, 2) := by decide +kernel
theorem od_jdk_52_m_15_6 : decode jdk_52_method_15_code 6 = .ok (.iushr, 1) := by decide +kernel
theorem od_jdk_52_m_15_7 : decode jdk_52_method_15_code 7 = .ok (.i2b, 1) := by decide +kernel
theorem od_jdk_52_m_15_8 : decode jdk_52_method_15_code 8 = .ok (.ireturn, 1) := by decide +kernel
theorem own_efcdr_4 (m : MethodId) (x0 : Addr) (x1 : Int32) : entryFrame m #[(.ref x0), (.int x1)] 2 = mkF m 0 #[rv x0, iv x1] [] := by first | (simp [entryFrame, mkF, argsToLocals, Value.category]; done) | rfl
def own_Qcdr_4 (Z : State) (a1 : Addr) (ka : ClassId) (ch0 ch1 ch2 ch3 : Int32) (h0 : Heap) (n0 : Nat) : Option Value → Heap → List Loc → Prop := fun v h L => v = some (.int 0) ∧ Fr n0 L ∧ h = h0
def own_Rcdr_4 : Room := { frames := 0, cells := 0, slots := 0, locals := 0 }
set_option maxRecDepth 65536 in
set_option maxHeartbeats 40000000 in
theorem own_rmcdr_4 (l : Launch) (Z : State) (a0 : Array Value) (hw : ∀ d ∈ tables_1, d.before a0 Z = true) (ws : List Jvm.Cond) (a1 : Addr) (ka : ClassId) (ch0 ch1 ch2 ch3 : Int32) (h0 : Heap) (n0 : Nat) (Z0 : n0 ≤ h0.size) (V1 : Arv Z h0 a1 ka .byte (4 : Int32) [(.int (own_by ch0)), (.int (own_by ch1)), (.int (own_by ch2)), (.int (own_by ch3))] (.int 0)) :
    own_Met l Z own_y2 jdk_52_method_15_code 2 (some .byte) ws own_Rcdr_4 h0 #[(.ref a1), (.int 4)] (own_Qcdr_4 Z a1 ka ch0 ch1 ch2 ch3 h0 n0) own_Rcdr_4.cells own_Rcdr_4.slots := by
  refine own_start (plainFor_of_name own_pn0) ?_
  intro p e s m below meth c s₁ X0 hx hZ hby hml hret hlk hown hnm e0
  have hown : s.vm.findClass "java/lang/StringUTF16" = some m.cls := hown
  have hml : c.maxLocals = 2 := hml
  have N0 := Fr.nil n0
  refine own_cast (own_efcdr_4 m a1 (4 : Int32)) ?_
  refine own_s s₁ (mkF m 2 #[rv a1, iv 4] [(.ref a1), (.int 4)]) (fun _ k => XS.iloadN X0.here hx rfl (hb hby od_jdk_52_m_15_0) rfl  (XS.aloadN X0.here hx rfl (hb hby od_jdk_52_m_15_1) rfl rfl k)) ?_
  obtain ⟨cl1, Ar1, q1, S1, Nn1, H1, G1⟩ := id V1
  refine own_s s₁ (mkF m 8 #[rv a1, iv 4] [(.int ((((0 : Int32).toUInt32 >>> ((31 : Int32) &&& 31).toUInt32).toInt32).toInt8.toInt32))]) (fun _ k => own_len X0 hx hZ e0 Ar1 S1 Nn1 (g := (mkF m 2 #[rv a1, iv 4] [(.ref a1), (.int 4)])) rfl rfl (hb hby od_jdk_52_m_15_2) (XS.isub X0.here hx rfl (hb hby od_jdk_52_m_15_3) rfl (XS.bipush X0.here hx rfl (hb hby od_jdk_52_m_15_4) (XS.iushr X0.here hx rfl (hb hby od_jdk_52_m_15_6) rfl (XS.i2b X0.here hx rfl (hb hby od_jdk_52_m_15_7) rfl k))))) ?_
  exact own_finZ X0 hx (t := .byte) hret (by simp) (z' := (0 : Int32)) (by decide) (hb hby od_jdk_52_m_15_8) (own_end (Qv := (own_Qcdr_4 Z a1 ka ch0 ch1 ch2 ch3 h0 n0)) X0 (own_some hret) hlk (by decide) (by decide) e0 ⟨rfl, N0, rfl⟩)
theorem own_pd1 : parseMethodDescriptor "([CII)[B" = some ⟨[(.array .char), .int, .int], some (.array .byte)⟩ := by decide +kernel
theorem own_pd2 : parseMethodDescriptor "([BI)B" = some ⟨[(.array .byte), .int], some .byte⟩ := by decide +kernel
abbrev own_y3 : MethodName := ⟨"java/lang/String", "<init>", "([CIILjava/lang/Void;)V"⟩
theorem own_pn1 : plainName "java/lang/String" = true := by first | (simp [plainName, overriddenIn]; done) | decide +kernel
theorem od_jdk_42_m_149_0 : decode jdk_42_method_149_code 0 = .ok (.aload_n 0, 1) := by decide +kernel
theorem od_jdk_42_m_149_1 : decode jdk_42_method_149_code 1 = .ok (.invokespecial 1, 3) := by decide +kernel
theorem od_jdk_42_m_149_4 : decode jdk_42_method_149_code 4 = .ok (.iload_n 3, 1) := by decide +kernel
theorem od_jdk_42_m_149_5 : decode jdk_42_method_149_code 5 = .ok (.ifCond .ne 22, 3) := by decide +kernel
theorem od_jdk_42_m_149_27 : decode jdk_42_method_149_code 27 = .ok (.getstatic 38, 3) := by decide +kernel
theorem od_jdk_42_m_149_30 : decode jdk_42_method_149_code 30 = .ok (.ifCond .eq 28, 3) := by decide +kernel
theorem od_jdk_42_m_149_33 : decode jdk_42_method_149_code 33 = .ok (.aload_n 1, 1) := by decide +kernel
theorem od_jdk_42_m_149_34 : decode jdk_42_method_149_code 34 = .ok (.iload_n 2, 1) := by decide +kernel
theorem od_jdk_42_m_149_35 : decode jdk_42_method_149_code 35 = .ok (.iload_n 3, 1) := by decide +kernel
theorem od_jdk_42_m_149_36 : decode jdk_42_method_149_code 36 = .ok (.invokestatic 177, 3) := by decide +kernel
theorem od_jdk_42_m_149_39 : decode jdk_42_method_149_code 39 = .ok (.astore 5, 2) := by decide +kernel
theorem od_jdk_42_m_149_41 : decode jdk_42_method_149_code 41 = .ok (.aload_n 0, 1) := by decide +kernel
theorem od_jdk_42_m_149_42 : decode jdk_42_method_149_code 42 = .ok (.aload 5, 2) := by decide +kernel
theorem od_jdk_42_m_149_44 : decode jdk_42_method_149_code 44 = .ok (.iload_n 3, 1) := by decide +kernel
theorem od_jdk_42_m_149_45 : decode jdk_42_method_149_code 45 = .ok (.invokestatic 47, 3) := by decide +kernel
theorem od_jdk_42_m_149_48 : decode jdk_42_method_149_code 48 = .ok (.putfield 15, 3) := by decide +kernel
theorem od_jdk_42_m_149_51 : decode jdk_42_method_149_code 51 = .ok (.aload_n 0, 1) := by decide +kernel
theorem od_jdk_42_m_149_52 : decode jdk_42_method_149_code 52 = .ok (.aload 5, 2) := by decide +kernel
theorem od_jdk_42_m_149_54 : decode jdk_42_method_149_code 54 = .ok (.putfield 9, 3) := by decide +kernel
theorem od_jdk_42_m_149_57 : decode jdk_42_method_149_code 57 = .ok (.return_, 1) := by decide +kernel
theorem own_efsi4_4 (m : MethodId) (x0 : Addr) (x1 : Addr) (x2 : Int32) (x3 : Int32) : entryFrame m #[(.ref x0), (.ref x1), (.int x2), (.int x3), .null] 6 = mkF m 0 #[rv x0, rv x1, iv x2, iv x3, .val .null, u_] [] := by first | (simp [entryFrame, mkF, argsToLocals, Value.category]; done) | rfl
def own_Qsi4_4 (Z : State) (a1 : Addr) (a2 : Addr) (kb : ClassId) (gC : Int32) (ch0 ch1 ch2 ch3 : Int32) (h0 : Heap) (n0 : Nat) : Option Value → Heap → List Loc → Prop := fun v h L => v = none ∧ Fr n0 L ∧ Keep h0 h [a1] ∧ Exa Z h a1 "java/lang/String" ∧ Fld Z h a1 "java/lang/String" "coder" "B" (.int 0) ∧ ∃ (b : Addr) (k : ClassId), n0 ≤ b ∧ h0.size ≤ b ∧ Fld Z h a1 "java/lang/String" "value" "[B" (.ref b) ∧ Arv Z h b k .byte (4 : Int32) [(.int (own_by ch0)), (.int (own_by ch1)), (.int (own_by ch2)), (.int (own_by ch3))] (.int 0)
def own_Rsi4_4 : Room := { frames := 2, cells := 1, slots := 4, locals := 35 }
set_option maxRecDepth 65536 in
set_option maxHeartbeats 40000000 in
theorem own_rmsi4_4 (l : Launch) (Z : State) (a0 : Array Value) (hw : ∀ d ∈ tables_1, d.before a0 Z = true) (ws : List Jvm.Cond) (a1 : Addr) (a2 : Addr) (kb : ClassId) (gC : Int32) (ch0 ch1 ch2 ch3 : Int32) (h0 : Heap) (n0 : Nat) (Z0 : n0 ≤ h0.size) (g_a1 : n0 ≤ a1) (E1 : Exa Z h0 a1 "java/lang/String") (C1 : Fld Z h0 a1 "java/lang/String" "coder" "B" (.int 0)) (W1 : Fld Z h0 a1 "java/lang/String" "value" "[B" .null) (V2 : Arv Z h0 a2 kb .char (4 : Int32) [(.int ch0), (.int ch1), (.int ch2), (.int ch3)] (.int 0)) (hne : a2 ≠ a1) (SC : Sta Z h0 "java/lang/String" "COMPACT_STRINGS" "Z" (.int gC)) (hG : ¬ gC = (0 : Int32)) (hc0 : ¬ (255 : Int32) < ch0) (hc1 : ¬ (255 : Int32) < ch1) (hc2 : ¬ (255 : Int32) < ch2) (hc3 : ¬ (255 : Int32) < ch3) :
    own_Met l Z own_y3 jdk_42_method_149_code 6 none ws own_Rsi4_4 h0 #[(.ref a1), (.ref a2), (.int 0), (.int 4), .null] (own_Qsi4_4 Z a1 a2 kb gC ch0 ch1 ch2 ch3 h0 n0) own_Rsi4_4.cells own_Rsi4_4.slots := by
  refine own_start (plainFor_of_name own_pn1) ?_
  intro p e s m below meth c s₁ X0 hx hZ hby hml hret hlk hown hnm e0
  have hown : s.vm.findClass "java/lang/String" = some m.cls := hown
  have hml : c.maxLocals = 6 := hml
  have N0 := Fr.nil n0
  refine own_cast (own_efsi4_4 m a1 a2 (0 : Int32) (4 : Int32)) ?_
  refine own_s s₁ (mkF m 1 #[rv a1, rv a2, iv 0, iv 4, .val .null, u_] [(.ref a1)]) (fun _ k => XS.aloadN X0.here hx rfl (hb hby od_jdk_42_m_149_0) rfl rfl k) ?_
  obtain ⟨T1, X1, e1, st1⟩ := initO X0 hx hZ hown (own_h hw 13 rfl) (own_h hw 14 rfl) (own_h hw 15 rfl) e0 (g := (mkF m 1 #[rv a1, rv a2, iv 0, iv 4, .val .null, u_] [(.ref a1)])) rfl (by rw [hml]; rfl) rfl (hb hby od_jdk_42_m_149_1) (by decide) (W := 0) (by show 2 * 0 + _ ≤ _; exact Nat.le_of_eq rfl) (by decide)
  refine own_s T1 (mkF m 4 #[rv a1, rv a2, iv 0, iv 4, .val .null, u_] []) st1 ?_
  refine own_s T1 (mkF m 27 #[rv a1, rv a2, iv 0, iv 4, .val .null, u_] []) (fun _ k => XS.iloadN X1.here hx rfl (hb hby od_jdk_42_m_149_4) rfl  (XS.ifYes X1.here hx rfl (pc0 := 5) (pc' := 27) rfl (hb hby od_jdk_42_m_149_5) rfl ((if0 _ _).trans (feq (by decide : ¬ ((4 : Int32) = (0 : Int32)))).2) (by decide) (by decide) k)) ?_
  obtain ⟨T2, X2, e2, st2⟩ := getS2 X1 hx hZ hown (host := "") (Or.inl (own_h hw 16 rfl)) Via.refl e1 SC (g := (mkF m 27 #[rv a1, rv a2, iv 0, iv 4, .val .null, u_] [])) rfl (hb hby od_jdk_42_m_149_27)
  refine own_s T2 (mkF m 30 #[rv a1, rv a2, iv 0, iv 4, .val .null, u_] [(.int gC)]) st2 ?_
  refine own_s T2 (mkF m 36 #[rv a1, rv a2, iv 0, iv 4, .val .null, u_] [(.int 4), (.int 0), (.ref a2)]) (fun _ k => XS.ifNo X2.here hx rfl (hb hby od_jdk_42_m_149_30) rfl ((if0 _ _).trans (feq hG).1) (XS.aloadN X2.here hx rfl (hb hby od_jdk_42_m_149_33) rfl rfl (XS.iloadN X2.here hx rfl (hb hby od_jdk_42_m_149_34) rfl  (XS.iloadN X2.here hx rfl (hb hby od_jdk_42_m_149_35) rfl  k)))) ?_
  obtain ⟨v3, T3, L3, X3, hQ3, st3⟩ := own_callS X2 hx hZ (y := own_y1) (W := 0) hown (own_h hw 17 rfl) (own_h hw 18 rfl) (own_h hw 19 rfl) (own_h hw 20 rfl) (by decide) (own_rmz3_4 l Z a0 hw [] a2 kb ch0 ch1 ch2 ch3 h0 n0 Z0 V2 hc0 hc1 hc2 hc3) (by decide) (by decide) (g := (mkF m 36 #[rv a1, rv a2, iv 0, iv 4, .val .null, u_] [(.int 4), (.int 0), (.ref a2)])) rfl (by rw [hml]; rfl) (argsL := [(.ref a2), (.int 0), (.int 4)]) (rest := []) rfl (lenOf own_pd1 rfl) rfl (by show 2 * 0 + _ ≤ _; exact Nat.le_of_eq rfl) (hb hby od_jdk_42_m_149_36) e2 (by decide) (by decide)
  obtain ⟨⟨b3, k3, rfl, g_b3, sq3, Vq3⟩, Nq3, Kq3⟩ := hQ3
  have N3 := Fr.app N0 Nq3
  have ne_a1_b3 : a1 ≠ b3 := Nat.ne_of_lt (Nat.lt_of_lt_of_le E1.lt sq3)
  have ne_a2_b3 : a2 ≠ b3 := Nat.ne_of_lt (Nat.lt_of_lt_of_le V2.lt sq3)
  have sz_b3 : h0.size ≤ b3 := Nat.le_trans (Keep.refl h0 [a1]).1 sq3
  have f4 := E1.keep Kq3
  have f5 := C1.keep Kq3 nin0
  have f6 := W1.keep Kq3 nin0
  have f7 := V2.keep Kq3 nin0
  have f8 := own_staKeep SC Kq3
  have K3 : Keep h0 T3.heap [a1] := (Keep.refl h0 [a1]).trans Kq3 all0
  have Z3 := Nat.le_trans Z0 Kq3.1
  refine own_s T3 (mkF m 39 #[rv a1, rv a2, iv 0, iv 4, .val .null, u_] [(.ref b3)]) st3 ?_
  refine own_s T3 (mkF m 45 #[rv a1, rv a2, iv 0, iv 4, .val .null, rv b3] [(.int 4), (.ref b3), (.ref a1)]) (fun _ k => XS.astore X3.here hx rfl (hb hby od_jdk_42_m_149_39) rfl rfl (l' := #[rv a1, rv a2, iv 0, iv 4, .val .null, rv b3]) rfl (XS.aloadN X3.here hx rfl (hb hby od_jdk_42_m_149_41) rfl rfl (XS.aload X3.here hx rfl (hb hby od_jdk_42_m_149_42) rfl rfl (XS.iloadN X3.here hx rfl (hb hby od_jdk_42_m_149_44) rfl  k)))) ?_
  obtain ⟨v9, T9, L9, X9, hQ9, st9⟩ := own_callS X3 hx hZ (y := own_y2) (W := 1) hown (own_h hw 25 rfl) (own_h hw 26 rfl) (own_h hw 19 rfl) (own_h hw 27 rfl) (by decide) (own_rmcdr_4 l Z a0 hw [] b3 k3 ch0 ch1 ch2 ch3 T3.heap n0 Z3 Vq3) (by decide) (by decide) (g := (mkF m 45 #[rv a1, rv a2, iv 0, iv 4, .val .null, rv b3] [(.int 4), (.ref b3), (.ref a1)])) rfl (by rw [hml]; rfl) (argsL := [(.ref b3), (.int 4)]) (rest := [(.ref a1)]) rfl (lenOf own_pd2 rfl) rfl (by show 2 * 0 + _ ≤ _; exact Nat.le_of_eq rfl) (hb hby od_jdk_42_m_149_45) rfl (by decide) (by decide)
  obtain ⟨rfl, Nq9, e9⟩ := hQ9
  have N9 := Fr.app N3 Nq9
  refine own_s T9 (mkF m 48 #[rv a1, rv a2, iv 0, iv 4, .val .null, rv b3] [(.int 0), (.ref a1)]) st9 ?_
  obtain ⟨T10, h10, X10, e10, W10, st10⟩ := putFN X9 hx hZ hown (own_h hw 28 rfl) Via.refl e9 f5 f4 (Or.inr ⟨(own_h hw 29 rfl), rfl, hnm⟩) (own_h hw 4 rfl) (ty := .byte) (v' := (.int 0)) (by decide) rfl rfl (g := (mkF m 48 #[rv a1, rv a2, iv 0, iv 4, .val .null, rv b3] [(.int 0), (.ref a1)])) rfl rfl (hb hby od_jdk_42_m_149_48)
  have Fw10 := Fld.same W10 f5
  have f11 := Exa.wr W10 f4
  have f12 := Fld.other W10 f6 (Or.inr (slot_ne (Or.inr (own_h hw 31 rfl)) (Or.inr (own_h hw 29 rfl)) (by decide) (t := (.array .byte)) (t' := .byte) (by decide) (by decide)))
  have f13 := f7.other W10 hne
  have f14 := Sta.wr W10 f8
  have f15 := Vq3.other W10 (Ne.symm ne_a1_b3)
  have K10 : Keep h0 h10 [a1] := K3.wr W10 (Or.inl (List.mem_of_getElem? (i := 0) rfl))
  have Z10 := Nat.le_trans Z3 (Nat.le_of_eq W10.size.symm)
  have N10 := Fr.snoc X10 N9 g_a1
  refine own_s T10 (mkF m 51 #[rv a1, rv a2, iv 0, iv 4, .val .null, rv b3] []) st10 ?_
  refine own_s T10 (mkF m 54 #[rv a1, rv a2, iv 0, iv 4, .val .null, rv b3] [(.ref b3), (.ref a1)]) (fun _ k => XS.aloadN X10.here hx rfl (hb hby od_jdk_42_m_149_51) rfl rfl (XS.aload X10.here hx rfl (hb hby od_jdk_42_m_149_52) rfl rfl k)) ?_
  obtain ⟨T16, h16, X16, e16, W16, st16⟩ := putF X10 hx hZ hown (host := "") (Or.inl (own_h hw 30 rfl)) Via.refl e10 f12 f11 (Or.inr ⟨(own_h hw 31 rfl), rfl, hnm⟩) (own_h hw 4 rfl) (ty := (.array .byte)) (by decide) rfl rfl (g := (mkF m 54 #[rv a1, rv a2, iv 0, iv 4, .val .null, rv b3] [(.ref b3), (.ref a1)])) rfl rfl (hb hby od_jdk_42_m_149_54)
  have Fw16 := Fld.same W16 f12
  have f17 := Exa.wr W16 f11
  have f18 := Fld.other W16 Fw10 (Or.inr (slot_ne (Or.inr (own_h hw 29 rfl)) (Or.inr (own_h hw 31 rfl)) (by decide) (t := .byte) (t' := (.array .byte)) (by decide) (by decide)))
  have f19 := f13.other W16 hne
  have f20 := Sta.wr W16 f14
  have f21 := f15.other W16 (Ne.symm ne_a1_b3)
  have K16 : Keep h0 h16 [a1] := K10.wr W16 (Or.inl (List.mem_of_getElem? (i := 0) rfl))
  have Z16 := Nat.le_trans Z10 (Nat.le_of_eq W16.size.symm)
  have N16 := Fr.snoc X16 N10 g_a1
  refine own_s T16 (mkF m 57 #[rv a1, rv a2, iv 0, iv 4, .val .null, rv b3] []) st16 ?_
  exact own_finV X16 hx hret (hb hby od_jdk_42_m_149_57) (own_end (Qv := (own_Qsi4_4 Z a1 a2 kb gC ch0 ch1 ch2 ch3 h0 n0)) X16 (fun _ => rfl) hlk (by decide) (by decide) e16 ⟨rfl, N16, K16, f17, f18, b3, _, g_b3, sz_b3, Fw16, f21⟩)
theorem own_pd3 : parseMethodDescriptor "([CIILjava/lang/Void;)V" = some ⟨[(.array .char), .int, .int, (.object "java/lang/Void")], none⟩ := by decide +kernel
abbrev own_y4 : MethodName := ⟨"java/lang/String", "<init>", "([C)V"⟩
theorem od_jdk_42_m_3_0 : decode jdk_42_method_3_code 0 = .ok (.aload_n 0, 1) := by decide +kernel
theorem od_jdk_42_m_3_1 : decode jdk_42_method_3_code 1 = .ok (.aload_n 1, 1) := by decide +kernel
theorem od_jdk_42_m_3_2 : decode jdk_42_method_3_code 2 = .ok (.iconst 0, 1) := by decide +kernel
theorem od_jdk_42_m_3_3 : decode jdk_42_method_3_code 3 = .ok (.aload_n 1, 1) := by decide +kernel
theorem od_jdk_42_m_3_4 : decode jdk_42_method_3_code 4 = .ok (.arraylength, 1) := by decide +kernel
theorem od_jdk_42_m_3_5 : decode jdk_42_method_3_code 5 = .ok (.aconst_null, 1) := by decide +kernel
theorem od_jdk_42_m_3_6 : decode jdk_42_method_3_code 6 = .ok (.invokespecial 27, 3) := by decide +kernel
theorem od_jdk_42_m_3_9 : decode jdk_42_method_3_code 9 = .ok (.return_, 1) := by decide +kernel
theorem own_efsi1_4 (m : MethodId) (x0 : Addr) (x1 : Addr) : entryFrame m #[(.ref x0), (.ref x1)] 2 = mkF m 0 #[rv x0, rv x1] [] := by first | (simp [entryFrame, mkF, argsToLocals, Value.category]; done) | rfl
def own_Qsi1_4 (Z : State) (a1 : Addr) (a2 : Addr) (kb : ClassId) (gC : Int32) (ch0 ch1 ch2 ch3 : Int32) (h0 : Heap) (n0 : Nat) : Option Value → Heap → List Loc → Prop := fun v h L => v = none ∧ Fr n0 L ∧ Keep h0 h [a1] ∧ Exa Z h a1 "java/lang/String" ∧ Fld Z h a1 "java/lang/String" "coder" "B" (.int 0) ∧ ∃ (b : Addr) (k : ClassId), n0 ≤ b ∧ h0.size ≤ b ∧ Fld Z h a1 "java/lang/String" "value" "[B" (.ref b) ∧ Arv Z h b k .byte (4 : Int32) [(.int (own_by ch0)), (.int (own_by ch1)), (.int (own_by ch2)), (.int (own_by ch3))] (.int 0)
def own_Rsi1_4 : Room := { frames := 3, cells := 1, slots := 4, locals := 52 }
set_option maxRecDepth 65536 in
set_option maxHeartbeats 40000000 in
theorem own_rmsi1_4 (l : Launch) (Z : State) (a0 : Array Value) (hw : ∀ d ∈ tables_1, d.before a0 Z = true) (ws : List Jvm.Cond) (a1 : Addr) (a2 : Addr) (kb : ClassId) (gC : Int32) (ch0 ch1 ch2 ch3 : Int32) (h0 : Heap) (n0 : Nat) (Z0 : n0 ≤ h0.size) (g_a1 : n0 ≤ a1) (E1 : Exa Z h0 a1 "java/lang/String") (C1 : Fld Z h0 a1 "java/lang/String" "coder" "B" (.int 0)) (W1 : Fld Z h0 a1 "java/lang/String" "value" "[B" .null) (V2 : Arv Z h0 a2 kb .char (4 : Int32) [(.int ch0), (.int ch1), (.int ch2), (.int ch3)] (.int 0)) (hne : a2 ≠ a1) (SC : Sta Z h0 "java/lang/String" "COMPACT_STRINGS" "Z" (.int gC)) (hG : ¬ gC = (0 : Int32)) (hc0 : ¬ (255 : Int32) < ch0) (hc1 : ¬ (255 : Int32) < ch1) (hc2 : ¬ (255 : Int32) < ch2) (hc3 : ¬ (255 : Int32) < ch3) :
    own_Met l Z own_y4 jdk_42_method_3_code 2 none ws own_Rsi1_4 h0 #[(.ref a1), (.ref a2)] (own_Qsi1_4 Z a1 a2 kb gC ch0 ch1 ch2 ch3 h0 n0) own_Rsi1_4.cells own_Rsi1_4.slots := by
  refine own_start (plainFor_of_name own_pn1) ?_
  intro p e s m below meth c s₁ X0 hx hZ hby hml hret hlk hown hnm e0
  have hown : s.vm.findClass "java/lang/String" = some m.cls := hown
  have hml : c.maxLocals = 2 := hml
  have N0 := Fr.nil n0
  refine own_cast (own_efsi1_4 m a1 a2) ?_
  refine own_s s₁ (mkF m 4 #[rv a1, rv a2] [(.ref a2), (.int 0), (.ref a2), (.ref a1)]) (fun _ k => XS.aloadN X0.here hx rfl (hb hby od_jdk_42_m_3_0) rfl rfl (XS.aloadN X0.here hx rfl (hb hby od_jdk_42_m_3_1) rfl rfl (XS.iconst X0.here hx rfl (hb hby od_jdk_42_m_3_2) (XS.aloadN X0.here hx rfl (hb hby od_jdk_42_m_3_3) rfl rfl k)))) ?_
  obtain ⟨cl1, Ar1, q1, S1, Nn1, H1, G1⟩ := id V2
  refine own_s s₁ (mkF m 6 #[rv a1, rv a2] [.null, (.int 4), (.int 0), (.ref a2), (.ref a1)]) (fun _ k => own_len X0 hx hZ e0 Ar1 S1 Nn1 (g := (mkF m 4 #[rv a1, rv a2] [(.ref a2), (.int 0), (.ref a2), (.ref a1)])) rfl rfl (hb hby od_jdk_42_m_3_4) (XS.aconstNull X0.here hx rfl (hb hby od_jdk_42_m_3_5) k)) ?_
  obtain ⟨v2, T2, L2, X2, hQ2, st2⟩ := own_callI X0 hx hZ (y := own_y3) (W := 0) (a := a1) rfl hown (own_h hw 9 rfl) (own_h hw 10 rfl) (own_h hw 5 rfl) (own_h hw 12 rfl) (by decide) (own_rmsi4_4 l Z a0 hw [] a1 a2 kb gC ch0 ch1 ch2 ch3 h0 n0 Z0 g_a1 E1 C1 W1 V2 hne SC hG hc0 hc1 hc2 hc3) (by decide) (by decide) (g := (mkF m 6 #[rv a1, rv a2] [.null, (.int 4), (.int 0), (.ref a2), (.ref a1)])) rfl (by rw [hml]; rfl) (argsL := [(.ref a2), (.int 0), (.int 4), .null]) (rest := []) rfl (lenOf own_pd3 rfl) rfl (by show 2 * 0 + _ ≤ _; exact Nat.le_of_eq rfl) (hb hby od_jdk_42_m_3_6) e0 (by decide) (by decide)
  obtain ⟨rfl, Nq2, Kq2, Eq2, Cq2, b2, k2, g_b2, sq2, Wq2, Vq2⟩ := hQ2
  have N2 := Fr.app N0 Nq2
  have ne_a1_b2 : a1 ≠ b2 := Nat.ne_of_lt (Nat.lt_of_lt_of_le E1.lt sq2)
  have ne_a2_b2 : a2 ≠ b2 := Nat.ne_of_lt (Nat.lt_of_lt_of_le V2.lt sq2)
  have sz_b2 : h0.size ≤ b2 := Nat.le_trans (Keep.refl h0 [a1]).1 sq2
  have f3 := V2.keep Kq2 (ninS hne nin0)
  have f4 := own_staKeepW SC Kq2 (allS E1.nostat all0)
  have K2 : Keep h0 T2.heap [a1] := (Keep.refl h0 [a1]).trans Kq2 (allS (Or.inl (List.mem_of_getElem? (i := 0) rfl)) all0)
  have Z2 := Nat.le_trans Z0 Kq2.1
  refine own_s T2 (mkF m 9 #[rv a1, rv a2] []) st2 ?_
  exact own_finV X2 hx hret (hb hby od_jdk_42_m_3_9) (own_end (Qv := (own_Qsi1_4 Z a1 a2 kb gC ch0 ch1 ch2 ch3 h0 n0)) X2 (fun _ => rfl) hlk (by decide) (by decide) rfl ⟨rfl, N2, K2, Eq2, Cq2, b2, _, g_b2, sz_b2, Wq2, Vq2⟩)

theorem own_m1 : ∀ i, i < 32 → (255#32).getLsbD i = decide (i < 8) := by decide
theorem own_bits (x : BitVec 32) (h : x.toNat < 65536) : (((x.signExtend 8).signExtend 32 &&& 255#32) ||| (((x.sshiftRight 8).signExtend 8).signExtend 32 &&& 255#32) <<< 8) = x := by
  apply BitVec.eq_of_getLsbD_eq
  intro i hi
  have hx : ∀ j, 16 ≤ j → x.getLsbD j = false := fun j hj => by
    rw [BitVec.getLsbD]
    exact Nat.testBit_lt_two_pow (Nat.lt_of_lt_of_le h (Nat.pow_le_pow_right (by omega : 0 < 2) hj))
  have e1 := own_m1 i hi
  by_cases h8 : i < 8
  · simp only [BitVec.getLsbD_or, BitVec.getLsbD_and, BitVec.getLsbD_shiftLeft, BitVec.getLsbD_signExtend, BitVec.getLsbD_sshiftRight, hi, e1, h8]
    simp [h8, hi, show i < 32 from hi]
  · have e2 := own_m1 (i - 8) (by omega)
    by_cases h16 : i < 16
    · have h9 : i - 8 < 8 := by omega
      have h10 : 8 + (i - 8) = i := by omega
      have h11 : i - 8 < 32 := by omega
      have h12 : i - 8 + 8 = i := by omega
      simp only [BitVec.getLsbD_or, BitVec.getLsbD_and, BitVec.getLsbD_shiftLeft, BitVec.getLsbD_signExtend, BitVec.getLsbD_sshiftRight, hi, e1, h8, e2, h9, h10, h11, h12]
      simp [hi, h11]
    · have h9 : ¬ i - 8 < 8 := by omega
      simp only [BitVec.getLsbD_or, BitVec.getLsbD_and, BitVec.getLsbD_shiftLeft, BitVec.getLsbD_signExtend, BitVec.getLsbD_sshiftRight, hi, e1, h8, e2, h9, hx i (by omega)]
      simp
def own_lo (c : Int32) : Int32 := nar .byte ((c >>> ((0 : Int32) &&& 31)).toInt8.toInt32)
def own_hi (c : Int32) : Int32 := nar .byte ((c >>> ((8 : Int32) &&& 31)).toInt8.toInt32)
def own_Ch (c : Int32) : Prop := c.toBitVec.toNat < 65536
theorem own_by2 (c : Int32) : c.toInt8.toInt32.toInt8 = c.toInt8 := by simp
theorem own_i2c {c : Int32} (h : own_Ch c) : c.toUInt32.toUInt16.toUInt32.toInt32 = c := by
  apply Int32.toBitVec_inj.mp
  apply BitVec.eq_of_toNat_eq
  have h' : c.toBitVec.toNat < 65536 := h
  simp
  omega
theorem own_chN (x : Int32) : own_Ch (nar .char x) := by
  show (x.toUInt32.toUInt16.toUInt32.toInt32).toBitVec.toNat < 65536
  simp
  omega
theorem own_utfC {c : Int32} (h : own_Ch c) : nar .char (((((own_lo c) &&& (255 : Int32)) <<< ((0 : Int32) &&& 31)) ||| (((own_hi c) &&& (255 : Int32)) <<< ((8 : Int32) &&& 31))).toUInt32.toUInt16.toUInt32.toInt32) = c := by
  have e : ((((own_lo c) &&& (255 : Int32)) <<< ((0 : Int32) &&& 31)) ||| (((own_hi c) &&& (255 : Int32)) <<< ((8 : Int32) &&& 31))) = c := by
    apply Int32.toBitVec_inj.mp
    have := own_bits c.toBitVec h
    have e0 : (c >>> ((0 : Int32) &&& 31)) = c := by
      apply Int32.toBitVec_inj.mp
      rw [Int32.toBitVec_shiftRight, show ((0 : Int32) &&& 31).toBitVec.smod 32 = 0#32 by decide]
      simp [BitVec.sshiftRight']
    have e8 : (c >>> ((8 : Int32) &&& 31)).toBitVec = c.toBitVec.sshiftRight 8 := by
      rw [Int32.toBitVec_shiftRight, show ((8 : Int32) &&& 31).toBitVec.smod 32 = 8#32 by decide]
      rfl
    have f0 : ∀ x : Int32, (x <<< ((0 : Int32) &&& 31)) = x := fun x => by
      apply Int32.toBitVec_inj.mp
      rw [Int32.toBitVec_shiftLeft, show ((0 : Int32) &&& 31).toBitVec.smod 32 = 0#32 by decide]
      simp
    have f8 : ∀ x : Int32, (x <<< ((8 : Int32) &&& 31)).toBitVec = x.toBitVec <<< 8 := fun x => by
      rw [Int32.toBitVec_shiftLeft, show ((8 : Int32) &&& 31).toBitVec.smod 32 = 8#32 by decide]
      rfl
    have g : ∀ x : Int32, (nar .byte x.toInt8.toInt32 &&& (255 : Int32)).toBitVec = ((x.toBitVec.signExtend 8).signExtend 32 &&& 255#32) := fun x => by
      show (x.toInt8.toInt32.toInt8.toInt32 &&& (255 : Int32)).toBitVec = _
      rw [own_by2, Int32.toBitVec_and, Int8.toBitVec_toInt32, Int32.toBitVec_toInt8]
      rfl
    rw [f0, Int32.toBitVec_or, f8]
    unfold own_lo own_hi
    rw [g, g, e0, e8]
    exact this
  rw [e]
  show c.toUInt32.toUInt16.toUInt32.toInt32.toUInt32.toUInt16.toUInt32.toInt32 = c
  rw [own_i2c h, own_i2c h]
theorem own_latC {c : Int32} (h : own_Ch c) (hl : ¬ (255 : Int32) < c) : nar .char (((own_by c) &&& (255 : Int32)).toUInt32.toUInt16.toUInt32.toInt32) = c := by
  have hn : c.toBitVec.toNat < 256 := by
    have h' : c.toBitVec.toNat < 65536 := h
    have e : c.toInt = c.toBitVec.toNat := by
      show c.toBitVec.toInt = _
      rw [BitVec.toInt_eq_toNat_cond, if_pos (by omega)]
    rw [Int32.not_lt, Int32.le_iff_toInt_le, e] at hl
    have : (255 : Int32).toInt = 255 := rfl
    omega
  have e : (own_by c) &&& (255 : Int32) = c := by
    apply Int32.toBitVec_inj.mp
    show (c.toInt8.toInt32.toInt8.toInt32 &&& (255 : Int32)).toBitVec = _
    rw [own_by2, Int32.toBitVec_and, Int8.toBitVec_toInt32, Int32.toBitVec_toInt8]
    show ((c.toBitVec.signExtend 8).signExtend 32 &&& 255#32) = _
    apply BitVec.eq_of_getLsbD_eq
    intro i hi
    have e1 := own_m1 i hi
    by_cases h8 : i < 8
    · simp only [BitVec.getLsbD_and, BitVec.getLsbD_signExtend, hi, e1, h8]
      simp [hi]
    · have : c.toBitVec.getLsbD i = false := by
        rw [BitVec.getLsbD]
        exact Nat.testBit_lt_two_pow (Nat.lt_of_lt_of_le hn (Nat.pow_le_pow_right (by omega : 0 < 2) (by omega : 8 ≤ i)))
      simp only [BitVec.getLsbD_and, BitVec.getLsbD_signExtend, hi, e1, h8, this]
      simp
  rw [e]
  show c.toUInt32.toUInt16.toUInt32.toInt32.toUInt32.toUInt16.toUInt32.toInt32 = c
  rw [own_i2c h, own_i2c h]
def own_hn (n : Nat) : Int32 := if n < 48 then 0 else if n < 58 then 1 else if n < 65 then 0 else if n < 71 then 1 else if n < 97 then 0 else if n < 103 then 1 else 0
def own_tab : List Value := (List.range 128).map fun n => .int (own_hn n)
theorem own_tabAt {n : Nat} (h : n < 128) : own_tab.getD n (.int 0) = .int (own_hn n) := by
  simp [own_tab, List.getD, List.getElem?_map, List.getElem?_range h]
theorem own_hn01 (n : Nat) : own_hn n = 0 ∨ own_hn n = 1 := by
  unfold own_hn
  repeat' split
  all_goals simp
def own_isx (c : Int32) : Bool := (!decide (c < (48 : Int32)) && !decide ((57 : Int32) < c)) || (!decide (c < (65 : Int32)) && !decide ((70 : Int32) < c)) || (!decide (c < (97 : Int32)) && !decide ((102 : Int32) < c))
def own_hv (c : Int32) : Int32 := own_hn c.toNatClampNeg
def own_hx (c : Int32) : Bool := decide (c < (128 : Int32)) && !decide (own_hv c = (0 : Int32))
def own_ri (a b : Int32) : Int32 := cond (own_hx a && own_hx b) 1 0
theorem own_chI {c : Int32} (h : own_Ch c) : c.toInt = (c.toBitVec.toNat : Int) := by
  have h' : c.toBitVec.toNat < 65536 := h
  show c.toBitVec.toInt = _
  rw [BitVec.toInt_eq_toNat_cond, if_pos (by omega)]
theorem own_chC {c : Int32} (h : own_Ch c) : c.toNatClampNeg = c.toBitVec.toNat := by
  simp only [Int32.toNatClampNeg, own_chI h, Int.toNat_natCast]
theorem own_ltT (a b : Int32) : (a < b) ↔ a.toInt < b.toInt := Int32.lt_iff_toInt_lt
theorem own_ch0 {c : Int32} (h : own_Ch c) : ¬ c < 0 := by
  rw [own_ltT, own_chI h]
  have : (0 : Int32).toInt = 0 := rfl
  omega
theorem own_ch128 {c : Int32} (h : own_Ch c) (q : c < (128 : Int32)) : c.toNatClampNeg < 128 := by
  rw [own_ltT, own_chI h] at q
  have : (128 : Int32).toInt = 128 := rfl
  rw [own_chC h]; omega
theorem own_hxeq {c : Int32} (h : own_Ch c) : own_hx c = own_isx c := by
  have e := own_chI h; have f := own_chC h
  have k1 : (128 : Int32).toInt = 128 := rfl
  have k2 : (48 : Int32).toInt = 48 := rfl
  have k3 : (57 : Int32).toInt = 57 := rfl
  have k4 : (65 : Int32).toInt = 65 := rfl
  have k5 : (70 : Int32).toInt = 70 := rfl
  have k6 : (97 : Int32).toInt = 97 := rfl
  have k7 : (102 : Int32).toInt = 102 := rfl
  generalize c.toBitVec.toNat = n at *
  rw [Bool.eq_iff_iff]
  simp only [own_hx, own_isx, own_hv, f, own_ltT, e, k1, k2, k3, k4, k5, k6, k7, Bool.and_eq_true, Bool.or_eq_true, Bool.not_eq_true', decide_eq_true_eq, decide_eq_false_iff_not]
  unfold own_hn
  repeat' split
  all_goals first | (simp; omega) | omega
theorem own_ri0 {a b : Int32} (h : own_Ch a) (q : own_isx a = false) : own_ri a b = (0 : Int32) := by simp [own_ri, own_hxeq h, q]
theorem own_ri1 {a b : Int32} (h : own_Ch b) (q : own_isx b = false) : own_ri a b = (0 : Int32) := by simp [own_ri, own_hxeq h, q]
theorem own_ri2 {a b : Int32} (ha : own_Ch a) (hb : own_Ch b) (q : ¬ own_isx a = false) (r : ¬ own_isx b = false) : own_ri a b = (1 : Int32) := by
  rw [Bool.not_eq_false] at q r
  simp [own_ri, own_hxeq ha, own_hxeq hb, q, r]
theorem own_riN {a b : Int32} (h : ¬ own_ri a b = (0 : Int32)) : own_ri a b = (1 : Int32) := by
  revert h; unfold own_ri; cases own_hx a && own_hx b <;> simp
theorem own_fold (f : Nat → Option Bool) : ∀ (l : List Nat) (acc : Option Bool), l.foldl (fun acc i => match acc with | some true => f i | x => x) acc = some true → acc = some true ∧ ∀ i ∈ l, f i = some true
  | [], acc, h => ⟨h, fun _ q => nomatch q⟩
  | a :: l, acc, h => by
    obtain ⟨h1, h2⟩ := own_fold f l _ h
    match acc, h1 with
    | some true, h1 => exact ⟨rfl, fun i hi => (List.mem_cons.mp hi).elim (fun q => q ▸ h1) (h2 i)⟩
theorem own_all {args : Array Value} {s : State} {t : Term} {c : Jvm.Cond} {a : Addr} {cl : Cell} (h : (Cond.all t c).value args s none s [] = some true) (ht : t.eval args s none [] s = some (.ref a)) (ha : s.arrayAt? a = some cl) : ∀ i, i < cl.slots.size → c.value args s none s [i] = some true := by
  simp only [Cond.value, ht, ha] at h
  exact fun i hi => (own_fold _ _ _ h).2 i (List.mem_range.mpr hi)
theorem own_orR {args : Array Value} {s : State} {G X : Jvm.Cond} {idx : List Nat} (h : (Cond.or G X).value args s none s idx = some true) (g : G.value args s none s idx = some false) : X.value args s none s idx = some true := by
  simpa only [Cond.value, g] using h
theorem own_i32 {i : Nat} (h : i < 128) : (Nat.toInt32 i).toInt = i := len_toInt (Nat.lt_trans h (by decide))
theorem own_gl {args : Array Value} {s : State} {i : Nat} (hi : i < 128) {k : Int32} (h : ¬ (i : Int) < k.toInt) : (Cond.lt (.index 0) (.int k)).value args s none s [i] = some false := by
  have : ¬ Nat.toInt32 i < k := by rw [own_ltT, own_i32 hi]; exact h
  simp [Cond.value, Term.eval, this]
theorem own_gr {args : Array Value} {s : State} {i : Nat} (hi : i < 128) {k : Int32} (h : (i : Int) < k.toInt) : (Cond.le (.int k) (.index 0)).value args s none s [i] = some false := by
  have : ¬ k ≤ Nat.toInt32 i := by rw [Int32.le_iff_toInt_le, own_i32 hi]; omega
  simp [Cond.value, Term.eval, this]
theorem own_elemX {args : Array Value} {s : State} {t : Term} {a : Addr} {cl : Cell} {i : Nat} {k : Int32} (h : (Cond.eq (.elem t (.index 0)) (.int k)).value args s none s [i] = some true) (ht : t.eval args s none [i] s = some (.ref a)) (hc : s.heap[a]? = some cl) (hi : i < 128) : cl.slots[i]? = some (.int k) := by
  obtain ⟨x, y, hx, hy, k1, k2⟩ := cmp_v (Or.inl h)
  have hy' : some (Value.int k) = some y := hy
  cases hy'
  obtain ⟨z, rfl⟩ := k2
  have e : z = k := by simpa [Cond.value, hx, hy] using h
  subst e
  have := (elem_in hx ht (j := Nat.toInt32 i) rfl hc).2
  have q : (Nat.toInt32 i).toNatClampNeg = i := by simp only [Int32.toNatClampNeg, own_i32 hi, Int.toNat_natCast]
  rwa [q] at this
theorem own_tabStart {Z : State} {a : Addr} {cl : Cell} (A : Arr Z Z.heap a cl .boolean) (lz : cl.slots.size < 2 ^ 31) (ls : cl.slots.size.toInt32 = (128 : Int32)) (H : ∀ i, i < 128 → cl.slots[i]? = some (.int (own_hn i))) : Arv Z Z.heap a cl.cls .boolean (128 : Int32) own_tab (.int 0) := by
  have S : cl.slots.size = (128 : Int32).toNatClampNeg := by rw [← ls]; simp only [Int32.toNatClampNeg, len_toInt lz]; rfl
  have e : (128 : Int32).toNatClampNeg = 128 := rfl
  rw [e] at S
  refine ⟨cl, A, rfl, S, by decide, fun i hi => ?_, fun i hi => ?_⟩
  · rw [S] at hi; rw [own_tabAt hi]; exact H i hi
  · rw [S] at hi; rw [own_tabAt hi]
    rcases own_hn01 i with q | q <;> rw [q] <;> rfl
theorem own_narC {c : Int32} (h : own_Ch c) : nar .char c = c := own_i2c h
theorem own_and3 (x : Int32) : (x &&& (3 : Int32)) = (0 : Int32) ∨ (x &&& (3 : Int32)) = (1 : Int32) ∨ (x &&& (3 : Int32)) = (2 : Int32) ∨ (x &&& (3 : Int32)) = (3 : Int32) := by
  obtain ⟨h1, h2⟩ := Jvm.Kit.i32_and_bounds x (m := 3) (by decide)
  rw [Int32.le_iff_toInt_le] at h1 h2
  have e0 : (0 : Int32).toInt = 0 := rfl
  have e3 : (3 : Int32).toInt = 3 := rfl
  rw [e0] at h1; rw [e3] at h2
  rcases (by omega : (x &&& (3 : Int32)).toInt = 0 ∨ (x &&& (3 : Int32)).toInt = 1 ∨ (x &&& (3 : Int32)).toInt = 2 ∨ (x &&& (3 : Int32)).toInt = 3) with h | h | h | h
  · exact Or.inl (Int32.toInt_inj.mp h)
  · exact Or.inr (Or.inl (Int32.toInt_inj.mp h))
  · exact Or.inr (Or.inr (Or.inl (Int32.toInt_inj.mp h)))
  · exact Or.inr (Or.inr (Or.inr (Int32.toInt_inj.mp h)))
theorem own_e5 (x k : Int32) (hk : 4 ≤ k.toInt) : ¬ k < ((x &&& (2147483647 : Int32)) % (5 : Int32)) := by
  have h : 0 ≤ (x &&& (2147483647 : Int32)).toInt := by
    have := (Jvm.Kit.i32_and_bounds x (m := 2147483647) (by decide)).1
    rw [Int32.le_iff_toInt_le] at this
    exact this
  rw [own_ltT, Int32.toInt_mod, Int.tmod_eq_emod_of_nonneg h]
  have e5 : (5 : Int32).toInt = 5 := rfl
  rw [e5]
  have := Int.emod_lt_of_pos (x &&& (2147483647 : Int32)).toInt (by omega : (0 : Int) < 5)
  omega
theorem own_cases (a b c d : Int32) : (¬ (255 : Int32) < a ∧ ¬ (255 : Int32) < b ∧ ¬ (255 : Int32) < c ∧ ¬ (255 : Int32) < d) ∨ ((255 : Int32) < a ∨ (¬ (255 : Int32) < a ∧ (255 : Int32) < b) ∨ (¬ (255 : Int32) < a ∧ ¬ (255 : Int32) < b ∧ (255 : Int32) < c) ∨ (¬ (255 : Int32) < a ∧ ¬ (255 : Int32) < b ∧ ¬ (255 : Int32) < c ∧ (255 : Int32) < d)) := by
  by_cases h1 : (255 : Int32) < a
  · exact Or.inr (Or.inl h1)
  · by_cases h2 : (255 : Int32) < b
    · exact Or.inr (Or.inr (Or.inl ⟨h1, h2⟩))
    · by_cases h3 : (255 : Int32) < c
      · exact Or.inr (Or.inr (Or.inr (Or.inl ⟨h1, h2, h3⟩)))
      · by_cases h4 : (255 : Int32) < d
        · exact Or.inr (Or.inr (Or.inr (Or.inr ⟨h1, h2, h3, h4⟩)))
        · exact Or.inl ⟨h1, h2, h3, h4⟩
theorem own_staEq {args : Array Value} {s : State} {Cc n d : String} {k : Int32} (h : (Jvm.Cond.eq (.static Cc n d) (.int k)).value args s none s [] = some true) (hi : (Jvm.Cond.initializedFor Cc n d).before args s = true) : Sta s s.heap Cc n d (.int k) := by
  obtain ⟨x, y, hx, hy, k1, k2⟩ := cmp_v (Or.inl h)
  have hy' : some (Value.int k) = some y := hy
  cases hy'
  obtain ⟨z, rfl⟩ := k2
  have e : z = k := by simpa [Cond.value, hx, hy] using h
  subst e
  exact Sta.start hx (Or.inl hi)
def own_Str (Z : State) (h : Heap) (a : Addr) (c0 c1 c2 c3 : Int32) : Prop := Exa Z h a "java/lang/String" ∧ ((∃ (b : Addr) (k : ClassId), Fld Z h a "java/lang/String" "coder" "B" (.int 0) ∧ Fld Z h a "java/lang/String" "value" "[B" (.ref b) ∧ Arv Z h b k .byte (4 : Int32) [(.int (own_by c0)), (.int (own_by c1)), (.int (own_by c2)), (.int (own_by c3))] (.int 0) ∧ ¬ (255 : Int32) < c0 ∧ ¬ (255 : Int32) < c1 ∧ ¬ (255 : Int32) < c2 ∧ ¬ (255 : Int32) < c3) ∨ (∃ (b : Addr) (k : ClassId), Fld Z h a "java/lang/String" "coder" "B" (.int 1) ∧ Fld Z h a "java/lang/String" "value" "[B" (.ref b) ∧ Arv Z h b k .byte (8 : Int32) [(.int (own_lo c0)), (.int (own_hi c0)), (.int (own_lo c1)), (.int (own_hi c1)), (.int (own_lo c2)), (.int (own_hi c2)), (.int (own_lo c3)), (.int (own_hi c3))] (.int 0)))

abbrev own_y5 : MethodName := ⟨"java/lang/StringUTF16", "newBytesLength", "(I)I"⟩
theorem od_jdk_52_m_3_0 : decode jdk_52_method_3_code 0 = .ok (.iload_n 0, 1) := by decide +kernel
theorem od_jdk_52_m_3_1 : decode jdk_52_method_3_code 1 = .ok (.ifCond .ge 11, 3) := by decide +kernel
theorem od_jdk_52_m_3_12 : decode jdk_52_method_3_code 12 = .ok (.iload_n 0, 1) := by decide +kernel
theorem od_jdk_52_m_3_13 : decode jdk_52_method_3_code 13 = .ok (.ldc 20, 2) := by decide +kernel
theorem od_jdk_52_m_3_15 : decode jdk_52_method_3_code 15 = .ok (.if_icmp .lt 40, 3) := by decide +kernel
theorem od_jdk_52_m_3_55 : decode jdk_52_method_3_code 55 = .ok (.iload_n 0, 1) := by decide +kernel
theorem od_jdk_52_m_3_56 : decode jdk_52_method_3_code 56 = .ok (.iconst 1, 1) := by decide +kernel
theorem od_jdk_52_m_3_57 : decode jdk_52_method_3_code 57 = .ok (.ishl, 1) := by decide +kernel
theorem od_jdk_52_m_3_58 : decode jdk_52_method_3_code 58 = .ok (.ireturn, 1) := by decide +kernel
theorem own_efnbl (m : MethodId) (x0 : Int32) : entryFrame m #[(.int x0)] 1 = mkF m 0 #[iv x0] [] := by first | (simp [entryFrame, mkF, argsToLocals, Value.category]; done) | rfl
def own_Qnbl (Z : State)  (h0 : Heap) (n0 : Nat) : Option Value → Heap → List Loc → Prop := fun v h L => v = some (.int 8) ∧ Fr n0 L ∧ h = h0
def own_Rnbl : Room := { frames := 0, cells := 0, slots := 0, locals := 0 }
set_option maxRecDepth 65536 in
set_option maxHeartbeats 40000000 in
theorem own_rmnbl (l : Launch) (Z : State) (a0 : Array Value) (hw : ∀ d ∈ tables_1, d.before a0 Z = true) (ws : List Jvm.Cond)  (h0 : Heap) (n0 : Nat) (Z0 : n0 ≤ h0.size) :
    own_Met l Z own_y5 jdk_52_method_3_code 1 (some .int) ws own_Rnbl h0 #[(.int 4)] (own_Qnbl Z h0 n0) own_Rnbl.cells own_Rnbl.slots := by
  refine own_start (plainFor_of_name own_pn0) ?_
  intro p e s m below meth c s₁ X0 hx hZ hby hml hret hlk hown hnm e0
  have hown : s.vm.findClass "java/lang/StringUTF16" = some m.cls := hown
  have hml : c.maxLocals = 1 := hml
  have N0 := Fr.nil n0
  refine own_cast (own_efnbl m (4 : Int32)) ?_
  refine own_s s₁ (mkF m 13 #[iv 4] [(.int 4)]) (fun _ k => XS.iloadN X0.here hx rfl (hb hby od_jdk_52_m_3_0) rfl  (XS.ifYes X0.here hx rfl (pc0 := 1) (pc' := 12) rfl (hb hby od_jdk_52_m_3_1) rfl ((if0 _ _).trans (flt (by decide : ¬ ((4 : Int32) < (0 : Int32)))).2.1) (by decide) (by decide) (XS.iloadN X0.here hx rfl (hb hby od_jdk_52_m_3_12) rfl  k))) ?_
  refine own_s s₁ (mkF m 15 #[iv 4] [(.int 1073741823), (.int 4)]) (X0.ldcInt hx hown (mvT hZ (own_h hw 45 rfl)) (g := (mkF m 13 #[iv 4] [(.int 4)])) rfl (hb hby od_jdk_52_m_3_13)) ?_
  refine own_s s₁ (mkF m 58 #[iv 4] [(.int 8)]) (fun _ k => XS.icmpYes X0.here hx rfl (pc0 := 15) (pc' := 55) rfl (hb hby od_jdk_52_m_3_15) rfl (tlt (by decide : ((4 : Int32) < (1073741823 : Int32)))).1 (by decide) (by decide) (XS.iloadN X0.here hx rfl (hb hby od_jdk_52_m_3_55) rfl  (XS.iconst X0.here hx rfl (hb hby od_jdk_52_m_3_56) (XS.ishl X0.here hx rfl (hb hby od_jdk_52_m_3_57) rfl k)))) ?_
  exact own_finI X0 hx hret (hb hby od_jdk_52_m_3_58) (own_end (Qv := (own_Qnbl Z h0 n0)) X0 (own_some hret) hlk (by decide) (by decide) e0 ⟨rfl, N0, rfl⟩)
theorem own_pd4 : parseMethodDescriptor "(I)I" = some ⟨[.int], some .int⟩ := by decide +kernel
abbrev own_y6 : MethodName := ⟨"java/lang/StringUTF16", "newBytesFor", "(I)[B"⟩
theorem od_jdk_52_m_2_0 : decode jdk_52_method_2_code 0 = .ok (.iload_n 0, 1) := by decide +kernel
theorem od_jdk_52_m_2_1 : decode jdk_52_method_2_code 1 = .ok (.invokestatic 11, 3) := by decide +kernel
theorem od_jdk_52_m_2_4 : decode jdk_52_method_2_code 4 = .ok (.newarray .byte, 2) := by decide +kernel
theorem od_jdk_52_m_2_6 : decode jdk_52_method_2_code 6 = .ok (.areturn, 1) := by decide +kernel
theorem own_efnbf (m : MethodId) (x0 : Int32) : entryFrame m #[(.int x0)] 1 = mkF m 0 #[iv x0] [] := by first | (simp [entryFrame, mkF, argsToLocals, Value.category]; done) | rfl
def own_Qnbf (Z : State)  (h0 : Heap) (n0 : Nat) : Option Value → Heap → List Loc → Prop := fun v h L => ∃ (b : Addr) (k : ClassId), v = some (.ref b) ∧ Fr n0 L ∧ Keep h0 h [] ∧ n0 ≤ b ∧ h0.size ≤ b ∧ Arv Z h b k .byte (8 : Int32) [(.int 0), (.int 0), (.int 0), (.int 0), (.int 0), (.int 0), (.int 0), (.int 0)] (.int 0)
def own_Rnbf : Room := { frames := 1, cells := 1, slots := 8, locals := 12 }
set_option maxRecDepth 65536 in
set_option maxHeartbeats 40000000 in
theorem own_rmnbf (l : Launch) (Z : State) (a0 : Array Value) (hw : ∀ d ∈ tables_1, d.before a0 Z = true) (ws : List Jvm.Cond)  (h0 : Heap) (n0 : Nat) (Z0 : n0 ≤ h0.size) :
    own_Met l Z own_y6 jdk_52_method_2_code 1 (some (.array .byte)) ws own_Rnbf h0 #[(.int 4)] (own_Qnbf Z h0 n0) own_Rnbf.cells own_Rnbf.slots := by
  refine own_start (plainFor_of_name own_pn0) ?_
  intro p e s m below meth c s₁ X0 hx hZ hby hml hret hlk hown hnm e0
  have hown : s.vm.findClass "java/lang/StringUTF16" = some m.cls := hown
  have hml : c.maxLocals = 1 := hml
  have N0 := Fr.nil n0
  refine own_cast (own_efnbf m (4 : Int32)) ?_
  refine own_s s₁ (mkF m 1 #[iv 4] [(.int 4)]) (fun _ k => XS.iloadN X0.here hx rfl (hb hby od_jdk_52_m_2_0) rfl  k) ?_
  obtain ⟨v1, T1, L1, X1, hQ1, st1⟩ := own_callS X0 hx hZ (y := own_y5) (W := 0) hown (own_h hw 42 rfl) (own_h hw 43 rfl) (own_h hw 19 rfl) (own_h hw 44 rfl) (by decide) (own_rmnbl l Z a0 hw []  h0 n0 Z0) (by decide) (by decide) (g := (mkF m 1 #[iv 4] [(.int 4)])) rfl (by rw [hml]; rfl) (argsL := [(.int 4)]) (rest := []) rfl (lenOf own_pd4 rfl) rfl (by show 2 * 0 + _ ≤ _; exact Nat.le_of_eq rfl) (hb hby od_jdk_52_m_2_1) e0 (by decide) (by decide)
  obtain ⟨rfl, Nq1, e1⟩ := hQ1
  have N1 := Fr.app N0 Nq1
  refine own_s T1 (mkF m 4 #[iv 4] [(.int 8)]) st1 ?_
  obtain ⟨T2, h2, k2, X2, e2, E2, A2, st2⟩ := newP X1 hx hZ (own_h hw 21 rfl) e1 (g := (mkF m 4 #[iv 4] [(.int 8)])) rfl (hb hby od_jdk_52_m_2_4) rfl (by decide) (cap := 8) (by decide) (by decide) (by decide) (by decide)
  obtain ⟨b2, g2⟩ : ∃ z, z = h0.size := ⟨_, rfl⟩
  have g_b2 : n0 ≤ b2 := Nat.le_trans Z0 (Nat.le_of_eq g2.symm)
  have sz_b2 : h0.size ≤ b2 := Nat.le_trans (Keep.refl h0 []).1 (Nat.le_of_eq g2.symm)
  rw [← g2] at A2 st2
  have K2 : Keep h0 h2 [] := (Keep.refl h0 []).ext E2
  have Z2 := Nat.le_trans Z0 E2.1
  have f2 : Arv Z h2 b2 k2 .byte 8 [(.int 0), (.int 0), (.int 0), (.int 0), (.int 0), (.int 0), (.int 0), (.int 0)] (.int 0) := (Arv.new A2 (by decide)).pad (pad_rep [] (.int 0) 8)
  refine own_s T2 (mkF m 6 #[iv 4] [(.ref b2)]) st2 ?_
  exact own_finA X2 hx hret rfl rfl (hb hby od_jdk_52_m_2_6) (own_end (Qv := (own_Qnbf Z h0 n0)) X2 (own_some hret) hlk (by decide) (by decide) e2 ⟨b2, k2, rfl, N1, K2, g_b2, sz_b2, f2⟩)
abbrev own_y7 : MethodName := ⟨"java/lang/StringUTF16", "putChar", "([BII)V"⟩
theorem od_jdk_52_m_4_0 : decode jdk_52_method_4_code 0 = .ok (.getstatic 44, 3) := by decide +kernel
theorem od_jdk_52_m_4_3 : decode jdk_52_method_4_code 3 = .ok (.ifCond .ne 25, 3) := by decide +kernel
theorem od_jdk_52_m_4_28 : decode jdk_52_method_4_code 28 = .ok (.iload_n 1, 1) := by decide +kernel
theorem od_jdk_52_m_4_29 : decode jdk_52_method_4_code 29 = .ok (.iconst 1, 1) := by decide +kernel
theorem od_jdk_52_m_4_30 : decode jdk_52_method_4_code 30 = .ok (.ishl, 1) := by decide +kernel
theorem od_jdk_52_m_4_31 : decode jdk_52_method_4_code 31 = .ok (.istore_n 1, 1) := by decide +kernel
theorem od_jdk_52_m_4_32 : decode jdk_52_method_4_code 32 = .ok (.aload_n 0, 1) := by decide +kernel
theorem od_jdk_52_m_4_33 : decode jdk_52_method_4_code 33 = .ok (.iload_n 1, 1) := by decide +kernel
theorem od_jdk_52_m_4_34 : decode jdk_52_method_4_code 34 = .ok (.iinc 1 1, 3) := by decide +kernel
theorem od_jdk_52_m_4_37 : decode jdk_52_method_4_code 37 = .ok (.iload_n 2, 1) := by decide +kernel
theorem od_jdk_52_m_4_38 : decode jdk_52_method_4_code 38 = .ok (.getstatic 59, 3) := by decide +kernel
theorem od_jdk_52_m_4_41 : decode jdk_52_method_4_code 41 = .ok (.ishr, 1) := by decide +kernel
theorem od_jdk_52_m_4_42 : decode jdk_52_method_4_code 42 = .ok (.i2b, 1) := by decide +kernel
theorem od_jdk_52_m_4_43 : decode jdk_52_method_4_code 43 = .ok (.bastore, 1) := by decide +kernel
theorem od_jdk_52_m_4_44 : decode jdk_52_method_4_code 44 = .ok (.aload_n 0, 1) := by decide +kernel
theorem od_jdk_52_m_4_45 : decode jdk_52_method_4_code 45 = .ok (.iload_n 1, 1) := by decide +kernel
theorem od_jdk_52_m_4_46 : decode jdk_52_method_4_code 46 = .ok (.iload_n 2, 1) := by decide +kernel
theorem od_jdk_52_m_4_47 : decode jdk_52_method_4_code 47 = .ok (.getstatic 63, 3) := by decide +kernel
theorem od_jdk_52_m_4_50 : decode jdk_52_method_4_code 50 = .ok (.ishr, 1) := by decide +kernel
theorem od_jdk_52_m_4_51 : decode jdk_52_method_4_code 51 = .ok (.i2b, 1) := by decide +kernel
theorem od_jdk_52_m_4_52 : decode jdk_52_method_4_code 52 = .ok (.bastore, 1) := by decide +kernel
theorem od_jdk_52_m_4_53 : decode jdk_52_method_4_code 53 = .ok (.return_, 1) := by decide +kernel
theorem own_efpch0 (m : MethodId) (x0 : Addr) (x1 : Int32) (x2 : Int32) : entryFrame m #[(.ref x0), (.int x1), (.int x2)] 3 = mkF m 0 #[rv x0, iv x1, iv x2] [] := by first | (simp [entryFrame, mkF, argsToLocals, Value.category]; done) | rfl
def own_Qpch0 (Z : State) (a1 : Addr) (p3 : Int32) (kb : ClassId) (v0 : Value) (v1 : Value) (v2 : Value) (v3 : Value) (v4 : Value) (v5 : Value) (v6 : Value) (v7 : Value) (h0 : Heap) (n0 : Nat) : Option Value → Heap → List Loc → Prop := fun v h L => v = none ∧ Fr n0 L ∧ Keep h0 h [a1] ∧ Arv Z h a1 kb .byte (8 : Int32) [(.int (own_lo p3)), (.int (own_hi p3)), v2, v3, v4, v5, v6, v7] (.int 0)
def own_Rpch0 : Room := { frames := 0, cells := 0, slots := 0, locals := 0 }
set_option maxRecDepth 65536 in
set_option maxHeartbeats 40000000 in
theorem own_rmpch0 (l : Launch) (Z : State) (a0 : Array Value) (hw : ∀ d ∈ tables_1, d.before a0 Z = true) (ws : List Jvm.Cond) (a1 : Addr) (p3 : Int32) (kb : ClassId) (v0 : Value) (v1 : Value) (v2 : Value) (v3 : Value) (v4 : Value) (v5 : Value) (v6 : Value) (v7 : Value) (h0 : Heap) (n0 : Nat) (Z0 : n0 ≤ h0.size) (g_a1 : n0 ≤ a1) (pr1 : Arv Z h0 a1 kb .byte (8 : Int32) [v0, v1, v2, v3, v4, v5, v6, v7] (.int 0)) (pr2 : Sta Z h0 "java/lang/StringUTF16" "$assertionsDisabled" "Z" (.int 1)) (pr3 : Sta Z h0 "java/lang/StringUTF16" "HI_BYTE_SHIFT" "I" (.int 0)) (pr4 : Sta Z h0 "java/lang/StringUTF16" "LO_BYTE_SHIFT" "I" (.int 8)) :
    own_Met l Z own_y7 jdk_52_method_4_code 3 none ws own_Rpch0 h0 #[(.ref a1), (.int 0), (.int p3)] (own_Qpch0 Z a1 p3 kb v0 v1 v2 v3 v4 v5 v6 v7 h0 n0) own_Rpch0.cells own_Rpch0.slots := by
  refine own_start (plainFor_of_name own_pn0) ?_
  intro p e s m below meth c s₁ X0 hx hZ hby hml hret hlk hown hnm e0
  have hown : s.vm.findClass "java/lang/StringUTF16" = some m.cls := hown
  have hml : c.maxLocals = 3 := hml
  have N0 := Fr.nil n0
  refine own_cast (own_efpch0 m a1 (0 : Int32) p3) ?_
  obtain ⟨T1, X1, e1, st1⟩ := getS2 X0 hx hZ hown (host := "") (Or.inl (own_h hw 49 rfl)) Via.refl e0 pr2 (g := (mkF m 0 #[rv a1, iv 0, iv p3] [])) rfl (hb hby od_jdk_52_m_4_0)
  refine own_s T1 (mkF m 3 #[rv a1, iv 0, iv p3] [(.int 1)]) st1 ?_
  refine own_s T1 (mkF m 37 #[rv a1, iv 1, iv p3] [(.int 0), (.ref a1)]) (fun _ k => XS.ifYes X1.here hx rfl (pc0 := 3) (pc' := 28) rfl (hb hby od_jdk_52_m_4_3) rfl ((if0 _ _).trans (feq (by decide : ¬ ((1 : Int32) = (0 : Int32)))).2) (by decide) (by decide) (XS.iloadN X1.here hx rfl (hb hby od_jdk_52_m_4_28) rfl  (XS.iconst X1.here hx rfl (hb hby od_jdk_52_m_4_29) (XS.ishl X1.here hx rfl (hb hby od_jdk_52_m_4_30) rfl (XS.istoreN X1.here hx rfl (hb hby od_jdk_52_m_4_31) rfl (l' := #[rv a1, iv 0, iv p3]) rfl (XS.aloadN X1.here hx rfl (hb hby od_jdk_52_m_4_32) rfl rfl (XS.iloadN X1.here hx rfl (hb hby od_jdk_52_m_4_33) rfl  (XS.iinc X1.here hx rfl (hb hby od_jdk_52_m_4_34) rfl (l' := #[rv a1, iv 1, iv p3]) rfl k)))))))) ?_
  refine own_s T1 (mkF m 38 #[rv a1, iv 1, iv p3] [(.int p3), (.int 0), (.ref a1)]) (fun _ k => XS.iloadN X1.here hx rfl (hb hby od_jdk_52_m_4_37) rfl  k) ?_
  obtain ⟨T2, X2, e2, st2⟩ := getS2 X1 hx hZ hown (host := "") (Or.inl (own_h hw 50 rfl)) Via.refl e1 pr3 (g := (mkF m 38 #[rv a1, iv 1, iv p3] [(.int p3), (.int 0), (.ref a1)])) rfl (hb hby od_jdk_52_m_4_38)
  refine own_s T2 (mkF m 41 #[rv a1, iv 1, iv p3] [(.int 0), (.int p3), (.int 0), (.ref a1)]) st2 ?_
  refine own_s T2 (mkF m 43 #[rv a1, iv 1, iv p3] [(.int ((p3 >>> ((0 : Int32) &&& 31)).toInt8.toInt32)), (.int 0), (.ref a1)]) (fun _ k => XS.ishr X2.here hx rfl (hb hby od_jdk_52_m_4_41) rfl (XS.i2b X2.here hx rfl (hb hby od_jdk_52_m_4_42) rfl k)) ?_
  obtain ⟨cl3, Ar3, q3, S3, Nn3, H3, G3⟩ := id pr1
  have hin3 : ¬ ((0 : Int32) < 0 ∨ cl3.slots.size ≤ ((0 : Int32)).toNatClampNeg) := (inb_of S3 ⟨by decide, by decide⟩)
  obtain ⟨T3, h3, X3, e3, W3, st3⟩ := stB X2 hx hZ e2 Ar3 (j := (0 : Int32)) hin3 (g := (mkF m 43 #[rv a1, iv 1, iv p3] [(.int ((p3 >>> ((0 : Int32) &&& 31)).toInt8.toInt32)), (.int 0), (.ref a1)])) rfl rfl (hb hby od_jdk_52_m_4_43)
  have f3 : Arv Z h3 a1 kb .byte (8 : Int32) [(.int (own_lo p3)), v1, v2, v3, v4, v5, v6, v7] (.int 0) := Arv.set Ar3 q3 S3 Nn3 H3 G3 (fits_nar_byte _) W3 0 rfl (Nat.le_of_ble_eq_true rfl)
  have f4 := Sta.wr W3 pr2
  have f5 := Sta.wr W3 pr3
  have f6 := Sta.wr W3 pr4
  have K3 : Keep h0 h3 [a1] := (Keep.refl h0 [a1]).wr W3 (Or.inl (List.mem_of_getElem? (i := 0) rfl))
  have Z3 := Nat.le_trans Z0 (Nat.le_of_eq W3.size.symm)
  have N3 := Fr.snoc X3 N0 g_a1
  refine own_s T3 (mkF m 44 #[rv a1, iv 1, iv p3] []) st3 ?_
  refine own_s T3 (mkF m 47 #[rv a1, iv 1, iv p3] [(.int p3), (.int 1), (.ref a1)]) (fun _ k => XS.aloadN X3.here hx rfl (hb hby od_jdk_52_m_4_44) rfl rfl (XS.iloadN X3.here hx rfl (hb hby od_jdk_52_m_4_45) rfl  (XS.iloadN X3.here hx rfl (hb hby od_jdk_52_m_4_46) rfl  k))) ?_
  obtain ⟨T7, X7, e7, st7⟩ := getS2 X3 hx hZ hown (host := "") (Or.inl (own_h hw 51 rfl)) Via.refl e3 f6 (g := (mkF m 47 #[rv a1, iv 1, iv p3] [(.int p3), (.int 1), (.ref a1)])) rfl (hb hby od_jdk_52_m_4_47)
  refine own_s T7 (mkF m 50 #[rv a1, iv 1, iv p3] [(.int 8), (.int p3), (.int 1), (.ref a1)]) st7 ?_
  refine own_s T7 (mkF m 52 #[rv a1, iv 1, iv p3] [(.int ((p3 >>> ((8 : Int32) &&& 31)).toInt8.toInt32)), (.int 1), (.ref a1)]) (fun _ k => XS.ishr X7.here hx rfl (hb hby od_jdk_52_m_4_50) rfl (XS.i2b X7.here hx rfl (hb hby od_jdk_52_m_4_51) rfl k)) ?_
  obtain ⟨cl8, Ar8, q8, S8, Nn8, H8, G8⟩ := id f3
  have hin8 : ¬ ((1 : Int32) < 0 ∨ cl8.slots.size ≤ ((1 : Int32)).toNatClampNeg) := (inb_of S8 ⟨by decide, by decide⟩)
  obtain ⟨T8, h8, X8, e8, W8, st8⟩ := stB X7 hx hZ e7 Ar8 (j := (1 : Int32)) hin8 (g := (mkF m 52 #[rv a1, iv 1, iv p3] [(.int ((p3 >>> ((8 : Int32) &&& 31)).toInt8.toInt32)), (.int 1), (.ref a1)])) rfl rfl (hb hby od_jdk_52_m_4_52)
  have f8 : Arv Z h8 a1 kb .byte (8 : Int32) [(.int (own_lo p3)), (.int (own_hi p3)), v2, v3, v4, v5, v6, v7] (.int 0) := Arv.set Ar8 q8 S8 Nn8 H8 G8 (fits_nar_byte _) W8 1 rfl (Nat.le_of_ble_eq_true rfl)
  have f9 := Sta.wr W8 f4
  have f10 := Sta.wr W8 f5
  have f11 := Sta.wr W8 f6
  have K8 : Keep h0 h8 [a1] := K3.wr W8 (Or.inl (List.mem_of_getElem? (i := 0) rfl))
  have Z8 := Nat.le_trans Z3 (Nat.le_of_eq W8.size.symm)
  have N8 := Fr.snoc X8 N3 g_a1
  refine own_s T8 (mkF m 53 #[rv a1, iv 1, iv p3] []) st8 ?_
  exact own_finV X8 hx hret (hb hby od_jdk_52_m_4_53) (own_end (Qv := (own_Qpch0 Z a1 p3 kb v0 v1 v2 v3 v4 v5 v6 v7 h0 n0)) X8 (fun _ => rfl) hlk (by decide) (by decide) e8 ⟨rfl, N8, K8, f8⟩)
theorem own_efpch1 (m : MethodId) (x0 : Addr) (x1 : Int32) (x2 : Int32) : entryFrame m #[(.ref x0), (.int x1), (.int x2)] 3 = mkF m 0 #[rv x0, iv x1, iv x2] [] := by first | (simp [entryFrame, mkF, argsToLocals, Value.category]; done) | rfl
def own_Qpch1 (Z : State) (a1 : Addr) (p3 : Int32) (kb : ClassId) (v0 : Value) (v1 : Value) (v2 : Value) (v3 : Value) (v4 : Value) (v5 : Value) (v6 : Value) (v7 : Value) (h0 : Heap) (n0 : Nat) : Option Value → Heap → List Loc → Prop := fun v h L => v = none ∧ Fr n0 L ∧ Keep h0 h [a1] ∧ Arv Z h a1 kb .byte (8 : Int32) [v0, v1, (.int (own_lo p3)), (.int (own_hi p3)), v4, v5, v6, v7] (.int 0)
def own_Rpch1 : Room := { frames := 0, cells := 0, slots := 0, locals := 0 }
set_option maxRecDepth 65536 in
set_option maxHeartbeats 40000000 in
theorem own_rmpch1 (l : Launch) (Z : State) (a0 : Array Value) (hw : ∀ d ∈ tables_1, d.before a0 Z = true) (ws : List Jvm.Cond) (a1 : Addr) (p3 : Int32) (kb : ClassId) (v0 : Value) (v1 : Value) (v2 : Value) (v3 : Value) (v4 : Value) (v5 : Value) (v6 : Value) (v7 : Value) (h0 : Heap) (n0 : Nat) (Z0 : n0 ≤ h0.size) (g_a1 : n0 ≤ a1) (pr1 : Arv Z h0 a1 kb .byte (8 : Int32) [v0, v1, v2, v3, v4, v5, v6, v7] (.int 0)) (pr2 : Sta Z h0 "java/lang/StringUTF16" "$assertionsDisabled" "Z" (.int 1)) (pr3 : Sta Z h0 "java/lang/StringUTF16" "HI_BYTE_SHIFT" "I" (.int 0)) (pr4 : Sta Z h0 "java/lang/StringUTF16" "LO_BYTE_SHIFT" "I" (.int 8)) :
    own_Met l Z own_y7 jdk_52_method_4_code 3 none ws own_Rpch1 h0 #[(.ref a1), (.int 1), (.int p3)] (own_Qpch1 Z a1 p3 kb v0 v1 v2 v3 v4 v5 v6 v7 h0 n0) own_Rpch1.cells own_Rpch1.slots := by
  refine own_start (plainFor_of_name own_pn0) ?_
  intro p e s m below meth c s₁ X0 hx hZ hby hml hret hlk hown hnm e0
  have hown : s.vm.findClass "java/lang/StringUTF16" = some m.cls := hown
  have hml : c.maxLocals = 3 := hml
  have N0 := Fr.nil n0
  refine own_cast (own_efpch1 m a1 (1 : Int32) p3) ?_
  obtain ⟨T1, X1, e1, st1⟩ := getS2 X0 hx hZ hown (host := "") (Or.inl (own_h hw 49 rfl)) Via.refl e0 pr2 (g := (mkF m 0 #[rv a1, iv 1, iv p3] [])) rfl (hb hby od_jdk_52_m_4_0)
  refine own_s T1 (mkF m 3 #[rv a1, iv 1, iv p3] [(.int 1)]) st1 ?_
  refine own_s T1 (mkF m 37 #[rv a1, iv 3, iv p3] [(.int 2), (.ref a1)]) (fun _ k => XS.ifYes X1.here hx rfl (pc0 := 3) (pc' := 28) rfl (hb hby od_jdk_52_m_4_3) rfl ((if0 _ _).trans (feq (by decide : ¬ ((1 : Int32) = (0 : Int32)))).2) (by decide) (by decide) (XS.iloadN X1.here hx rfl (hb hby od_jdk_52_m_4_28) rfl  (XS.iconst X1.here hx rfl (hb hby od_jdk_52_m_4_29) (XS.ishl X1.here hx rfl (hb hby od_jdk_52_m_4_30) rfl (XS.istoreN X1.here hx rfl (hb hby od_jdk_52_m_4_31) rfl (l' := #[rv a1, iv 2, iv p3]) rfl (XS.aloadN X1.here hx rfl (hb hby od_jdk_52_m_4_32) rfl rfl (XS.iloadN X1.here hx rfl (hb hby od_jdk_52_m_4_33) rfl  (XS.iinc X1.here hx rfl (hb hby od_jdk_52_m_4_34) rfl (l' := #[rv a1, iv 3, iv p3]) rfl k)))))))) ?_
  refine own_s T1 (mkF m 38 #[rv a1, iv 3, iv p3] [(.int p3), (.int 2), (.ref a1)]) (fun _ k => XS.iloadN X1.here hx rfl (hb hby od_jdk_52_m_4_37) rfl  k) ?_
  obtain ⟨T2, X2, e2, st2⟩ := getS2 X1 hx hZ hown (host := "") (Or.inl (own_h hw 50 rfl)) Via.refl e1 pr3 (g := (mkF m 38 #[rv a1, iv 3, iv p3] [(.int p3), (.int 2), (.ref a1)])) rfl (hb hby od_jdk_52_m_4_38)
  refine own_s T2 (mkF m 41 #[rv a1, iv 3, iv p3] [(.int 0), (.int p3), (.int 2), (.ref a1)]) st2 ?_
  refine own_s T2 (mkF m 43 #[rv a1, iv 3, iv p3] [(.int ((p3 >>> ((0 : Int32) &&& 31)).toInt8.toInt32)), (.int 2), (.ref a1)]) (fun _ k => XS.ishr X2.here hx rfl (hb hby od_jdk_52_m_4_41) rfl (XS.i2b X2.here hx rfl (hb hby od_jdk_52_m_4_42) rfl k)) ?_
  obtain ⟨cl3, Ar3, q3, S3, Nn3, H3, G3⟩ := id pr1
  have hin3 : ¬ ((2 : Int32) < 0 ∨ cl3.slots.size ≤ ((2 : Int32)).toNatClampNeg) := (inb_of S3 ⟨by decide, by decide⟩)
  obtain ⟨T3, h3, X3, e3, W3, st3⟩ := stB X2 hx hZ e2 Ar3 (j := (2 : Int32)) hin3 (g := (mkF m 43 #[rv a1, iv 3, iv p3] [(.int ((p3 >>> ((0 : Int32) &&& 31)).toInt8.toInt32)), (.int 2), (.ref a1)])) rfl rfl (hb hby od_jdk_52_m_4_43)
  have f3 : Arv Z h3 a1 kb .byte (8 : Int32) [v0, v1, (.int (own_lo p3)), v3, v4, v5, v6, v7] (.int 0) := Arv.set Ar3 q3 S3 Nn3 H3 G3 (fits_nar_byte _) W3 2 rfl (Nat.le_of_ble_eq_true rfl)
  have f4 := Sta.wr W3 pr2
  have f5 := Sta.wr W3 pr3
  have f6 := Sta.wr W3 pr4
  have K3 : Keep h0 h3 [a1] := (Keep.refl h0 [a1]).wr W3 (Or.inl (List.mem_of_getElem? (i := 0) rfl))
  have Z3 := Nat.le_trans Z0 (Nat.le_of_eq W3.size.symm)
  have N3 := Fr.snoc X3 N0 g_a1
  refine own_s T3 (mkF m 44 #[rv a1, iv 3, iv p3] []) st3 ?_
  refine own_s T3 (mkF m 47 #[rv a1, iv 3, iv p3] [(.int p3), (.int 3), (.ref a1)]) (fun _ k => XS.aloadN X3.here hx rfl (hb hby od_jdk_52_m_4_44) rfl rfl (XS.iloadN X3.here hx rfl (hb hby od_jdk_52_m_4_45) rfl  (XS.iloadN X3.here hx rfl (hb hby od_jdk_52_m_4_46) rfl  k))) ?_
  obtain ⟨T7, X7, e7, st7⟩ := getS2 X3 hx hZ hown (host := "") (Or.inl (own_h hw 51 rfl)) Via.refl e3 f6 (g := (mkF m 47 #[rv a1, iv 3, iv p3] [(.int p3), (.int 3), (.ref a1)])) rfl (hb hby od_jdk_52_m_4_47)
  refine own_s T7 (mkF m 50 #[rv a1, iv 3, iv p3] [(.int 8), (.int p3), (.int 3), (.ref a1)]) st7 ?_
  refine own_s T7 (mkF m 52 #[rv a1, iv 3, iv p3] [(.int ((p3 >>> ((8 : Int32) &&& 31)).toInt8.toInt32)), (.int 3), (.ref a1)]) (fun _ k => XS.ishr X7.here hx rfl (hb hby od_jdk_52_m_4_50) rfl (XS.i2b X7.here hx rfl (hb hby od_jdk_52_m_4_51) rfl k)) ?_
  obtain ⟨cl8, Ar8, q8, S8, Nn8, H8, G8⟩ := id f3
  have hin8 : ¬ ((3 : Int32) < 0 ∨ cl8.slots.size ≤ ((3 : Int32)).toNatClampNeg) := (inb_of S8 ⟨by decide, by decide⟩)
  obtain ⟨T8, h8, X8, e8, W8, st8⟩ := stB X7 hx hZ e7 Ar8 (j := (3 : Int32)) hin8 (g := (mkF m 52 #[rv a1, iv 3, iv p3] [(.int ((p3 >>> ((8 : Int32) &&& 31)).toInt8.toInt32)), (.int 3), (.ref a1)])) rfl rfl (hb hby od_jdk_52_m_4_52)
  have f8 : Arv Z h8 a1 kb .byte (8 : Int32) [v0, v1, (.int (own_lo p3)), (.int (own_hi p3)), v4, v5, v6, v7] (.int 0) := Arv.set Ar8 q8 S8 Nn8 H8 G8 (fits_nar_byte _) W8 3 rfl (Nat.le_of_ble_eq_true rfl)
  have f9 := Sta.wr W8 f4
  have f10 := Sta.wr W8 f5
  have f11 := Sta.wr W8 f6
  have K8 : Keep h0 h8 [a1] := K3.wr W8 (Or.inl (List.mem_of_getElem? (i := 0) rfl))
  have Z8 := Nat.le_trans Z3 (Nat.le_of_eq W8.size.symm)
  have N8 := Fr.snoc X8 N3 g_a1
  refine own_s T8 (mkF m 53 #[rv a1, iv 3, iv p3] []) st8 ?_
  exact own_finV X8 hx hret (hb hby od_jdk_52_m_4_53) (own_end (Qv := (own_Qpch1 Z a1 p3 kb v0 v1 v2 v3 v4 v5 v6 v7 h0 n0)) X8 (fun _ => rfl) hlk (by decide) (by decide) e8 ⟨rfl, N8, K8, f8⟩)
theorem own_efpch2 (m : MethodId) (x0 : Addr) (x1 : Int32) (x2 : Int32) : entryFrame m #[(.ref x0), (.int x1), (.int x2)] 3 = mkF m 0 #[rv x0, iv x1, iv x2] [] := by first | (simp [entryFrame, mkF, argsToLocals, Value.category]; done) | rfl
def own_Qpch2 (Z : State) (a1 : Addr) (p3 : Int32) (kb : ClassId) (v0 : Value) (v1 : Value) (v2 : Value) (v3 : Value) (v4 : Value) (v5 : Value) (v6 : Value) (v7 : Value) (h0 : Heap) (n0 : Nat) : Option Value → Heap → List Loc → Prop := fun v h L => v = none ∧ Fr n0 L ∧ Keep h0 h [a1] ∧ Arv Z h a1 kb .byte (8 : Int32) [v0, v1, v2, v3, (.int (own_lo p3)), (.int (own_hi p3)), v6, v7] (.int 0)
def own_Rpch2 : Room := { frames := 0, cells := 0, slots := 0, locals := 0 }
set_option maxRecDepth 65536 in
set_option maxHeartbeats 40000000 in
theorem own_rmpch2 (l : Launch) (Z : State) (a0 : Array Value) (hw : ∀ d ∈ tables_1, d.before a0 Z = true) (ws : List Jvm.Cond) (a1 : Addr) (p3 : Int32) (kb : ClassId) (v0 : Value) (v1 : Value) (v2 : Value) (v3 : Value) (v4 : Value) (v5 : Value) (v6 : Value) (v7 : Value) (h0 : Heap) (n0 : Nat) (Z0 : n0 ≤ h0.size) (g_a1 : n0 ≤ a1) (pr1 : Arv Z h0 a1 kb .byte (8 : Int32) [v0, v1, v2, v3, v4, v5, v6, v7] (.int 0)) (pr2 : Sta Z h0 "java/lang/StringUTF16" "$assertionsDisabled" "Z" (.int 1)) (pr3 : Sta Z h0 "java/lang/StringUTF16" "HI_BYTE_SHIFT" "I" (.int 0)) (pr4 : Sta Z h0 "java/lang/StringUTF16" "LO_BYTE_SHIFT" "I" (.int 8)) :
    own_Met l Z own_y7 jdk_52_method_4_code 3 none ws own_Rpch2 h0 #[(.ref a1), (.int 2), (.int p3)] (own_Qpch2 Z a1 p3 kb v0 v1 v2 v3 v4 v5 v6 v7 h0 n0) own_Rpch2.cells own_Rpch2.slots := by
  refine own_start (plainFor_of_name own_pn0) ?_
  intro p e s m below meth c s₁ X0 hx hZ hby hml hret hlk hown hnm e0
  have hown : s.vm.findClass "java/lang/StringUTF16" = some m.cls := hown
  have hml : c.maxLocals = 3 := hml
  have N0 := Fr.nil n0
  refine own_cast (own_efpch2 m a1 (2 : Int32) p3) ?_
  obtain ⟨T1, X1, e1, st1⟩ := getS2 X0 hx hZ hown (host := "") (Or.inl (own_h hw 49 rfl)) Via.refl e0 pr2 (g := (mkF m 0 #[rv a1, iv 2, iv p3] [])) rfl (hb hby od_jdk_52_m_4_0)
  refine own_s T1 (mkF m 3 #[rv a1, iv 2, iv p3] [(.int 1)]) st1 ?_
  refine own_s T1 (mkF m 37 #[rv a1, iv 5, iv p3] [(.int 4), (.ref a1)]) (fun _ k => XS.ifYes X1.here hx rfl (pc0 := 3) (pc' := 28) rfl (hb hby od_jdk_52_m_4_3) rfl ((if0 _ _).trans (feq (by decide : ¬ ((1 : Int32) = (0 : Int32)))).2) (by decide) (by decide) (XS.iloadN X1.here hx rfl (hb hby od_jdk_52_m_4_28) rfl  (XS.iconst X1.here hx rfl (hb hby od_jdk_52_m_4_29) (XS.ishl X1.here hx rfl (hb hby od_jdk_52_m_4_30) rfl (XS.istoreN X1.here hx rfl (hb hby od_jdk_52_m_4_31) rfl (l' := #[rv a1, iv 4, iv p3]) rfl (XS.aloadN X1.here hx rfl (hb hby od_jdk_52_m_4_32) rfl rfl (XS.iloadN X1.here hx rfl (hb hby od_jdk_52_m_4_33) rfl  (XS.iinc X1.here hx rfl (hb hby od_jdk_52_m_4_34) rfl (l' := #[rv a1, iv 5, iv p3]) rfl k)))))))) ?_
  refine own_s T1 (mkF m 38 #[rv a1, iv 5, iv p3] [(.int p3), (.int 4), (.ref a1)]) (fun _ k => XS.iloadN X1.here hx rfl (hb hby od_jdk_52_m_4_37) rfl  k) ?_
  obtain ⟨T2, X2, e2, st2⟩ := getS2 X1 hx hZ hown (host := "") (Or.inl (own_h hw 50 rfl)) Via.refl e1 pr3 (g := (mkF m 38 #[rv a1, iv 5, iv p3] [(.int p3), (.int 4), (.ref a1)])) rfl (hb hby od_jdk_52_m_4_38)
  refine own_s T2 (mkF m 41 #[rv a1, iv 5, iv p3] [(.int 0), (.int p3), (.int 4), (.ref a1)]) st2 ?_
  refine own_s T2 (mkF m 43 #[rv a1, iv 5, iv p3] [(.int ((p3 >>> ((0 : Int32) &&& 31)).toInt8.toInt32)), (.int 4), (.ref a1)]) (fun _ k => XS.ishr X2.here hx rfl (hb hby od_jdk_52_m_4_41) rfl (XS.i2b X2.here hx rfl (hb hby od_jdk_52_m_4_42) rfl k)) ?_
  obtain ⟨cl3, Ar3, q3, S3, Nn3, H3, G3⟩ := id pr1
  have hin3 : ¬ ((4 : Int32) < 0 ∨ cl3.slots.size ≤ ((4 : Int32)).toNatClampNeg) := (inb_of S3 ⟨by decide, by decide⟩)
  obtain ⟨T3, h3, X3, e3, W3, st3⟩ := stB X2 hx hZ e2 Ar3 (j := (4 : Int32)) hin3 (g := (mkF m 43 #[rv a1, iv 5, iv p3] [(.int ((p3 >>> ((0 : Int32) &&& 31)).toInt8.toInt32)), (.int 4), (.ref a1)])) rfl rfl (hb hby od_jdk_52_m_4_43)
  have f3 : Arv Z h3 a1 kb .byte (8 : Int32) [v0, v1, v2, v3, (.int (own_lo p3)), v5, v6, v7] (.int 0) := Arv.set Ar3 q3 S3 Nn3 H3 G3 (fits_nar_byte _) W3 4 rfl (Nat.le_of_ble_eq_true rfl)
  have f4 := Sta.wr W3 pr2
  have f5 := Sta.wr W3 pr3
  have f6 := Sta.wr W3 pr4
  have K3 : Keep h0 h3 [a1] := (Keep.refl h0 [a1]).wr W3 (Or.inl (List.mem_of_getElem? (i := 0) rfl))
  have Z3 := Nat.le_trans Z0 (Nat.le_of_eq W3.size.symm)
  have N3 := Fr.snoc X3 N0 g_a1
  refine own_s T3 (mkF m 44 #[rv a1, iv 5, iv p3] []) st3 ?_
  refine own_s T3 (mkF m 47 #[rv a1, iv 5, iv p3] [(.int p3), (.int 5), (.ref a1)]) (fun _ k => XS.aloadN X3.here hx rfl (hb hby od_jdk_52_m_4_44) rfl rfl (XS.iloadN X3.here hx rfl (hb hby od_jdk_52_m_4_45) rfl  (XS.iloadN X3.here hx rfl (hb hby od_jdk_52_m_4_46) rfl  k))) ?_
  obtain ⟨T7, X7, e7, st7⟩ := getS2 X3 hx hZ hown (host := "") (Or.inl (own_h hw 51 rfl)) Via.refl e3 f6 (g := (mkF m 47 #[rv a1, iv 5, iv p3] [(.int p3), (.int 5), (.ref a1)])) rfl (hb hby od_jdk_52_m_4_47)
  refine own_s T7 (mkF m 50 #[rv a1, iv 5, iv p3] [(.int 8), (.int p3), (.int 5), (.ref a1)]) st7 ?_
  refine own_s T7 (mkF m 52 #[rv a1, iv 5, iv p3] [(.int ((p3 >>> ((8 : Int32) &&& 31)).toInt8.toInt32)), (.int 5), (.ref a1)]) (fun _ k => XS.ishr X7.here hx rfl (hb hby od_jdk_52_m_4_50) rfl (XS.i2b X7.here hx rfl (hb hby od_jdk_52_m_4_51) rfl k)) ?_
  obtain ⟨cl8, Ar8, q8, S8, Nn8, H8, G8⟩ := id f3
  have hin8 : ¬ ((5 : Int32) < 0 ∨ cl8.slots.size ≤ ((5 : Int32)).toNatClampNeg) := (inb_of S8 ⟨by decide, by decide⟩)
  obtain ⟨T8, h8, X8, e8, W8, st8⟩ := stB X7 hx hZ e7 Ar8 (j := (5 : Int32)) hin8 (g := (mkF m 52 #[rv a1, iv 5, iv p3] [(.int ((p3 >>> ((8 : Int32) &&& 31)).toInt8.toInt32)), (.int 5), (.ref a1)])) rfl rfl (hb hby od_jdk_52_m_4_52)
  have f8 : Arv Z h8 a1 kb .byte (8 : Int32) [v0, v1, v2, v3, (.int (own_lo p3)), (.int (own_hi p3)), v6, v7] (.int 0) := Arv.set Ar8 q8 S8 Nn8 H8 G8 (fits_nar_byte _) W8 5 rfl (Nat.le_of_ble_eq_true rfl)
  have f9 := Sta.wr W8 f4
  have f10 := Sta.wr W8 f5
  have f11 := Sta.wr W8 f6
  have K8 : Keep h0 h8 [a1] := K3.wr W8 (Or.inl (List.mem_of_getElem? (i := 0) rfl))
  have Z8 := Nat.le_trans Z3 (Nat.le_of_eq W8.size.symm)
  have N8 := Fr.snoc X8 N3 g_a1
  refine own_s T8 (mkF m 53 #[rv a1, iv 5, iv p3] []) st8 ?_
  exact own_finV X8 hx hret (hb hby od_jdk_52_m_4_53) (own_end (Qv := (own_Qpch2 Z a1 p3 kb v0 v1 v2 v3 v4 v5 v6 v7 h0 n0)) X8 (fun _ => rfl) hlk (by decide) (by decide) e8 ⟨rfl, N8, K8, f8⟩)
theorem own_efpch3 (m : MethodId) (x0 : Addr) (x1 : Int32) (x2 : Int32) : entryFrame m #[(.ref x0), (.int x1), (.int x2)] 3 = mkF m 0 #[rv x0, iv x1, iv x2] [] := by first | (simp [entryFrame, mkF, argsToLocals, Value.category]; done) | rfl
def own_Qpch3 (Z : State) (a1 : Addr) (p3 : Int32) (kb : ClassId) (v0 : Value) (v1 : Value) (v2 : Value) (v3 : Value) (v4 : Value) (v5 : Value) (v6 : Value) (v7 : Value) (h0 : Heap) (n0 : Nat) : Option Value → Heap → List Loc → Prop := fun v h L => v = none ∧ Fr n0 L ∧ Keep h0 h [a1] ∧ Arv Z h a1 kb .byte (8 : Int32) [v0, v1, v2, v3, v4, v5, (.int (own_lo p3)), (.int (own_hi p3))] (.int 0)
def own_Rpch3 : Room := { frames := 0, cells := 0, slots := 0, locals := 0 }
set_option maxRecDepth 65536 in
set_option maxHeartbeats 40000000 in
theorem own_rmpch3 (l : Launch) (Z : State) (a0 : Array Value) (hw : ∀ d ∈ tables_1, d.before a0 Z = true) (ws : List Jvm.Cond) (a1 : Addr) (p3 : Int32) (kb : ClassId) (v0 : Value) (v1 : Value) (v2 : Value) (v3 : Value) (v4 : Value) (v5 : Value) (v6 : Value) (v7 : Value) (h0 : Heap) (n0 : Nat) (Z0 : n0 ≤ h0.size) (g_a1 : n0 ≤ a1) (pr1 : Arv Z h0 a1 kb .byte (8 : Int32) [v0, v1, v2, v3, v4, v5, v6, v7] (.int 0)) (pr2 : Sta Z h0 "java/lang/StringUTF16" "$assertionsDisabled" "Z" (.int 1)) (pr3 : Sta Z h0 "java/lang/StringUTF16" "HI_BYTE_SHIFT" "I" (.int 0)) (pr4 : Sta Z h0 "java/lang/StringUTF16" "LO_BYTE_SHIFT" "I" (.int 8)) :
    own_Met l Z own_y7 jdk_52_method_4_code 3 none ws own_Rpch3 h0 #[(.ref a1), (.int 3), (.int p3)] (own_Qpch3 Z a1 p3 kb v0 v1 v2 v3 v4 v5 v6 v7 h0 n0) own_Rpch3.cells own_Rpch3.slots := by
  refine own_start (plainFor_of_name own_pn0) ?_
  intro p e s m below meth c s₁ X0 hx hZ hby hml hret hlk hown hnm e0
  have hown : s.vm.findClass "java/lang/StringUTF16" = some m.cls := hown
  have hml : c.maxLocals = 3 := hml
  have N0 := Fr.nil n0
  refine own_cast (own_efpch3 m a1 (3 : Int32) p3) ?_
  obtain ⟨T1, X1, e1, st1⟩ := getS2 X0 hx hZ hown (host := "") (Or.inl (own_h hw 49 rfl)) Via.refl e0 pr2 (g := (mkF m 0 #[rv a1, iv 3, iv p3] [])) rfl (hb hby od_jdk_52_m_4_0)
  refine own_s T1 (mkF m 3 #[rv a1, iv 3, iv p3] [(.int 1)]) st1 ?_
  refine own_s T1 (mkF m 37 #[rv a1, iv 7, iv p3] [(.int 6), (.ref a1)]) (fun _ k => XS.ifYes X1.here hx rfl (pc0 := 3) (pc' := 28) rfl (hb hby od_jdk_52_m_4_3) rfl ((if0 _ _).trans (feq (by decide : ¬ ((1 : Int32) = (0 : Int32)))).2) (by decide) (by decide) (XS.iloadN X1.here hx rfl (hb hby od_jdk_52_m_4_28) rfl  (XS.iconst X1.here hx rfl (hb hby od_jdk_52_m_4_29) (XS.ishl X1.here hx rfl (hb hby od_jdk_52_m_4_30) rfl (XS.istoreN X1.here hx rfl (hb hby od_jdk_52_m_4_31) rfl (l' := #[rv a1, iv 6, iv p3]) rfl (XS.aloadN X1.here hx rfl (hb hby od_jdk_52_m_4_32) rfl rfl (XS.iloadN X1.here hx rfl (hb hby od_jdk_52_m_4_33) rfl  (XS.iinc X1.here hx rfl (hb hby od_jdk_52_m_4_34) rfl (l' := #[rv a1, iv 7, iv p3]) rfl k)))))))) ?_
  refine own_s T1 (mkF m 38 #[rv a1, iv 7, iv p3] [(.int p3), (.int 6), (.ref a1)]) (fun _ k => XS.iloadN X1.here hx rfl (hb hby od_jdk_52_m_4_37) rfl  k) ?_
  obtain ⟨T2, X2, e2, st2⟩ := getS2 X1 hx hZ hown (host := "") (Or.inl (own_h hw 50 rfl)) Via.refl e1 pr3 (g := (mkF m 38 #[rv a1, iv 7, iv p3] [(.int p3), (.int 6), (.ref a1)])) rfl (hb hby od_jdk_52_m_4_38)
  refine own_s T2 (mkF m 41 #[rv a1, iv 7, iv p3] [(.int 0), (.int p3), (.int 6), (.ref a1)]) st2 ?_
  refine own_s T2 (mkF m 43 #[rv a1, iv 7, iv p3] [(.int ((p3 >>> ((0 : Int32) &&& 31)).toInt8.toInt32)), (.int 6), (.ref a1)]) (fun _ k => XS.ishr X2.here hx rfl (hb hby od_jdk_52_m_4_41) rfl (XS.i2b X2.here hx rfl (hb hby od_jdk_52_m_4_42) rfl k)) ?_
  obtain ⟨cl3, Ar3, q3, S3, Nn3, H3, G3⟩ := id pr1
  have hin3 : ¬ ((6 : Int32) < 0 ∨ cl3.slots.size ≤ ((6 : Int32)).toNatClampNeg) := (inb_of S3 ⟨by decide, by decide⟩)
  obtain ⟨T3, h3, X3, e3, W3, st3⟩ := stB X2 hx hZ e2 Ar3 (j := (6 : Int32)) hin3 (g := (mkF m 43 #[rv a1, iv 7, iv p3] [(.int ((p3 >>> ((0 : Int32) &&& 31)).toInt8.toInt32)), (.int 6), (.ref a1)])) rfl rfl (hb hby od_jdk_52_m_4_43)
  have f3 : Arv Z h3 a1 kb .byte (8 : Int32) [v0, v1, v2, v3, v4, v5, (.int (own_lo p3)), v7] (.int 0) := Arv.set Ar3 q3 S3 Nn3 H3 G3 (fits_nar_byte _) W3 6 rfl (Nat.le_of_ble_eq_true rfl)
  have f4 := Sta.wr W3 pr2
  have f5 := Sta.wr W3 pr3
  have f6 := Sta.wr W3 pr4
  have K3 : Keep h0 h3 [a1] := (Keep.refl h0 [a1]).wr W3 (Or.inl (List.mem_of_getElem? (i := 0) rfl))
  have Z3 := Nat.le_trans Z0 (Nat.le_of_eq W3.size.symm)
  have N3 := Fr.snoc X3 N0 g_a1
  refine own_s T3 (mkF m 44 #[rv a1, iv 7, iv p3] []) st3 ?_
  refine own_s T3 (mkF m 47 #[rv a1, iv 7, iv p3] [(.int p3), (.int 7), (.ref a1)]) (fun _ k => XS.aloadN X3.here hx rfl (hb hby od_jdk_52_m_4_44) rfl rfl (XS.iloadN X3.here hx rfl (hb hby od_jdk_52_m_4_45) rfl  (XS.iloadN X3.here hx rfl (hb hby od_jdk_52_m_4_46) rfl  k))) ?_
  obtain ⟨T7, X7, e7, st7⟩ := getS2 X3 hx hZ hown (host := "") (Or.inl (own_h hw 51 rfl)) Via.refl e3 f6 (g := (mkF m 47 #[rv a1, iv 7, iv p3] [(.int p3), (.int 7), (.ref a1)])) rfl (hb hby od_jdk_52_m_4_47)
  refine own_s T7 (mkF m 50 #[rv a1, iv 7, iv p3] [(.int 8), (.int p3), (.int 7), (.ref a1)]) st7 ?_
  refine own_s T7 (mkF m 52 #[rv a1, iv 7, iv p3] [(.int ((p3 >>> ((8 : Int32) &&& 31)).toInt8.toInt32)), (.int 7), (.ref a1)]) (fun _ k => XS.ishr X7.here hx rfl (hb hby od_jdk_52_m_4_50) rfl (XS.i2b X7.here hx rfl (hb hby od_jdk_52_m_4_51) rfl k)) ?_
  obtain ⟨cl8, Ar8, q8, S8, Nn8, H8, G8⟩ := id f3
  have hin8 : ¬ ((7 : Int32) < 0 ∨ cl8.slots.size ≤ ((7 : Int32)).toNatClampNeg) := (inb_of S8 ⟨by decide, by decide⟩)
  obtain ⟨T8, h8, X8, e8, W8, st8⟩ := stB X7 hx hZ e7 Ar8 (j := (7 : Int32)) hin8 (g := (mkF m 52 #[rv a1, iv 7, iv p3] [(.int ((p3 >>> ((8 : Int32) &&& 31)).toInt8.toInt32)), (.int 7), (.ref a1)])) rfl rfl (hb hby od_jdk_52_m_4_52)
  have f8 : Arv Z h8 a1 kb .byte (8 : Int32) [v0, v1, v2, v3, v4, v5, (.int (own_lo p3)), (.int (own_hi p3))] (.int 0) := Arv.set Ar8 q8 S8 Nn8 H8 G8 (fits_nar_byte _) W8 7 rfl (Nat.le_of_ble_eq_true rfl)
  have f9 := Sta.wr W8 f4
  have f10 := Sta.wr W8 f5
  have f11 := Sta.wr W8 f6
  have K8 : Keep h0 h8 [a1] := K3.wr W8 (Or.inl (List.mem_of_getElem? (i := 0) rfl))
  have Z8 := Nat.le_trans Z3 (Nat.le_of_eq W8.size.symm)
  have N8 := Fr.snoc X8 N3 g_a1
  refine own_s T8 (mkF m 53 #[rv a1, iv 7, iv p3] []) st8 ?_
  exact own_finV X8 hx hret (hb hby od_jdk_52_m_4_53) (own_end (Qv := (own_Qpch3 Z a1 p3 kb v0 v1 v2 v3 v4 v5 v6 v7 h0 n0)) X8 (fun _ => rfl) hlk (by decide) (by decide) e8 ⟨rfl, N8, K8, f8⟩)
theorem own_pd5 : parseMethodDescriptor "(I)[B" = some ⟨[.int], some (.array .byte)⟩ := by decide +kernel
theorem own_pd6 : parseMethodDescriptor "([BII)V" = some ⟨[(.array .byte), .int, .int], none⟩ := by decide +kernel
abbrev own_y8 : MethodName := ⟨"java/lang/StringUTF16", "toBytes", "([CII)[B"⟩
theorem od_jdk_52_m_14_0 : decode jdk_52_method_14_code 0 = .ok (.iload_n 2, 1) := by decide +kernel
theorem od_jdk_52_m_14_1 : decode jdk_52_method_14_code 1 = .ok (.invokestatic 107, 3) := by decide +kernel
theorem od_jdk_52_m_14_4 : decode jdk_52_method_14_code 4 = .ok (.astore_n 3, 1) := by decide +kernel
theorem od_jdk_52_m_14_5 : decode jdk_52_method_14_code 5 = .ok (.iconst 0, 1) := by decide +kernel
theorem od_jdk_52_m_14_6 : decode jdk_52_method_14_code 6 = .ok (.istore 4, 2) := by decide +kernel
theorem od_jdk_52_m_14_8 : decode jdk_52_method_14_code 8 = .ok (.iload 4, 2) := by decide +kernel
theorem od_jdk_52_m_14_10 : decode jdk_52_method_14_code 10 = .ok (.iload_n 2, 1) := by decide +kernel
theorem od_jdk_52_m_14_11 : decode jdk_52_method_14_code 11 = .ok (.if_icmp .ge 21, 3) := by decide +kernel
theorem od_jdk_52_m_14_14 : decode jdk_52_method_14_code 14 = .ok (.aload_n 3, 1) := by decide +kernel
theorem od_jdk_52_m_14_15 : decode jdk_52_method_14_code 15 = .ok (.iload 4, 2) := by decide +kernel
theorem od_jdk_52_m_14_17 : decode jdk_52_method_14_code 17 = .ok (.aload_n 0, 1) := by decide +kernel
theorem od_jdk_52_m_14_18 : decode jdk_52_method_14_code 18 = .ok (.iload_n 1, 1) := by decide +kernel
theorem od_jdk_52_m_14_19 : decode jdk_52_method_14_code 19 = .ok (.caload, 1) := by decide +kernel
theorem od_jdk_52_m_14_20 : decode jdk_52_method_14_code 20 = .ok (.invokestatic 111, 3) := by decide +kernel
theorem od_jdk_52_m_14_23 : decode jdk_52_method_14_code 23 = .ok (.iinc 1 1, 3) := by decide +kernel
theorem od_jdk_52_m_14_26 : decode jdk_52_method_14_code 26 = .ok (.iinc 4 1, 3) := by decide +kernel
theorem od_jdk_52_m_14_29 : decode jdk_52_method_14_code 29 = .ok (.goto (-21), 3) := by decide +kernel
theorem od_jdk_52_m_14_32 : decode jdk_52_method_14_code 32 = .ok (.aload_n 3, 1) := by decide +kernel
theorem od_jdk_52_m_14_33 : decode jdk_52_method_14_code 33 = .ok (.areturn, 1) := by decide +kernel
theorem own_eftb (m : MethodId) (x0 : Addr) (x1 : Int32) (x2 : Int32) : entryFrame m #[(.ref x0), (.int x1), (.int x2)] 5 = mkF m 0 #[rv x0, iv x1, iv x2, u_, u_] [] := by first | (simp [entryFrame, mkF, argsToLocals, Value.category]; done) | rfl
def own_Qtb (Z : State) (a1 : Addr) (ka : ClassId) (ch0 : Int32) (ch1 : Int32) (ch2 : Int32) (ch3 : Int32) (h0 : Heap) (n0 : Nat) : Option Value → Heap → List Loc → Prop := fun v h L => ∃ (b : Addr) (k : ClassId), v = some (.ref b) ∧ Fr n0 L ∧ Keep h0 h [] ∧ n0 ≤ b ∧ h0.size ≤ b ∧ Arv Z h b k .byte (8 : Int32) [(.int (own_lo ch0)), (.int (own_hi ch0)), (.int (own_lo ch1)), (.int (own_hi ch1)), (.int (own_lo ch2)), (.int (own_hi ch2)), (.int (own_lo ch3)), (.int (own_hi ch3))] (.int 0)
def own_Rtb : Room := { frames := 2, cells := 1, slots := 8, locals := 24 }
set_option maxRecDepth 65536 in
set_option maxHeartbeats 40000000 in
theorem own_rmtb (l : Launch) (Z : State) (a0 : Array Value) (hw : ∀ d ∈ tables_1, d.before a0 Z = true) (ws : List Jvm.Cond) (a1 : Addr) (ka : ClassId) (ch0 : Int32) (ch1 : Int32) (ch2 : Int32) (ch3 : Int32) (h0 : Heap) (n0 : Nat) (Z0 : n0 ≤ h0.size) (pr0 : Arv Z h0 a1 ka .char (4 : Int32) [(.int ch0), (.int ch1), (.int ch2), (.int ch3)] (.int 0)) (pr1 : Sta Z h0 "java/lang/StringUTF16" "$assertionsDisabled" "Z" (.int 1)) (pr2 : Sta Z h0 "java/lang/StringUTF16" "HI_BYTE_SHIFT" "I" (.int 0)) (pr3 : Sta Z h0 "java/lang/StringUTF16" "LO_BYTE_SHIFT" "I" (.int 8)) :
    own_Met l Z own_y8 jdk_52_method_14_code 5 (some (.array .byte)) ws own_Rtb h0 #[(.ref a1), (.int 0), (.int 4)] (own_Qtb Z a1 ka ch0 ch1 ch2 ch3 h0 n0) own_Rtb.cells own_Rtb.slots := by
  refine own_start (plainFor_of_name own_pn0) ?_
  intro p e s m below meth c s₁ X0 hx hZ hby hml hret hlk hown hnm e0
  have hown : s.vm.findClass "java/lang/StringUTF16" = some m.cls := hown
  have hml : c.maxLocals = 5 := hml
  have N0 := Fr.nil n0
  refine own_cast (own_eftb m a1 (0 : Int32) (4 : Int32)) ?_
  refine own_s s₁ (mkF m 1 #[rv a1, iv 0, iv 4, u_, u_] [(.int 4)]) (fun _ k => XS.iloadN X0.here hx rfl (hb hby od_jdk_52_m_14_0) rfl  k) ?_
  obtain ⟨v1, T1, L1, X1, hQ1, st1⟩ := own_callS X0 hx hZ (y := own_y6) (W := 0) hown (own_h hw 39 rfl) (own_h hw 40 rfl) (own_h hw 19 rfl) (own_h hw 41 rfl) (by decide) (own_rmnbf l Z a0 hw []  h0 n0 Z0) (by decide) (by decide) (g := (mkF m 1 #[rv a1, iv 0, iv 4, u_, u_] [(.int 4)])) rfl (by rw [hml]; rfl) (argsL := [(.int 4)]) (rest := []) rfl (lenOf own_pd5 rfl) rfl (by show 2 * 0 + _ ≤ _; exact Nat.le_of_eq rfl) (hb hby od_jdk_52_m_14_1) e0 (by decide) (by decide)
  obtain ⟨zb1, zk1, rfl, Nq1, Kq1, g_zb1, sq_zb1, q1_0⟩ := hQ1
  have N1 := Fr.app N0 Nq1
  have sz_zb1 : h0.size ≤ zb1 := Nat.le_trans (Keep.refl h0 []).1 sq_zb1
  have f2 := pr0.keep Kq1 nin0
  have f3 := own_staKeep pr1 Kq1
  have f4 := own_staKeep pr2 Kq1
  have f5 := own_staKeep pr3 Kq1
  have K1 : Keep h0 T1.heap [] := (Keep.refl h0 []).trans Kq1 all0
  have Z1 := Nat.le_trans Z0 Kq1.1
  refine own_s T1 (mkF m 4 #[rv a1, iv 0, iv 4, u_, u_] [(.ref zb1)]) st1 ?_
  refine own_s T1 (mkF m 17 #[rv a1, iv 0, iv 4, rv zb1, iv 0] [(.int 0), (.ref zb1)]) (fun _ k => XS.astoreN X1.here hx rfl (hb hby od_jdk_52_m_14_4) rfl rfl (l' := #[rv a1, iv 0, iv 4, rv zb1, u_]) rfl (XS.iconst X1.here hx rfl (hb hby od_jdk_52_m_14_5) (XS.istore X1.here hx rfl (hb hby od_jdk_52_m_14_6) rfl (l' := #[rv a1, iv 0, iv 4, rv zb1, iv 0]) rfl (XS.iload X1.here hx rfl (hb hby od_jdk_52_m_14_8) rfl  (XS.iloadN X1.here hx rfl (hb hby od_jdk_52_m_14_10) rfl  (XS.icmpNo X1.here hx rfl (hb hby od_jdk_52_m_14_11) rfl (tlt (by decide : ((0 : Int32) < (4 : Int32)))).2.1 (XS.aloadN X1.here hx rfl (hb hby od_jdk_52_m_14_14) rfl rfl (XS.iload X1.here hx rfl (hb hby od_jdk_52_m_14_15) rfl  k)))))))) ?_
  refine own_s T1 (mkF m 19 #[rv a1, iv 0, iv 4, rv zb1, iv 0] [(.int 0), (.ref a1), (.int 0), (.ref zb1)]) (fun _ k => XS.aloadN X1.here hx rfl (hb hby od_jdk_52_m_14_17) rfl rfl (XS.iloadN X1.here hx rfl (hb hby od_jdk_52_m_14_18) rfl  k)) ?_
  obtain ⟨cl6, Ar6, q6, S6, Nn6, H6, G6⟩ := id f2
  have hin6 : ¬ ((0 : Int32) < 0 ∨ cl6.slots.size ≤ ((0 : Int32)).toNatClampNeg) := (inb_of S6 ⟨by decide, by decide⟩)
  refine own_s T1 (mkF m 20 #[rv a1, iv 0, iv 4, rv zb1, iv 0] [(.int ch0), (.int 0), (.ref zb1)]) (fun _ k => X1.caload hx (j := (0 : Int32)) (v := (.int ch0)) (own_at rfl Ar6.1) (State.isArrayOf_alike hZ.alike Ar6.2.1) Ar6.2.2 hin6 (Has.at H6 hin6 rfl) (g := (mkF m 19 #[rv a1, iv 0, iv 4, rv zb1, iv 0] [(.int 0), (.ref a1), (.int 0), (.ref zb1)])) rfl rfl (hb hby od_jdk_52_m_14_19) _ k) ?_
  obtain ⟨v7, T7, L7, X7, hQ7, st7⟩ := own_callS X1 hx hZ (y := own_y7) (W := 0) hown (own_h hw 46 rfl) (own_h hw 47 rfl) (own_h hw 19 rfl) (own_h hw 48 rfl) (by decide) (own_rmpch0 l Z a0 hw [] zb1 ch0 zk1 (.int 0) (.int 0) (.int 0) (.int 0) (.int 0) (.int 0) (.int 0) (.int 0) T1.heap n0 Z1 g_zb1 q1_0 f3 f4 f5) (by decide) (by decide) (g := (mkF m 20 #[rv a1, iv 0, iv 4, rv zb1, iv 0] [(.int ch0), (.int 0), (.ref zb1)])) rfl (by rw [hml]; rfl) (argsL := [(.ref zb1), (.int 0), (.int ch0)]) (rest := []) rfl (lenOf own_pd6 rfl) rfl (by show 2 * 0 + _ ≤ _; exact Nat.le_of_eq rfl) (hb hby od_jdk_52_m_14_20) rfl (by decide) (by decide)
  obtain ⟨rfl, Nq7, Kq7, q7_0⟩ := hQ7
  have N7 := Fr.app N1 Nq7
  have f8 := f2.keep Kq7 (ninS (own_nl pr0.lt sq_zb1) nin0)
  have f9 := own_staKeepW f3 Kq7 (allS q1_0.nostat all0)
  have f10 := own_staKeepW f4 Kq7 (allS q1_0.nostat all0)
  have f11 := own_staKeepW f5 Kq7 (allS q1_0.nostat all0)
  have K7 : Keep h0 T7.heap [] := K1.trans Kq7 (allS (Or.inr sz_zb1) all0)
  have Z7 := Nat.le_trans Z1 Kq7.1
  refine own_s T7 (mkF m 23 #[rv a1, iv 0, iv 4, rv zb1, iv 0] []) st7 ?_
  refine own_s T7 (mkF m 17 #[rv a1, iv 1, iv 4, rv zb1, iv 1] [(.int 1), (.ref zb1)]) (fun _ k => XS.iinc X7.here hx rfl (hb hby od_jdk_52_m_14_23) rfl (l' := #[rv a1, iv 1, iv 4, rv zb1, iv 0]) rfl (XS.iinc X7.here hx rfl (hb hby od_jdk_52_m_14_26) rfl (l' := #[rv a1, iv 1, iv 4, rv zb1, iv 1]) rfl (XS.goto X7.here hx rfl (pc0 := 29) (pc' := 8) rfl (hb hby od_jdk_52_m_14_29) (by decide) (by decide) (XS.iload X7.here hx rfl (hb hby od_jdk_52_m_14_8) rfl  (XS.iloadN X7.here hx rfl (hb hby od_jdk_52_m_14_10) rfl  (XS.icmpNo X7.here hx rfl (hb hby od_jdk_52_m_14_11) rfl (tlt (by decide : ((1 : Int32) < (4 : Int32)))).2.1 (XS.aloadN X7.here hx rfl (hb hby od_jdk_52_m_14_14) rfl rfl (XS.iload X7.here hx rfl (hb hby od_jdk_52_m_14_15) rfl  k)))))))) ?_
  refine own_s T7 (mkF m 19 #[rv a1, iv 1, iv 4, rv zb1, iv 1] [(.int 1), (.ref a1), (.int 1), (.ref zb1)]) (fun _ k => XS.aloadN X7.here hx rfl (hb hby od_jdk_52_m_14_17) rfl rfl (XS.iloadN X7.here hx rfl (hb hby od_jdk_52_m_14_18) rfl  k)) ?_
  obtain ⟨cl12, Ar12, q12, S12, Nn12, H12, G12⟩ := id f8
  have hin12 : ¬ ((1 : Int32) < 0 ∨ cl12.slots.size ≤ ((1 : Int32)).toNatClampNeg) := (inb_of S12 ⟨by decide, by decide⟩)
  refine own_s T7 (mkF m 20 #[rv a1, iv 1, iv 4, rv zb1, iv 1] [(.int ch1), (.int 1), (.ref zb1)]) (fun _ k => X7.caload hx (j := (1 : Int32)) (v := (.int ch1)) (own_at rfl Ar12.1) (State.isArrayOf_alike hZ.alike Ar12.2.1) Ar12.2.2 hin12 (Has.at H12 hin12 rfl) (g := (mkF m 19 #[rv a1, iv 1, iv 4, rv zb1, iv 1] [(.int 1), (.ref a1), (.int 1), (.ref zb1)])) rfl rfl (hb hby od_jdk_52_m_14_19) _ k) ?_
  obtain ⟨v13, T13, L13, X13, hQ13, st13⟩ := own_callS X7 hx hZ (y := own_y7) (W := 0) hown (own_h hw 46 rfl) (own_h hw 47 rfl) (own_h hw 19 rfl) (own_h hw 48 rfl) (by decide) (own_rmpch1 l Z a0 hw [] zb1 ch1 zk1 (.int (own_lo ch0)) (.int (own_hi ch0)) (.int 0) (.int 0) (.int 0) (.int 0) (.int 0) (.int 0) T7.heap n0 Z7 g_zb1 q7_0 f9 f10 f11) (by decide) (by decide) (g := (mkF m 20 #[rv a1, iv 1, iv 4, rv zb1, iv 1] [(.int ch1), (.int 1), (.ref zb1)])) rfl (by rw [hml]; rfl) (argsL := [(.ref zb1), (.int 1), (.int ch1)]) (rest := []) rfl (lenOf own_pd6 rfl) rfl (by show 2 * 0 + _ ≤ _; exact Nat.le_of_eq rfl) (hb hby od_jdk_52_m_14_20) rfl (by decide) (by decide)
  obtain ⟨rfl, Nq13, Kq13, q13_0⟩ := hQ13
  have N13 := Fr.app N7 Nq13
  have f14 := f8.keep Kq13 (ninS (own_nl pr0.lt sq_zb1) nin0)
  have f15 := own_staKeepW f9 Kq13 (allS q7_0.nostat all0)
  have f16 := own_staKeepW f10 Kq13 (allS q7_0.nostat all0)
  have f17 := own_staKeepW f11 Kq13 (allS q7_0.nostat all0)
  have K13 : Keep h0 T13.heap [] := K7.trans Kq13 (allS (Or.inr sz_zb1) all0)
  have Z13 := Nat.le_trans Z7 Kq13.1
  refine own_s T13 (mkF m 23 #[rv a1, iv 1, iv 4, rv zb1, iv 1] []) st13 ?_
  refine own_s T13 (mkF m 17 #[rv a1, iv 2, iv 4, rv zb1, iv 2] [(.int 2), (.ref zb1)]) (fun _ k => XS.iinc X13.here hx rfl (hb hby od_jdk_52_m_14_23) rfl (l' := #[rv a1, iv 2, iv 4, rv zb1, iv 1]) rfl (XS.iinc X13.here hx rfl (hb hby od_jdk_52_m_14_26) rfl (l' := #[rv a1, iv 2, iv 4, rv zb1, iv 2]) rfl (XS.goto X13.here hx rfl (pc0 := 29) (pc' := 8) rfl (hb hby od_jdk_52_m_14_29) (by decide) (by decide) (XS.iload X13.here hx rfl (hb hby od_jdk_52_m_14_8) rfl  (XS.iloadN X13.here hx rfl (hb hby od_jdk_52_m_14_10) rfl  (XS.icmpNo X13.here hx rfl (hb hby od_jdk_52_m_14_11) rfl (tlt (by decide : ((2 : Int32) < (4 : Int32)))).2.1 (XS.aloadN X13.here hx rfl (hb hby od_jdk_52_m_14_14) rfl rfl (XS.iload X13.here hx rfl (hb hby od_jdk_52_m_14_15) rfl  k)))))))) ?_
  refine own_s T13 (mkF m 19 #[rv a1, iv 2, iv 4, rv zb1, iv 2] [(.int 2), (.ref a1), (.int 2), (.ref zb1)]) (fun _ k => XS.aloadN X13.here hx rfl (hb hby od_jdk_52_m_14_17) rfl rfl (XS.iloadN X13.here hx rfl (hb hby od_jdk_52_m_14_18) rfl  k)) ?_
  obtain ⟨cl18, Ar18, q18, S18, Nn18, H18, G18⟩ := id f14
  have hin18 : ¬ ((2 : Int32) < 0 ∨ cl18.slots.size ≤ ((2 : Int32)).toNatClampNeg) := (inb_of S18 ⟨by decide, by decide⟩)
  refine own_s T13 (mkF m 20 #[rv a1, iv 2, iv 4, rv zb1, iv 2] [(.int ch2), (.int 2), (.ref zb1)]) (fun _ k => X13.caload hx (j := (2 : Int32)) (v := (.int ch2)) (own_at rfl Ar18.1) (State.isArrayOf_alike hZ.alike Ar18.2.1) Ar18.2.2 hin18 (Has.at H18 hin18 rfl) (g := (mkF m 19 #[rv a1, iv 2, iv 4, rv zb1, iv 2] [(.int 2), (.ref a1), (.int 2), (.ref zb1)])) rfl rfl (hb hby od_jdk_52_m_14_19) _ k) ?_
  obtain ⟨v19, T19, L19, X19, hQ19, st19⟩ := own_callS X13 hx hZ (y := own_y7) (W := 0) hown (own_h hw 46 rfl) (own_h hw 47 rfl) (own_h hw 19 rfl) (own_h hw 48 rfl) (by decide) (own_rmpch2 l Z a0 hw [] zb1 ch2 zk1 (.int (own_lo ch0)) (.int (own_hi ch0)) (.int (own_lo ch1)) (.int (own_hi ch1)) (.int 0) (.int 0) (.int 0) (.int 0) T13.heap n0 Z13 g_zb1 q13_0 f15 f16 f17) (by decide) (by decide) (g := (mkF m 20 #[rv a1, iv 2, iv 4, rv zb1, iv 2] [(.int ch2), (.int 2), (.ref zb1)])) rfl (by rw [hml]; rfl) (argsL := [(.ref zb1), (.int 2), (.int ch2)]) (rest := []) rfl (lenOf own_pd6 rfl) rfl (by show 2 * 0 + _ ≤ _; exact Nat.le_of_eq rfl) (hb hby od_jdk_52_m_14_20) rfl (by decide) (by decide)
  obtain ⟨rfl, Nq19, Kq19, q19_0⟩ := hQ19
  have N19 := Fr.app N13 Nq19
  have f20 := f14.keep Kq19 (ninS (own_nl pr0.lt sq_zb1) nin0)
  have f21 := own_staKeepW f15 Kq19 (allS q13_0.nostat all0)
  have f22 := own_staKeepW f16 Kq19 (allS q13_0.nostat all0)
  have f23 := own_staKeepW f17 Kq19 (allS q13_0.nostat all0)
  have K19 : Keep h0 T19.heap [] := K13.trans Kq19 (allS (Or.inr sz_zb1) all0)
  have Z19 := Nat.le_trans Z13 Kq19.1
  refine own_s T19 (mkF m 23 #[rv a1, iv 2, iv 4, rv zb1, iv 2] []) st19 ?_
  refine own_s T19 (mkF m 17 #[rv a1, iv 3, iv 4, rv zb1, iv 3] [(.int 3), (.ref zb1)]) (fun _ k => XS.iinc X19.here hx rfl (hb hby od_jdk_52_m_14_23) rfl (l' := #[rv a1, iv 3, iv 4, rv zb1, iv 2]) rfl (XS.iinc X19.here hx rfl (hb hby od_jdk_52_m_14_26) rfl (l' := #[rv a1, iv 3, iv 4, rv zb1, iv 3]) rfl (XS.goto X19.here hx rfl (pc0 := 29) (pc' := 8) rfl (hb hby od_jdk_52_m_14_29) (by decide) (by decide) (XS.iload X19.here hx rfl (hb hby od_jdk_52_m_14_8) rfl  (XS.iloadN X19.here hx rfl (hb hby od_jdk_52_m_14_10) rfl  (XS.icmpNo X19.here hx rfl (hb hby od_jdk_52_m_14_11) rfl (tlt (by decide : ((3 : Int32) < (4 : Int32)))).2.1 (XS.aloadN X19.here hx rfl (hb hby od_jdk_52_m_14_14) rfl rfl (XS.iload X19.here hx rfl (hb hby od_jdk_52_m_14_15) rfl  k)))))))) ?_
  refine own_s T19 (mkF m 19 #[rv a1, iv 3, iv 4, rv zb1, iv 3] [(.int 3), (.ref a1), (.int 3), (.ref zb1)]) (fun _ k => XS.aloadN X19.here hx rfl (hb hby od_jdk_52_m_14_17) rfl rfl (XS.iloadN X19.here hx rfl (hb hby od_jdk_52_m_14_18) rfl  k)) ?_
  obtain ⟨cl24, Ar24, q24, S24, Nn24, H24, G24⟩ := id f20
  have hin24 : ¬ ((3 : Int32) < 0 ∨ cl24.slots.size ≤ ((3 : Int32)).toNatClampNeg) := (inb_of S24 ⟨by decide, by decide⟩)
  refine own_s T19 (mkF m 20 #[rv a1, iv 3, iv 4, rv zb1, iv 3] [(.int ch3), (.int 3), (.ref zb1)]) (fun _ k => X19.caload hx (j := (3 : Int32)) (v := (.int ch3)) (own_at rfl Ar24.1) (State.isArrayOf_alike hZ.alike Ar24.2.1) Ar24.2.2 hin24 (Has.at H24 hin24 rfl) (g := (mkF m 19 #[rv a1, iv 3, iv 4, rv zb1, iv 3] [(.int 3), (.ref a1), (.int 3), (.ref zb1)])) rfl rfl (hb hby od_jdk_52_m_14_19) _ k) ?_
  obtain ⟨v25, T25, L25, X25, hQ25, st25⟩ := own_callS X19 hx hZ (y := own_y7) (W := 0) hown (own_h hw 46 rfl) (own_h hw 47 rfl) (own_h hw 19 rfl) (own_h hw 48 rfl) (by decide) (own_rmpch3 l Z a0 hw [] zb1 ch3 zk1 (.int (own_lo ch0)) (.int (own_hi ch0)) (.int (own_lo ch1)) (.int (own_hi ch1)) (.int (own_lo ch2)) (.int (own_hi ch2)) (.int 0) (.int 0) T19.heap n0 Z19 g_zb1 q19_0 f21 f22 f23) (by decide) (by decide) (g := (mkF m 20 #[rv a1, iv 3, iv 4, rv zb1, iv 3] [(.int ch3), (.int 3), (.ref zb1)])) rfl (by rw [hml]; rfl) (argsL := [(.ref zb1), (.int 3), (.int ch3)]) (rest := []) rfl (lenOf own_pd6 rfl) rfl (by show 2 * 0 + _ ≤ _; exact Nat.le_of_eq rfl) (hb hby od_jdk_52_m_14_20) rfl (by decide) (by decide)
  obtain ⟨rfl, Nq25, Kq25, q25_0⟩ := hQ25
  have N25 := Fr.app N19 Nq25
  have f26 := f20.keep Kq25 (ninS (own_nl pr0.lt sq_zb1) nin0)
  have f27 := own_staKeepW f21 Kq25 (allS q19_0.nostat all0)
  have f28 := own_staKeepW f22 Kq25 (allS q19_0.nostat all0)
  have f29 := own_staKeepW f23 Kq25 (allS q19_0.nostat all0)
  have K25 : Keep h0 T25.heap [] := K19.trans Kq25 (allS (Or.inr sz_zb1) all0)
  have Z25 := Nat.le_trans Z19 Kq25.1
  refine own_s T25 (mkF m 23 #[rv a1, iv 3, iv 4, rv zb1, iv 3] []) st25 ?_
  refine own_s T25 (mkF m 33 #[rv a1, iv 4, iv 4, rv zb1, iv 4] [(.ref zb1)]) (fun _ k => XS.iinc X25.here hx rfl (hb hby od_jdk_52_m_14_23) rfl (l' := #[rv a1, iv 4, iv 4, rv zb1, iv 3]) rfl (XS.iinc X25.here hx rfl (hb hby od_jdk_52_m_14_26) rfl (l' := #[rv a1, iv 4, iv 4, rv zb1, iv 4]) rfl (XS.goto X25.here hx rfl (pc0 := 29) (pc' := 8) rfl (hb hby od_jdk_52_m_14_29) (by decide) (by decide) (XS.iload X25.here hx rfl (hb hby od_jdk_52_m_14_8) rfl  (XS.iloadN X25.here hx rfl (hb hby od_jdk_52_m_14_10) rfl  (XS.icmpYes X25.here hx rfl (pc0 := 11) (pc' := 32) rfl (hb hby od_jdk_52_m_14_11) rfl (flt (by decide : ¬ ((4 : Int32) < (4 : Int32)))).2.1 (by decide) (by decide) (XS.aloadN X25.here hx rfl (hb hby od_jdk_52_m_14_32) rfl rfl k))))))) ?_
  exact own_finA X25 hx hret rfl rfl (hb hby od_jdk_52_m_14_33) (own_end (Qv := (own_Qtb Z a1 ka ch0 ch1 ch2 ch3 h0 n0)) X25 (own_some hret) hlk (by decide) (by decide) rfl ⟨zb1, zk1, rfl, N25, K25, g_zb1, sz_zb1, q25_0⟩)
abbrev own_y9 : MethodName := ⟨"java/lang/StringUTF16", "length", "([B)I"⟩
theorem od_jdk_52_m_6_0 : decode jdk_52_method_6_code 0 = .ok (.aload_n 0, 1) := by decide +kernel
theorem od_jdk_52_m_6_1 : decode jdk_52_method_6_code 1 = .ok (.arraylength, 1) := by decide +kernel
theorem od_jdk_52_m_6_2 : decode jdk_52_method_6_code 2 = .ok (.iconst 1, 1) := by decide +kernel
theorem od_jdk_52_m_6_3 : decode jdk_52_method_6_code 3 = .ok (.ishr, 1) := by decide +kernel
theorem od_jdk_52_m_6_4 : decode jdk_52_method_6_code 4 = .ok (.ireturn, 1) := by decide +kernel
theorem own_eflen (m : MethodId) (x0 : Addr) : entryFrame m #[(.ref x0)] 1 = mkF m 0 #[rv x0] [] := by first | (simp [entryFrame, mkF, argsToLocals, Value.category]; done) | rfl
def own_Qlen (Z : State) (a1 : Addr) (kb : ClassId) (vs : List Value) (h0 : Heap) (n0 : Nat) : Option Value → Heap → List Loc → Prop := fun v h L => v = some (.int 4) ∧ Fr n0 L ∧ h = h0
def own_Rlen : Room := { frames := 0, cells := 0, slots := 0, locals := 0 }
set_option maxRecDepth 65536 in
set_option maxHeartbeats 40000000 in
theorem own_rmlen (l : Launch) (Z : State) (a0 : Array Value) (hw : ∀ d ∈ tables_1, d.before a0 Z = true) (ws : List Jvm.Cond) (a1 : Addr) (kb : ClassId) (vs : List Value) (h0 : Heap) (n0 : Nat) (Z0 : n0 ≤ h0.size) (pr0 : Arv Z h0 a1 kb .byte (8 : Int32) vs (.int 0)) :
    own_Met l Z own_y9 jdk_52_method_6_code 1 (some .int) ws own_Rlen h0 #[(.ref a1)] (own_Qlen Z a1 kb vs h0 n0) own_Rlen.cells own_Rlen.slots := by
  refine own_start (plainFor_of_name own_pn0) ?_
  intro p e s m below meth c s₁ X0 hx hZ hby hml hret hlk hown hnm e0
  have hown : s.vm.findClass "java/lang/StringUTF16" = some m.cls := hown
  have hml : c.maxLocals = 1 := hml
  have N0 := Fr.nil n0
  refine own_cast (own_eflen m a1) ?_
  refine own_s s₁ (mkF m 1 #[rv a1] [(.ref a1)]) (fun _ k => XS.aloadN X0.here hx rfl (hb hby od_jdk_52_m_6_0) rfl rfl k) ?_
  obtain ⟨cl1, Ar1, q1, S1, Nn1, H1, G1⟩ := id pr0
  refine own_s s₁ (mkF m 4 #[rv a1] [(.int 4)]) (fun _ k => own_len X0 hx hZ e0 Ar1 S1 Nn1 (g := (mkF m 1 #[rv a1] [(.ref a1)])) rfl rfl (hb hby od_jdk_52_m_6_1) (XS.iconst X0.here hx rfl (hb hby od_jdk_52_m_6_2) (XS.ishr X0.here hx rfl (hb hby od_jdk_52_m_6_3) rfl k))) ?_
  exact own_finI X0 hx hret (hb hby od_jdk_52_m_6_4) (own_end (Qv := (own_Qlen Z a1 kb vs h0 n0)) X0 (own_some hret) hlk (by decide) (by decide) e0 ⟨rfl, N0, rfl⟩)
abbrev own_y10 : MethodName := ⟨"java/lang/StringUTF16", "getChar", "([BI)C"⟩
theorem od_jdk_52_m_5_0 : decode jdk_52_method_5_code 0 = .ok (.getstatic 44, 3) := by decide +kernel
theorem od_jdk_52_m_5_3 : decode jdk_52_method_5_code 3 = .ok (.ifCond .ne 25, 3) := by decide +kernel
theorem od_jdk_52_m_5_28 : decode jdk_52_method_5_code 28 = .ok (.iload_n 1, 1) := by decide +kernel
theorem od_jdk_52_m_5_29 : decode jdk_52_method_5_code 29 = .ok (.iconst 1, 1) := by decide +kernel
theorem od_jdk_52_m_5_30 : decode jdk_52_method_5_code 30 = .ok (.ishl, 1) := by decide +kernel
theorem od_jdk_52_m_5_31 : decode jdk_52_method_5_code 31 = .ok (.istore_n 1, 1) := by decide +kernel
theorem od_jdk_52_m_5_32 : decode jdk_52_method_5_code 32 = .ok (.aload_n 0, 1) := by decide +kernel
theorem od_jdk_52_m_5_33 : decode jdk_52_method_5_code 33 = .ok (.iload_n 1, 1) := by decide +kernel
theorem od_jdk_52_m_5_34 : decode jdk_52_method_5_code 34 = .ok (.iinc 1 1, 3) := by decide +kernel
theorem od_jdk_52_m_5_37 : decode jdk_52_method_5_code 37 = .ok (.baload, 1) := by decide +kernel
theorem od_jdk_52_m_5_38 : decode jdk_52_method_5_code 38 = .ok (.sipush 255, 3) := by decide +kernel
theorem od_jdk_52_m_5_41 : decode jdk_52_method_5_code 41 = .ok (.iand, 1) := by decide +kernel
theorem od_jdk_52_m_5_42 : decode jdk_52_method_5_code 42 = .ok (.getstatic 59, 3) := by decide +kernel
theorem od_jdk_52_m_5_45 : decode jdk_52_method_5_code 45 = .ok (.ishl, 1) := by decide +kernel
theorem od_jdk_52_m_5_46 : decode jdk_52_method_5_code 46 = .ok (.aload_n 0, 1) := by decide +kernel
theorem od_jdk_52_m_5_47 : decode jdk_52_method_5_code 47 = .ok (.iload_n 1, 1) := by decide +kernel
theorem od_jdk_52_m_5_48 : decode jdk_52_method_5_code 48 = .ok (.baload, 1) := by decide +kernel
theorem od_jdk_52_m_5_49 : decode jdk_52_method_5_code 49 = .ok (.sipush 255, 3) := by decide +kernel
theorem od_jdk_52_m_5_52 : decode jdk_52_method_5_code 52 = .ok (.iand, 1) := by decide +kernel
theorem od_jdk_52_m_5_53 : decode jdk_52_method_5_code 53 = .ok (.getstatic 63, 3) := by decide +kernel
theorem od_jdk_52_m_5_56 : decode jdk_52_method_5_code 56 = .ok (.ishl, 1) := by decide +kernel
theorem od_jdk_52_m_5_57 : decode jdk_52_method_5_code 57 = .ok (.ior, 1) := by decide +kernel
theorem od_jdk_52_m_5_58 : decode jdk_52_method_5_code 58 = .ok (.i2c, 1) := by decide +kernel
theorem od_jdk_52_m_5_59 : decode jdk_52_method_5_code 59 = .ok (.ireturn, 1) := by decide +kernel
theorem own_efgc0 (m : MethodId) (x0 : Addr) (x1 : Int32) : entryFrame m #[(.ref x0), (.int x1)] 2 = mkF m 0 #[rv x0, iv x1] [] := by first | (simp [entryFrame, mkF, argsToLocals, Value.category]; done) | rfl
def own_Qgc0 (Z : State) (a1 : Addr) (kb : ClassId) (x : Int32) (y : Int32) (v2 : Value) (v3 : Value) (v4 : Value) (v5 : Value) (v6 : Value) (v7 : Value) (h0 : Heap) (n0 : Nat) : Option Value → Heap → List Loc → Prop := fun v h L => v = some (.int (nar .char ((((x &&& (255 : Int32)) <<< ((0 : Int32) &&& 31)) ||| ((y &&& (255 : Int32)) <<< ((8 : Int32) &&& 31))).toUInt32.toUInt16.toUInt32.toInt32))) ∧ Fr n0 L ∧ h = h0
def own_Rgc0 : Room := { frames := 0, cells := 0, slots := 0, locals := 0 }
set_option maxRecDepth 65536 in
set_option maxHeartbeats 40000000 in
theorem own_rmgc0 (l : Launch) (Z : State) (a0 : Array Value) (hw : ∀ d ∈ tables_1, d.before a0 Z = true) (ws : List Jvm.Cond) (a1 : Addr) (kb : ClassId) (x : Int32) (y : Int32) (v2 : Value) (v3 : Value) (v4 : Value) (v5 : Value) (v6 : Value) (v7 : Value) (h0 : Heap) (n0 : Nat) (Z0 : n0 ≤ h0.size) (pr0 : Arv Z h0 a1 kb .byte (8 : Int32) [(.int x), (.int y), v2, v3, v4, v5, v6, v7] (.int 0)) (pr1 : Sta Z h0 "java/lang/StringUTF16" "$assertionsDisabled" "Z" (.int 1)) (pr2 : Sta Z h0 "java/lang/StringUTF16" "HI_BYTE_SHIFT" "I" (.int 0)) (pr3 : Sta Z h0 "java/lang/StringUTF16" "LO_BYTE_SHIFT" "I" (.int 8)) :
    own_Met l Z own_y10 jdk_52_method_5_code 2 (some .char) ws own_Rgc0 h0 #[(.ref a1), (.int 0)] (own_Qgc0 Z a1 kb x y v2 v3 v4 v5 v6 v7 h0 n0) own_Rgc0.cells own_Rgc0.slots := by
  refine own_start (plainFor_of_name own_pn0) ?_
  intro p e s m below meth c s₁ X0 hx hZ hby hml hret hlk hown hnm e0
  have hown : s.vm.findClass "java/lang/StringUTF16" = some m.cls := hown
  have hml : c.maxLocals = 2 := hml
  have N0 := Fr.nil n0
  refine own_cast (own_efgc0 m a1 (0 : Int32)) ?_
  obtain ⟨T1, X1, e1, st1⟩ := getS2 X0 hx hZ hown (host := "") (Or.inl (own_h hw 49 rfl)) Via.refl e0 pr1 (g := (mkF m 0 #[rv a1, iv 0] [])) rfl (hb hby od_jdk_52_m_5_0)
  refine own_s T1 (mkF m 3 #[rv a1, iv 0] [(.int 1)]) st1 ?_
  refine own_s T1 (mkF m 37 #[rv a1, iv 1] [(.int 0), (.ref a1)]) (fun _ k => XS.ifYes X1.here hx rfl (pc0 := 3) (pc' := 28) rfl (hb hby od_jdk_52_m_5_3) rfl ((if0 _ _).trans (feq (by decide : ¬ ((1 : Int32) = (0 : Int32)))).2) (by decide) (by decide) (XS.iloadN X1.here hx rfl (hb hby od_jdk_52_m_5_28) rfl  (XS.iconst X1.here hx rfl (hb hby od_jdk_52_m_5_29) (XS.ishl X1.here hx rfl (hb hby od_jdk_52_m_5_30) rfl (XS.istoreN X1.here hx rfl (hb hby od_jdk_52_m_5_31) rfl (l' := #[rv a1, iv 0]) rfl (XS.aloadN X1.here hx rfl (hb hby od_jdk_52_m_5_32) rfl rfl (XS.iloadN X1.here hx rfl (hb hby od_jdk_52_m_5_33) rfl  (XS.iinc X1.here hx rfl (hb hby od_jdk_52_m_5_34) rfl (l' := #[rv a1, iv 1]) rfl k)))))))) ?_
  obtain ⟨cl2, Ar2, q2, S2, Nn2, H2, G2⟩ := id pr0
  have hin2 : ¬ ((0 : Int32) < 0 ∨ cl2.slots.size ≤ ((0 : Int32)).toNatClampNeg) := (inb_of S2 ⟨by decide, by decide⟩)
  refine own_s T1 (mkF m 42 #[rv a1, iv 1] [(.int (x &&& (255 : Int32)))]) (fun _ k => X1.baloadBytes hx (j := (0 : Int32)) (v := (.int x)) (own_at e1 Ar2.1) (State.isArrayOf_alike hZ.alike Ar2.2.1) Ar2.2.2 hin2 (Has.at H2 hin2 rfl) (g := (mkF m 37 #[rv a1, iv 1] [(.int 0), (.ref a1)])) rfl rfl (hb hby od_jdk_52_m_5_37) _ (XS.sipush X1.here hx rfl (hb hby od_jdk_52_m_5_38) (XS.iand X1.here hx rfl (hb hby od_jdk_52_m_5_41) rfl k))) ?_
  obtain ⟨T3, X3, e3, st3⟩ := getS2 X1 hx hZ hown (host := "") (Or.inl (own_h hw 50 rfl)) Via.refl e1 pr2 (g := (mkF m 42 #[rv a1, iv 1] [(.int (x &&& (255 : Int32)))])) rfl (hb hby od_jdk_52_m_5_42)
  refine own_s T3 (mkF m 45 #[rv a1, iv 1] [(.int 0), (.int (x &&& (255 : Int32)))]) st3 ?_
  refine own_s T3 (mkF m 48 #[rv a1, iv 1] [(.int 1), (.ref a1), (.int ((x &&& (255 : Int32)) <<< ((0 : Int32) &&& 31)))]) (fun _ k => XS.ishl X3.here hx rfl (hb hby od_jdk_52_m_5_45) rfl (XS.aloadN X3.here hx rfl (hb hby od_jdk_52_m_5_46) rfl rfl (XS.iloadN X3.here hx rfl (hb hby od_jdk_52_m_5_47) rfl  k))) ?_
  obtain ⟨cl4, Ar4, q4, S4, Nn4, H4, G4⟩ := id pr0
  have hin4 : ¬ ((1 : Int32) < 0 ∨ cl4.slots.size ≤ ((1 : Int32)).toNatClampNeg) := (inb_of S4 ⟨by decide, by decide⟩)
  refine own_s T3 (mkF m 53 #[rv a1, iv 1] [(.int (y &&& (255 : Int32))), (.int ((x &&& (255 : Int32)) <<< ((0 : Int32) &&& 31)))]) (fun _ k => X3.baloadBytes hx (j := (1 : Int32)) (v := (.int y)) (own_at e3 Ar4.1) (State.isArrayOf_alike hZ.alike Ar4.2.1) Ar4.2.2 hin4 (Has.at H4 hin4 rfl) (g := (mkF m 48 #[rv a1, iv 1] [(.int 1), (.ref a1), (.int ((x &&& (255 : Int32)) <<< ((0 : Int32) &&& 31)))])) rfl rfl (hb hby od_jdk_52_m_5_48) _ (XS.sipush X3.here hx rfl (hb hby od_jdk_52_m_5_49) (XS.iand X3.here hx rfl (hb hby od_jdk_52_m_5_52) rfl k))) ?_
  obtain ⟨T5, X5, e5, st5⟩ := getS2 X3 hx hZ hown (host := "") (Or.inl (own_h hw 51 rfl)) Via.refl e3 pr3 (g := (mkF m 53 #[rv a1, iv 1] [(.int (y &&& (255 : Int32))), (.int ((x &&& (255 : Int32)) <<< ((0 : Int32) &&& 31)))])) rfl (hb hby od_jdk_52_m_5_53)
  refine own_s T5 (mkF m 56 #[rv a1, iv 1] [(.int 8), (.int (y &&& (255 : Int32))), (.int ((x &&& (255 : Int32)) <<< ((0 : Int32) &&& 31)))]) st5 ?_
  refine own_s T5 (mkF m 59 #[rv a1, iv 1] [(.int ((((x &&& (255 : Int32)) <<< ((0 : Int32) &&& 31)) ||| ((y &&& (255 : Int32)) <<< ((8 : Int32) &&& 31))).toUInt32.toUInt16.toUInt32.toInt32))]) (fun _ k => XS.ishl X5.here hx rfl (hb hby od_jdk_52_m_5_56) rfl (XS.ior X5.here hx rfl (hb hby od_jdk_52_m_5_57) rfl (XS.i2c X5.here hx rfl (hb hby od_jdk_52_m_5_58) rfl k))) ?_
  exact own_finZ X5 hx (t := .char) hret (by simp) (z' := (nar .char ((((x &&& (255 : Int32)) <<< ((0 : Int32) &&& 31)) ||| ((y &&& (255 : Int32)) <<< ((8 : Int32) &&& 31))).toUInt32.toUInt16.toUInt32.toInt32))) rfl (hb hby od_jdk_52_m_5_59) (own_end (Qv := (own_Qgc0 Z a1 kb x y v2 v3 v4 v5 v6 v7 h0 n0)) X5 (own_some hret) hlk (by decide) (by decide) e5 ⟨rfl, N0, rfl⟩)
theorem own_efgc1 (m : MethodId) (x0 : Addr) (x1 : Int32) : entryFrame m #[(.ref x0), (.int x1)] 2 = mkF m 0 #[rv x0, iv x1] [] := by first | (simp [entryFrame, mkF, argsToLocals, Value.category]; done) | rfl
def own_Qgc1 (Z : State) (a1 : Addr) (kb : ClassId) (v0 : Value) (v1 : Value) (x : Int32) (y : Int32) (v4 : Value) (v5 : Value) (v6 : Value) (v7 : Value) (h0 : Heap) (n0 : Nat) : Option Value → Heap → List Loc → Prop := fun v h L => v = some (.int (nar .char ((((x &&& (255 : Int32)) <<< ((0 : Int32) &&& 31)) ||| ((y &&& (255 : Int32)) <<< ((8 : Int32) &&& 31))).toUInt32.toUInt16.toUInt32.toInt32))) ∧ Fr n0 L ∧ h = h0
def own_Rgc1 : Room := { frames := 0, cells := 0, slots := 0, locals := 0 }
set_option maxRecDepth 65536 in
set_option maxHeartbeats 40000000 in
theorem own_rmgc1 (l : Launch) (Z : State) (a0 : Array Value) (hw : ∀ d ∈ tables_1, d.before a0 Z = true) (ws : List Jvm.Cond) (a1 : Addr) (kb : ClassId) (v0 : Value) (v1 : Value) (x : Int32) (y : Int32) (v4 : Value) (v5 : Value) (v6 : Value) (v7 : Value) (h0 : Heap) (n0 : Nat) (Z0 : n0 ≤ h0.size) (pr0 : Arv Z h0 a1 kb .byte (8 : Int32) [v0, v1, (.int x), (.int y), v4, v5, v6, v7] (.int 0)) (pr1 : Sta Z h0 "java/lang/StringUTF16" "$assertionsDisabled" "Z" (.int 1)) (pr2 : Sta Z h0 "java/lang/StringUTF16" "HI_BYTE_SHIFT" "I" (.int 0)) (pr3 : Sta Z h0 "java/lang/StringUTF16" "LO_BYTE_SHIFT" "I" (.int 8)) :
    own_Met l Z own_y10 jdk_52_method_5_code 2 (some .char) ws own_Rgc1 h0 #[(.ref a1), (.int 1)] (own_Qgc1 Z a1 kb v0 v1 x y v4 v5 v6 v7 h0 n0) own_Rgc1.cells own_Rgc1.slots := by
  refine own_start (plainFor_of_name own_pn0) ?_
  intro p e s m below meth c s₁ X0 hx hZ hby hml hret hlk hown hnm e0
  have hown : s.vm.findClass "java/lang/StringUTF16" = some m.cls := hown
  have hml : c.maxLocals = 2 := hml
  have N0 := Fr.nil n0
  refine own_cast (own_efgc1 m a1 (1 : Int32)) ?_
  obtain ⟨T1, X1, e1, st1⟩ := getS2 X0 hx hZ hown (host := "") (Or.inl (own_h hw 49 rfl)) Via.refl e0 pr1 (g := (mkF m 0 #[rv a1, iv 1] [])) rfl (hb hby od_jdk_52_m_5_0)
  refine own_s T1 (mkF m 3 #[rv a1, iv 1] [(.int 1)]) st1 ?_
  refine own_s T1 (mkF m 37 #[rv a1, iv 3] [(.int 2), (.ref a1)]) (fun _ k => XS.ifYes X1.here hx rfl (pc0 := 3) (pc' := 28) rfl (hb hby od_jdk_52_m_5_3) rfl ((if0 _ _).trans (feq (by decide : ¬ ((1 : Int32) = (0 : Int32)))).2) (by decide) (by decide) (XS.iloadN X1.here hx rfl (hb hby od_jdk_52_m_5_28) rfl  (XS.iconst X1.here hx rfl (hb hby od_jdk_52_m_5_29) (XS.ishl X1.here hx rfl (hb hby od_jdk_52_m_5_30) rfl (XS.istoreN X1.here hx rfl (hb hby od_jdk_52_m_5_31) rfl (l' := #[rv a1, iv 2]) rfl (XS.aloadN X1.here hx rfl (hb hby od_jdk_52_m_5_32) rfl rfl (XS.iloadN X1.here hx rfl (hb hby od_jdk_52_m_5_33) rfl  (XS.iinc X1.here hx rfl (hb hby od_jdk_52_m_5_34) rfl (l' := #[rv a1, iv 3]) rfl k)))))))) ?_
  obtain ⟨cl2, Ar2, q2, S2, Nn2, H2, G2⟩ := id pr0
  have hin2 : ¬ ((2 : Int32) < 0 ∨ cl2.slots.size ≤ ((2 : Int32)).toNatClampNeg) := (inb_of S2 ⟨by decide, by decide⟩)
  refine own_s T1 (mkF m 42 #[rv a1, iv 3] [(.int (x &&& (255 : Int32)))]) (fun _ k => X1.baloadBytes hx (j := (2 : Int32)) (v := (.int x)) (own_at e1 Ar2.1) (State.isArrayOf_alike hZ.alike Ar2.2.1) Ar2.2.2 hin2 (Has.at H2 hin2 rfl) (g := (mkF m 37 #[rv a1, iv 3] [(.int 2), (.ref a1)])) rfl rfl (hb hby od_jdk_52_m_5_37) _ (XS.sipush X1.here hx rfl (hb hby od_jdk_52_m_5_38) (XS.iand X1.here hx rfl (hb hby od_jdk_52_m_5_41) rfl k))) ?_
  obtain ⟨T3, X3, e3, st3⟩ := getS2 X1 hx hZ hown (host := "") (Or.inl (own_h hw 50 rfl)) Via.refl e1 pr2 (g := (mkF m 42 #[rv a1, iv 3] [(.int (x &&& (255 : Int32)))])) rfl (hb hby od_jdk_52_m_5_42)
  refine own_s T3 (mkF m 45 #[rv a1, iv 3] [(.int 0), (.int (x &&& (255 : Int32)))]) st3 ?_
  refine own_s T3 (mkF m 48 #[rv a1, iv 3] [(.int 3), (.ref a1), (.int ((x &&& (255 : Int32)) <<< ((0 : Int32) &&& 31)))]) (fun _ k => XS.ishl X3.here hx rfl (hb hby od_jdk_52_m_5_45) rfl (XS.aloadN X3.here hx rfl (hb hby od_jdk_52_m_5_46) rfl rfl (XS.iloadN X3.here hx rfl (hb hby od_jdk_52_m_5_47) rfl  k))) ?_
  obtain ⟨cl4, Ar4, q4, S4, Nn4, H4, G4⟩ := id pr0
  have hin4 : ¬ ((3 : Int32) < 0 ∨ cl4.slots.size ≤ ((3 : Int32)).toNatClampNeg) := (inb_of S4 ⟨by decide, by decide⟩)
  refine own_s T3 (mkF m 53 #[rv a1, iv 3] [(.int (y &&& (255 : Int32))), (.int ((x &&& (255 : Int32)) <<< ((0 : Int32) &&& 31)))]) (fun _ k => X3.baloadBytes hx (j := (3 : Int32)) (v := (.int y)) (own_at e3 Ar4.1) (State.isArrayOf_alike hZ.alike Ar4.2.1) Ar4.2.2 hin4 (Has.at H4 hin4 rfl) (g := (mkF m 48 #[rv a1, iv 3] [(.int 3), (.ref a1), (.int ((x &&& (255 : Int32)) <<< ((0 : Int32) &&& 31)))])) rfl rfl (hb hby od_jdk_52_m_5_48) _ (XS.sipush X3.here hx rfl (hb hby od_jdk_52_m_5_49) (XS.iand X3.here hx rfl (hb hby od_jdk_52_m_5_52) rfl k))) ?_
  obtain ⟨T5, X5, e5, st5⟩ := getS2 X3 hx hZ hown (host := "") (Or.inl (own_h hw 51 rfl)) Via.refl e3 pr3 (g := (mkF m 53 #[rv a1, iv 3] [(.int (y &&& (255 : Int32))), (.int ((x &&& (255 : Int32)) <<< ((0 : Int32) &&& 31)))])) rfl (hb hby od_jdk_52_m_5_53)
  refine own_s T5 (mkF m 56 #[rv a1, iv 3] [(.int 8), (.int (y &&& (255 : Int32))), (.int ((x &&& (255 : Int32)) <<< ((0 : Int32) &&& 31)))]) st5 ?_
  refine own_s T5 (mkF m 59 #[rv a1, iv 3] [(.int ((((x &&& (255 : Int32)) <<< ((0 : Int32) &&& 31)) ||| ((y &&& (255 : Int32)) <<< ((8 : Int32) &&& 31))).toUInt32.toUInt16.toUInt32.toInt32))]) (fun _ k => XS.ishl X5.here hx rfl (hb hby od_jdk_52_m_5_56) rfl (XS.ior X5.here hx rfl (hb hby od_jdk_52_m_5_57) rfl (XS.i2c X5.here hx rfl (hb hby od_jdk_52_m_5_58) rfl k))) ?_
  exact own_finZ X5 hx (t := .char) hret (by simp) (z' := (nar .char ((((x &&& (255 : Int32)) <<< ((0 : Int32) &&& 31)) ||| ((y &&& (255 : Int32)) <<< ((8 : Int32) &&& 31))).toUInt32.toUInt16.toUInt32.toInt32))) rfl (hb hby od_jdk_52_m_5_59) (own_end (Qv := (own_Qgc1 Z a1 kb v0 v1 x y v4 v5 v6 v7 h0 n0)) X5 (own_some hret) hlk (by decide) (by decide) e5 ⟨rfl, N0, rfl⟩)
theorem own_efgc2 (m : MethodId) (x0 : Addr) (x1 : Int32) : entryFrame m #[(.ref x0), (.int x1)] 2 = mkF m 0 #[rv x0, iv x1] [] := by first | (simp [entryFrame, mkF, argsToLocals, Value.category]; done) | rfl
def own_Qgc2 (Z : State) (a1 : Addr) (kb : ClassId) (v0 : Value) (v1 : Value) (v2 : Value) (v3 : Value) (x : Int32) (y : Int32) (v6 : Value) (v7 : Value) (h0 : Heap) (n0 : Nat) : Option Value → Heap → List Loc → Prop := fun v h L => v = some (.int (nar .char ((((x &&& (255 : Int32)) <<< ((0 : Int32) &&& 31)) ||| ((y &&& (255 : Int32)) <<< ((8 : Int32) &&& 31))).toUInt32.toUInt16.toUInt32.toInt32))) ∧ Fr n0 L ∧ h = h0
def own_Rgc2 : Room := { frames := 0, cells := 0, slots := 0, locals := 0 }
set_option maxRecDepth 65536 in
set_option maxHeartbeats 40000000 in
theorem own_rmgc2 (l : Launch) (Z : State) (a0 : Array Value) (hw : ∀ d ∈ tables_1, d.before a0 Z = true) (ws : List Jvm.Cond) (a1 : Addr) (kb : ClassId) (v0 : Value) (v1 : Value) (v2 : Value) (v3 : Value) (x : Int32) (y : Int32) (v6 : Value) (v7 : Value) (h0 : Heap) (n0 : Nat) (Z0 : n0 ≤ h0.size) (pr0 : Arv Z h0 a1 kb .byte (8 : Int32) [v0, v1, v2, v3, (.int x), (.int y), v6, v7] (.int 0)) (pr1 : Sta Z h0 "java/lang/StringUTF16" "$assertionsDisabled" "Z" (.int 1)) (pr2 : Sta Z h0 "java/lang/StringUTF16" "HI_BYTE_SHIFT" "I" (.int 0)) (pr3 : Sta Z h0 "java/lang/StringUTF16" "LO_BYTE_SHIFT" "I" (.int 8)) :
    own_Met l Z own_y10 jdk_52_method_5_code 2 (some .char) ws own_Rgc2 h0 #[(.ref a1), (.int 2)] (own_Qgc2 Z a1 kb v0 v1 v2 v3 x y v6 v7 h0 n0) own_Rgc2.cells own_Rgc2.slots := by
  refine own_start (plainFor_of_name own_pn0) ?_
  intro p e s m below meth c s₁ X0 hx hZ hby hml hret hlk hown hnm e0
  have hown : s.vm.findClass "java/lang/StringUTF16" = some m.cls := hown
  have hml : c.maxLocals = 2 := hml
  have N0 := Fr.nil n0
  refine own_cast (own_efgc2 m a1 (2 : Int32)) ?_
  obtain ⟨T1, X1, e1, st1⟩ := getS2 X0 hx hZ hown (host := "") (Or.inl (own_h hw 49 rfl)) Via.refl e0 pr1 (g := (mkF m 0 #[rv a1, iv 2] [])) rfl (hb hby od_jdk_52_m_5_0)
  refine own_s T1 (mkF m 3 #[rv a1, iv 2] [(.int 1)]) st1 ?_
  refine own_s T1 (mkF m 37 #[rv a1, iv 5] [(.int 4), (.ref a1)]) (fun _ k => XS.ifYes X1.here hx rfl (pc0 := 3) (pc' := 28) rfl (hb hby od_jdk_52_m_5_3) rfl ((if0 _ _).trans (feq (by decide : ¬ ((1 : Int32) = (0 : Int32)))).2) (by decide) (by decide) (XS.iloadN X1.here hx rfl (hb hby od_jdk_52_m_5_28) rfl  (XS.iconst X1.here hx rfl (hb hby od_jdk_52_m_5_29) (XS.ishl X1.here hx rfl (hb hby od_jdk_52_m_5_30) rfl (XS.istoreN X1.here hx rfl (hb hby od_jdk_52_m_5_31) rfl (l' := #[rv a1, iv 4]) rfl (XS.aloadN X1.here hx rfl (hb hby od_jdk_52_m_5_32) rfl rfl (XS.iloadN X1.here hx rfl (hb hby od_jdk_52_m_5_33) rfl  (XS.iinc X1.here hx rfl (hb hby od_jdk_52_m_5_34) rfl (l' := #[rv a1, iv 5]) rfl k)))))))) ?_
  obtain ⟨cl2, Ar2, q2, S2, Nn2, H2, G2⟩ := id pr0
  have hin2 : ¬ ((4 : Int32) < 0 ∨ cl2.slots.size ≤ ((4 : Int32)).toNatClampNeg) := (inb_of S2 ⟨by decide, by decide⟩)
  refine own_s T1 (mkF m 42 #[rv a1, iv 5] [(.int (x &&& (255 : Int32)))]) (fun _ k => X1.baloadBytes hx (j := (4 : Int32)) (v := (.int x)) (own_at e1 Ar2.1) (State.isArrayOf_alike hZ.alike Ar2.2.1) Ar2.2.2 hin2 (Has.at H2 hin2 rfl) (g := (mkF m 37 #[rv a1, iv 5] [(.int 4), (.ref a1)])) rfl rfl (hb hby od_jdk_52_m_5_37) _ (XS.sipush X1.here hx rfl (hb hby od_jdk_52_m_5_38) (XS.iand X1.here hx rfl (hb hby od_jdk_52_m_5_41) rfl k))) ?_
  obtain ⟨T3, X3, e3, st3⟩ := getS2 X1 hx hZ hown (host := "") (Or.inl (own_h hw 50 rfl)) Via.refl e1 pr2 (g := (mkF m 42 #[rv a1, iv 5] [(.int (x &&& (255 : Int32)))])) rfl (hb hby od_jdk_52_m_5_42)
  refine own_s T3 (mkF m 45 #[rv a1, iv 5] [(.int 0), (.int (x &&& (255 : Int32)))]) st3 ?_
  refine own_s T3 (mkF m 48 #[rv a1, iv 5] [(.int 5), (.ref a1), (.int ((x &&& (255 : Int32)) <<< ((0 : Int32) &&& 31)))]) (fun _ k => XS.ishl X3.here hx rfl (hb hby od_jdk_52_m_5_45) rfl (XS.aloadN X3.here hx rfl (hb hby od_jdk_52_m_5_46) rfl rfl (XS.iloadN X3.here hx rfl (hb hby od_jdk_52_m_5_47) rfl  k))) ?_
  obtain ⟨cl4, Ar4, q4, S4, Nn4, H4, G4⟩ := id pr0
  have hin4 : ¬ ((5 : Int32) < 0 ∨ cl4.slots.size ≤ ((5 : Int32)).toNatClampNeg) := (inb_of S4 ⟨by decide, by decide⟩)
  refine own_s T3 (mkF m 53 #[rv a1, iv 5] [(.int (y &&& (255 : Int32))), (.int ((x &&& (255 : Int32)) <<< ((0 : Int32) &&& 31)))]) (fun _ k => X3.baloadBytes hx (j := (5 : Int32)) (v := (.int y)) (own_at e3 Ar4.1) (State.isArrayOf_alike hZ.alike Ar4.2.1) Ar4.2.2 hin4 (Has.at H4 hin4 rfl) (g := (mkF m 48 #[rv a1, iv 5] [(.int 5), (.ref a1), (.int ((x &&& (255 : Int32)) <<< ((0 : Int32) &&& 31)))])) rfl rfl (hb hby od_jdk_52_m_5_48) _ (XS.sipush X3.here hx rfl (hb hby od_jdk_52_m_5_49) (XS.iand X3.here hx rfl (hb hby od_jdk_52_m_5_52) rfl k))) ?_
  obtain ⟨T5, X5, e5, st5⟩ := getS2 X3 hx hZ hown (host := "") (Or.inl (own_h hw 51 rfl)) Via.refl e3 pr3 (g := (mkF m 53 #[rv a1, iv 5] [(.int (y &&& (255 : Int32))), (.int ((x &&& (255 : Int32)) <<< ((0 : Int32) &&& 31)))])) rfl (hb hby od_jdk_52_m_5_53)
  refine own_s T5 (mkF m 56 #[rv a1, iv 5] [(.int 8), (.int (y &&& (255 : Int32))), (.int ((x &&& (255 : Int32)) <<< ((0 : Int32) &&& 31)))]) st5 ?_
  refine own_s T5 (mkF m 59 #[rv a1, iv 5] [(.int ((((x &&& (255 : Int32)) <<< ((0 : Int32) &&& 31)) ||| ((y &&& (255 : Int32)) <<< ((8 : Int32) &&& 31))).toUInt32.toUInt16.toUInt32.toInt32))]) (fun _ k => XS.ishl X5.here hx rfl (hb hby od_jdk_52_m_5_56) rfl (XS.ior X5.here hx rfl (hb hby od_jdk_52_m_5_57) rfl (XS.i2c X5.here hx rfl (hb hby od_jdk_52_m_5_58) rfl k))) ?_
  exact own_finZ X5 hx (t := .char) hret (by simp) (z' := (nar .char ((((x &&& (255 : Int32)) <<< ((0 : Int32) &&& 31)) ||| ((y &&& (255 : Int32)) <<< ((8 : Int32) &&& 31))).toUInt32.toUInt16.toUInt32.toInt32))) rfl (hb hby od_jdk_52_m_5_59) (own_end (Qv := (own_Qgc2 Z a1 kb v0 v1 v2 v3 x y v6 v7 h0 n0)) X5 (own_some hret) hlk (by decide) (by decide) e5 ⟨rfl, N0, rfl⟩)
theorem own_efgc3 (m : MethodId) (x0 : Addr) (x1 : Int32) : entryFrame m #[(.ref x0), (.int x1)] 2 = mkF m 0 #[rv x0, iv x1] [] := by first | (simp [entryFrame, mkF, argsToLocals, Value.category]; done) | rfl
def own_Qgc3 (Z : State) (a1 : Addr) (kb : ClassId) (v0 : Value) (v1 : Value) (v2 : Value) (v3 : Value) (v4 : Value) (v5 : Value) (x : Int32) (y : Int32) (h0 : Heap) (n0 : Nat) : Option Value → Heap → List Loc → Prop := fun v h L => v = some (.int (nar .char ((((x &&& (255 : Int32)) <<< ((0 : Int32) &&& 31)) ||| ((y &&& (255 : Int32)) <<< ((8 : Int32) &&& 31))).toUInt32.toUInt16.toUInt32.toInt32))) ∧ Fr n0 L ∧ h = h0
def own_Rgc3 : Room := { frames := 0, cells := 0, slots := 0, locals := 0 }
set_option maxRecDepth 65536 in
set_option maxHeartbeats 40000000 in
theorem own_rmgc3 (l : Launch) (Z : State) (a0 : Array Value) (hw : ∀ d ∈ tables_1, d.before a0 Z = true) (ws : List Jvm.Cond) (a1 : Addr) (kb : ClassId) (v0 : Value) (v1 : Value) (v2 : Value) (v3 : Value) (v4 : Value) (v5 : Value) (x : Int32) (y : Int32) (h0 : Heap) (n0 : Nat) (Z0 : n0 ≤ h0.size) (pr0 : Arv Z h0 a1 kb .byte (8 : Int32) [v0, v1, v2, v3, v4, v5, (.int x), (.int y)] (.int 0)) (pr1 : Sta Z h0 "java/lang/StringUTF16" "$assertionsDisabled" "Z" (.int 1)) (pr2 : Sta Z h0 "java/lang/StringUTF16" "HI_BYTE_SHIFT" "I" (.int 0)) (pr3 : Sta Z h0 "java/lang/StringUTF16" "LO_BYTE_SHIFT" "I" (.int 8)) :
    own_Met l Z own_y10 jdk_52_method_5_code 2 (some .char) ws own_Rgc3 h0 #[(.ref a1), (.int 3)] (own_Qgc3 Z a1 kb v0 v1 v2 v3 v4 v5 x y h0 n0) own_Rgc3.cells own_Rgc3.slots := by
  refine own_start (plainFor_of_name own_pn0) ?_
  intro p e s m below meth c s₁ X0 hx hZ hby hml hret hlk hown hnm e0
  have hown : s.vm.findClass "java/lang/StringUTF16" = some m.cls := hown
  have hml : c.maxLocals = 2 := hml
  have N0 := Fr.nil n0
  refine own_cast (own_efgc3 m a1 (3 : Int32)) ?_
  obtain ⟨T1, X1, e1, st1⟩ := getS2 X0 hx hZ hown (host := "") (Or.inl (own_h hw 49 rfl)) Via.refl e0 pr1 (g := (mkF m 0 #[rv a1, iv 3] [])) rfl (hb hby od_jdk_52_m_5_0)
  refine own_s T1 (mkF m 3 #[rv a1, iv 3] [(.int 1)]) st1 ?_
  refine own_s T1 (mkF m 37 #[rv a1, iv 7] [(.int 6), (.ref a1)]) (fun _ k => XS.ifYes X1.here hx rfl (pc0 := 3) (pc' := 28) rfl (hb hby od_jdk_52_m_5_3) rfl ((if0 _ _).trans (feq (by decide : ¬ ((1 : Int32) = (0 : Int32)))).2) (by decide) (by decide) (XS.iloadN X1.here hx rfl (hb hby od_jdk_52_m_5_28) rfl  (XS.iconst X1.here hx rfl (hb hby od_jdk_52_m_5_29) (XS.ishl X1.here hx rfl (hb hby od_jdk_52_m_5_30) rfl (XS.istoreN X1.here hx rfl (hb hby od_jdk_52_m_5_31) rfl (l' := #[rv a1, iv 6]) rfl (XS.aloadN X1.here hx rfl (hb hby od_jdk_52_m_5_32) rfl rfl (XS.iloadN X1.here hx rfl (hb hby od_jdk_52_m_5_33) rfl  (XS.iinc X1.here hx rfl (hb hby od_jdk_52_m_5_34) rfl (l' := #[rv a1, iv 7]) rfl k)))))))) ?_
  obtain ⟨cl2, Ar2, q2, S2, Nn2, H2, G2⟩ := id pr0
  have hin2 : ¬ ((6 : Int32) < 0 ∨ cl2.slots.size ≤ ((6 : Int32)).toNatClampNeg) := (inb_of S2 ⟨by decide, by decide⟩)
  refine own_s T1 (mkF m 42 #[rv a1, iv 7] [(.int (x &&& (255 : Int32)))]) (fun _ k => X1.baloadBytes hx (j := (6 : Int32)) (v := (.int x)) (own_at e1 Ar2.1) (State.isArrayOf_alike hZ.alike Ar2.2.1) Ar2.2.2 hin2 (Has.at H2 hin2 rfl) (g := (mkF m 37 #[rv a1, iv 7] [(.int 6), (.ref a1)])) rfl rfl (hb hby od_jdk_52_m_5_37) _ (XS.sipush X1.here hx rfl (hb hby od_jdk_52_m_5_38) (XS.iand X1.here hx rfl (hb hby od_jdk_52_m_5_41) rfl k))) ?_
  obtain ⟨T3, X3, e3, st3⟩ := getS2 X1 hx hZ hown (host := "") (Or.inl (own_h hw 50 rfl)) Via.refl e1 pr2 (g := (mkF m 42 #[rv a1, iv 7] [(.int (x &&& (255 : Int32)))])) rfl (hb hby od_jdk_52_m_5_42)
  refine own_s T3 (mkF m 45 #[rv a1, iv 7] [(.int 0), (.int (x &&& (255 : Int32)))]) st3 ?_
  refine own_s T3 (mkF m 48 #[rv a1, iv 7] [(.int 7), (.ref a1), (.int ((x &&& (255 : Int32)) <<< ((0 : Int32) &&& 31)))]) (fun _ k => XS.ishl X3.here hx rfl (hb hby od_jdk_52_m_5_45) rfl (XS.aloadN X3.here hx rfl (hb hby od_jdk_52_m_5_46) rfl rfl (XS.iloadN X3.here hx rfl (hb hby od_jdk_52_m_5_47) rfl  k))) ?_
  obtain ⟨cl4, Ar4, q4, S4, Nn4, H4, G4⟩ := id pr0
  have hin4 : ¬ ((7 : Int32) < 0 ∨ cl4.slots.size ≤ ((7 : Int32)).toNatClampNeg) := (inb_of S4 ⟨by decide, by decide⟩)
  refine own_s T3 (mkF m 53 #[rv a1, iv 7] [(.int (y &&& (255 : Int32))), (.int ((x &&& (255 : Int32)) <<< ((0 : Int32) &&& 31)))]) (fun _ k => X3.baloadBytes hx (j := (7 : Int32)) (v := (.int y)) (own_at e3 Ar4.1) (State.isArrayOf_alike hZ.alike Ar4.2.1) Ar4.2.2 hin4 (Has.at H4 hin4 rfl) (g := (mkF m 48 #[rv a1, iv 7] [(.int 7), (.ref a1), (.int ((x &&& (255 : Int32)) <<< ((0 : Int32) &&& 31)))])) rfl rfl (hb hby od_jdk_52_m_5_48) _ (XS.sipush X3.here hx rfl (hb hby od_jdk_52_m_5_49) (XS.iand X3.here hx rfl (hb hby od_jdk_52_m_5_52) rfl k))) ?_
  obtain ⟨T5, X5, e5, st5⟩ := getS2 X3 hx hZ hown (host := "") (Or.inl (own_h hw 51 rfl)) Via.refl e3 pr3 (g := (mkF m 53 #[rv a1, iv 7] [(.int (y &&& (255 : Int32))), (.int ((x &&& (255 : Int32)) <<< ((0 : Int32) &&& 31)))])) rfl (hb hby od_jdk_52_m_5_53)
  refine own_s T5 (mkF m 56 #[rv a1, iv 7] [(.int 8), (.int (y &&& (255 : Int32))), (.int ((x &&& (255 : Int32)) <<< ((0 : Int32) &&& 31)))]) st5 ?_
  refine own_s T5 (mkF m 59 #[rv a1, iv 7] [(.int ((((x &&& (255 : Int32)) <<< ((0 : Int32) &&& 31)) ||| ((y &&& (255 : Int32)) <<< ((8 : Int32) &&& 31))).toUInt32.toUInt16.toUInt32.toInt32))]) (fun _ k => XS.ishl X5.here hx rfl (hb hby od_jdk_52_m_5_56) rfl (XS.ior X5.here hx rfl (hb hby od_jdk_52_m_5_57) rfl (XS.i2c X5.here hx rfl (hb hby od_jdk_52_m_5_58) rfl k))) ?_
  exact own_finZ X5 hx (t := .char) hret (by simp) (z' := (nar .char ((((x &&& (255 : Int32)) <<< ((0 : Int32) &&& 31)) ||| ((y &&& (255 : Int32)) <<< ((8 : Int32) &&& 31))).toUInt32.toUInt16.toUInt32.toInt32))) rfl (hb hby od_jdk_52_m_5_59) (own_end (Qv := (own_Qgc3 Z a1 kb v0 v1 v2 v3 v4 v5 x y h0 n0)) X5 (own_some hret) hlk (by decide) (by decide) e5 ⟨rfl, N0, rfl⟩)
theorem od_jdk_52_m_21_23 : decode jdk_52_method_21_code 23 = .ok (.iload 5, 2) := by decide +kernel
theorem od_jdk_52_m_21_25 : decode jdk_52_method_21_code 25 = .ok (.ireturn, 1) := by decide +kernel
theorem own_efcp2_0 (m : MethodId) (x0 : Addr) (x1 : Int32) (x2 : Addr) (x3 : Int32) (x4 : Int32) : entryFrame m #[(.ref x0), (.int x1), (.ref x2), (.int x3), (.int x4)] 7 = mkF m 0 #[rv x0, iv x1, rv x2, iv x3, iv x4, u_, u_] [] := by first | (simp [entryFrame, mkF, argsToLocals, Value.category]; done) | rfl
def own_Qcp2_0 (Z : State) (a1 : Addr) (a3 : Addr) (ka : ClassId) (ch0 : Int32) (ch1 : Int32) (ch2 : Int32) (ch3 : Int32) (kc : ClassId) (h0 : Heap) (n0 : Nat) : Option Value → Heap → List Loc → Prop := fun v h L => v = some (.int 0) ∧ Fr n0 L ∧ Keep h0 h [a3]
def own_Rcp2_0 : Room := { frames := 0, cells := 0, slots := 0, locals := 0 }
set_option maxRecDepth 65536 in
set_option maxHeartbeats 40000000 in
theorem own_rmcp2_0 (l : Launch) (Z : State) (a0 : Array Value) (hw : ∀ d ∈ tables_1, d.before a0 Z = true) (ws : List Jvm.Cond) (a1 : Addr) (a3 : Addr) (ka : ClassId) (ch0 : Int32) (ch1 : Int32) (ch2 : Int32) (ch3 : Int32) (kc : ClassId) (h0 : Heap) (n0 : Nat) (Z0 : n0 ≤ h0.size) (g_a3 : n0 ≤ a3) (pr1 : Arv Z h0 a1 ka .char (4 : Int32) [(.int ch0), (.int ch1), (.int ch2), (.int ch3)] (.int 0)) (pr2 : Arv Z h0 a3 kc .byte (4 : Int32) [(.int 0), (.int 0), (.int 0), (.int 0)] (.int 0)) (pr3 : a1 ≠ a3) (hk : (255 : Int32) < ch0) :
    own_Met l Z own_y0 jdk_52_method_21_code 7 (some .int) ws own_Rcp2_0 h0 #[(.ref a1), (.int 0), (.ref a3), (.int 0), (.int 4)] (own_Qcp2_0 Z a1 a3 ka ch0 ch1 ch2 ch3 kc h0 n0) own_Rcp2_0.cells own_Rcp2_0.slots := by
  refine own_start (plainFor_of_name own_pn0) ?_
  intro p e s m below meth c s₁ X0 hx hZ hby hml hret hlk hown hnm e0
  have hown : s.vm.findClass "java/lang/StringUTF16" = some m.cls := hown
  have hml : c.maxLocals = 7 := hml
  have N0 := Fr.nil n0
  refine own_cast (own_efcp2_0 m a1 (0 : Int32) a3 (0 : Int32) (4 : Int32)) ?_
  refine own_s s₁ (mkF m 12 #[rv a1, iv 0, rv a3, iv 0, iv 4, iv 0, u_] [(.int 0), (.ref a1)]) (fun _ k => XS.iconst X0.here hx rfl (hb hby od_jdk_52_m_21_0) (XS.istore X0.here hx rfl (hb hby od_jdk_52_m_21_1) rfl (l' := #[rv a1, iv 0, rv a3, iv 0, iv 4, iv 0, u_]) rfl (XS.iload X0.here hx rfl (hb hby od_jdk_52_m_21_3) rfl  (XS.iload X0.here hx rfl (hb hby od_jdk_52_m_21_5) rfl  (XS.icmpNo X0.here hx rfl (hb hby od_jdk_52_m_21_7) rfl (tlt (by decide : ((0 : Int32) < (4 : Int32)))).2.1 (XS.aloadN X0.here hx rfl (hb hby od_jdk_52_m_21_10) rfl rfl (XS.iloadN X0.here hx rfl (hb hby od_jdk_52_m_21_11) rfl  k))))))) ?_
  obtain ⟨cl1, Ar1, q1, S1, Nn1, H1, G1⟩ := id pr1
  have hin1 : ¬ ((0 : Int32) < 0 ∨ cl1.slots.size ≤ ((0 : Int32)).toNatClampNeg) := (inb_of S1 ⟨by decide, by decide⟩)
  refine own_s s₁ (mkF m 25 #[rv a1, iv 0, rv a3, iv 0, iv 4, iv 0, iv ch0] [(.int 0)]) (fun _ k => X0.caload hx (j := (0 : Int32)) (v := (.int ch0)) (own_at e0 Ar1.1) (State.isArrayOf_alike hZ.alike Ar1.2.1) Ar1.2.2 hin1 (Has.at H1 hin1 rfl) (g := (mkF m 12 #[rv a1, iv 0, rv a3, iv 0, iv 4, iv 0, u_] [(.int 0), (.ref a1)])) rfl rfl (hb hby od_jdk_52_m_21_12) _ (XS.istore X0.here hx rfl (hb hby od_jdk_52_m_21_13) rfl (l' := #[rv a1, iv 0, rv a3, iv 0, iv 4, iv 0, iv ch0]) rfl (XS.iload X0.here hx rfl (hb hby od_jdk_52_m_21_15) rfl  (XS.sipush X0.here hx rfl (hb hby od_jdk_52_m_21_17) (XS.icmpNo X0.here hx rfl (hb hby od_jdk_52_m_21_20) rfl (tlt hk).2.2.2 (XS.iload X0.here hx rfl (hb hby od_jdk_52_m_21_23) rfl  k)))))) ?_
  exact own_finI X0 hx hret (hb hby od_jdk_52_m_21_25) (own_end (Qv := (own_Qcp2_0 Z a1 a3 ka ch0 ch1 ch2 ch3 kc h0 n0)) X0 (own_some hret) hlk (by decide) (by decide) e0 ⟨rfl, N0, (Keep.refl h0 [a3])⟩)
theorem own_pd7 : parseMethodDescriptor "([BI)C" = some ⟨[(.array .byte), .int], some .char⟩ := by decide +kernel
theorem od_jdk_52_m_16_20 : decode jdk_52_method_16_code 20 = .ok (.aload_n 0, 1) := by decide +kernel
theorem od_jdk_52_m_16_21 : decode jdk_52_method_16_code 21 = .ok (.iload_n 1, 1) := by decide +kernel
theorem od_jdk_52_m_16_22 : decode jdk_52_method_16_code 22 = .ok (.iload_n 2, 1) := by decide +kernel
theorem od_jdk_52_m_16_23 : decode jdk_52_method_16_code 23 = .ok (.invokestatic 119, 3) := by decide +kernel
theorem od_jdk_52_m_16_26 : decode jdk_52_method_16_code 26 = .ok (.astore 5, 2) := by decide +kernel
theorem od_jdk_52_m_16_28 : decode jdk_52_method_16_code 28 = .ok (.aload 5, 2) := by decide +kernel
theorem od_jdk_52_m_16_30 : decode jdk_52_method_16_code 30 = .ok (.iload 4, 2) := by decide +kernel
theorem od_jdk_52_m_16_32 : decode jdk_52_method_16_code 32 = .ok (.invokestatic 71, 3) := by decide +kernel
theorem od_jdk_52_m_16_35 : decode jdk_52_method_16_code 35 = .ok (.sipush 255, 3) := by decide +kernel
theorem od_jdk_52_m_16_38 : decode jdk_52_method_16_code 38 = .ok (.if_icmp .gt 16, 3) := by decide +kernel
theorem od_jdk_52_m_16_54 : decode jdk_52_method_16_code 54 = .ok (.aload 5, 2) := by decide +kernel
theorem od_jdk_52_m_16_56 : decode jdk_52_method_16_code 56 = .ok (.areturn, 1) := by decide +kernel
theorem own_efcp1_0 (m : MethodId) (x0 : Addr) (x1 : Int32) (x2 : Int32) : entryFrame m #[(.ref x0), (.int x1), (.int x2)] 6 = mkF m 0 #[rv x0, iv x1, iv x2, u_, u_, u_] [] := by first | (simp [entryFrame, mkF, argsToLocals, Value.category]; done) | rfl
def own_Qcp1_0 (Z : State) (a1 : Addr) (ka : ClassId) (ch0 : Int32) (ch1 : Int32) (ch2 : Int32) (ch3 : Int32) (h0 : Heap) (n0 : Nat) : Option Value → Heap → List Loc → Prop := fun v h L => ∃ (b : Addr) (k : ClassId), v = some (.ref b) ∧ Fr n0 L ∧ Keep h0 h [] ∧ n0 ≤ b ∧ h0.size ≤ b ∧ Arv Z h b k .byte (8 : Int32) [(.int (own_lo ch0)), (.int (own_hi ch0)), (.int (own_lo ch1)), (.int (own_hi ch1)), (.int (own_lo ch2)), (.int (own_hi ch2)), (.int (own_lo ch3)), (.int (own_hi ch3))] (.int 0)
def own_Rcp1_0 : Room := { frames := 3, cells := 2, slots := 12, locals := 40 }
set_option maxRecDepth 65536 in
set_option maxHeartbeats 40000000 in
theorem own_rmcp1_0 (l : Launch) (Z : State) (a0 : Array Value) (hw : ∀ d ∈ tables_1, d.before a0 Z = true) (ws : List Jvm.Cond) (a1 : Addr) (ka : ClassId) (ch0 : Int32) (ch1 : Int32) (ch2 : Int32) (ch3 : Int32) (h0 : Heap) (n0 : Nat) (Z0 : n0 ≤ h0.size) (pr0 : Arv Z h0 a1 ka .char (4 : Int32) [(.int ch0), (.int ch1), (.int ch2), (.int ch3)] (.int 0)) (pr1 : Sta Z h0 "java/lang/StringUTF16" "$assertionsDisabled" "Z" (.int 1)) (pr2 : Sta Z h0 "java/lang/StringUTF16" "HI_BYTE_SHIFT" "I" (.int 0)) (pr3 : Sta Z h0 "java/lang/StringUTF16" "LO_BYTE_SHIFT" "I" (.int 8)) (hk : (255 : Int32) < ch0) (hr0 : own_Ch ch0) :
    own_Met l Z own_y1 jdk_52_method_16_code 6 (some (.array .byte)) ws own_Rcp1_0 h0 #[(.ref a1), (.int 0), (.int 4)] (own_Qcp1_0 Z a1 ka ch0 ch1 ch2 ch3 h0 n0) own_Rcp1_0.cells own_Rcp1_0.slots := by
  refine own_start (plainFor_of_name own_pn0) ?_
  intro p e s m below meth c s₁ X0 hx hZ hby hml hret hlk hown hnm e0
  have hown : s.vm.findClass "java/lang/StringUTF16" = some m.cls := hown
  have hml : c.maxLocals = 6 := hml
  have N0 := Fr.nil n0
  refine own_cast (own_efcp1_0 m a1 (0 : Int32) (4 : Int32)) ?_
  refine own_s s₁ (mkF m 1 #[rv a1, iv 0, iv 4, u_, u_, u_] [(.int 4)]) (fun _ k => XS.iloadN X0.here hx rfl (hb hby od_jdk_52_m_16_0) rfl  k) ?_
  obtain ⟨T1, h1, k1, X1, e1, E1, A1, st1⟩ := newP X0 hx hZ (own_h hw 21 rfl) e0 (g := (mkF m 1 #[rv a1, iv 0, iv 4, u_, u_, u_] [(.int 4)])) rfl (hb hby od_jdk_52_m_16_1) rfl (by decide) (cap := 4) (by decide) (by decide) (by decide) (by decide)
  obtain ⟨b1, g1⟩ : ∃ z, z = h0.size := ⟨_, rfl⟩
  have g_b1 : n0 ≤ b1 := Nat.le_trans Z0 (Nat.le_of_eq g1.symm)
  have sz_b1 : h0.size ≤ b1 := Nat.le_trans (Keep.refl h0 []).1 (Nat.le_of_eq g1.symm)
  rw [← g1] at A1 st1
  have f2 := pr0.ext E1
  have f3 := Sta.ext E1 pr1
  have f4 := Sta.ext E1 pr2
  have f5 := Sta.ext E1 pr3
  have K1 : Keep h0 h1 [] := (Keep.refl h0 []).ext E1
  have Z1 := Nat.le_trans Z0 E1.1
  have f1 : Arv Z h1 b1 k1 .byte 4 [(.int 0), (.int 0), (.int 0), (.int 0)] (.int 0) := (Arv.new A1 (by decide)).pad (pad_rep [] (.int 0) 4)
  refine own_s T1 (mkF m 3 #[rv a1, iv 0, iv 4, u_, u_, u_] [(.ref b1)]) st1 ?_
  refine own_s T1 (mkF m 9 #[rv a1, iv 0, iv 4, rv b1, u_, u_] [(.int 4), (.int 0), (.ref b1), (.int 0), (.ref a1)]) (fun _ k => XS.astoreN X1.here hx rfl (hb hby od_jdk_52_m_16_3) rfl rfl (l' := #[rv a1, iv 0, iv 4, rv b1, u_, u_]) rfl (XS.aloadN X1.here hx rfl (hb hby od_jdk_52_m_16_4) rfl rfl (XS.iloadN X1.here hx rfl (hb hby od_jdk_52_m_16_5) rfl  (XS.aloadN X1.here hx rfl (hb hby od_jdk_52_m_16_6) rfl rfl (XS.iconst X1.here hx rfl (hb hby od_jdk_52_m_16_7) (XS.iloadN X1.here hx rfl (hb hby od_jdk_52_m_16_8) rfl  k)))))) ?_
  obtain ⟨v6, T6, L6, X6, hQ6, st6⟩ := own_callS X1 hx hZ (y := own_y0) (W := 0) hown (own_h hw 22 rfl) (own_h hw 23 rfl) (own_h hw 19 rfl) (own_h hw 24 rfl) (by decide) (own_rmcp2_0 l Z a0 hw [] a1 b1 ka ch0 ch1 ch2 ch3 k1 h1 n0 Z1 g_b1 f2 f1 (own_nf pr0.lt g1) hk) (by decide) (by decide) (g := (mkF m 9 #[rv a1, iv 0, iv 4, rv b1, u_, u_] [(.int 4), (.int 0), (.ref b1), (.int 0), (.ref a1)])) rfl (by rw [hml]; rfl) (argsL := [(.ref a1), (.int 0), (.ref b1), (.int 0), (.int 4)]) (rest := []) rfl (lenOf own_pd0 rfl) rfl (by show 2 * 0 + _ ≤ _; exact Nat.le_of_eq rfl) (hb hby od_jdk_52_m_16_9) e1 (by decide) (by decide)
  obtain ⟨rfl, Nq6, Kq6⟩ := hQ6
  have N6 := Fr.app N0 Nq6
  have f7 := f2.keep Kq6 (ninS (own_nf pr0.lt g1) nin0)
  have f8 := own_staKeepW f3 Kq6 (allS f1.nostat all0)
  have f9 := own_staKeepW f4 Kq6 (allS f1.nostat all0)
  have f10 := own_staKeepW f5 Kq6 (allS f1.nostat all0)
  have K6 : Keep h0 T6.heap [] := K1.trans Kq6 (allS (Or.inr sz_b1) all0)
  have Z6 := Nat.le_trans Z1 Kq6.1
  refine own_s T6 (mkF m 12 #[rv a1, iv 0, iv 4, rv b1, u_, u_] [(.int 0)]) st6 ?_
  refine own_s T6 (mkF m 23 #[rv a1, iv 0, iv 4, rv b1, iv 0, u_] [(.int 4), (.int 0), (.ref a1)]) (fun _ k => XS.istore X6.here hx rfl (hb hby od_jdk_52_m_16_12) rfl (l' := #[rv a1, iv 0, iv 4, rv b1, iv 0, u_]) rfl (XS.iload X6.here hx rfl (hb hby od_jdk_52_m_16_14) rfl  (XS.iloadN X6.here hx rfl (hb hby od_jdk_52_m_16_16) rfl  (XS.icmpNo X6.here hx rfl (hb hby od_jdk_52_m_16_17) rfl (feq (by decide : ¬ ((0 : Int32) = (4 : Int32)))).1 (XS.aloadN X6.here hx rfl (hb hby od_jdk_52_m_16_20) rfl rfl (XS.iloadN X6.here hx rfl (hb hby od_jdk_52_m_16_21) rfl  (XS.iloadN X6.here hx rfl (hb hby od_jdk_52_m_16_22) rfl  k))))))) ?_
  obtain ⟨v11, T11, L11, X11, hQ11, st11⟩ := own_callS X6 hx hZ (y := own_y8) (W := 0) hown (own_h hw 36 rfl) (own_h hw 37 rfl) (own_h hw 19 rfl) (own_h hw 38 rfl) (by decide) (own_rmtb l Z a0 hw [] a1 ka ch0 ch1 ch2 ch3 T6.heap n0 Z6 f7 f8 f9 f10) (by decide) (by decide) (g := (mkF m 23 #[rv a1, iv 0, iv 4, rv b1, iv 0, u_] [(.int 4), (.int 0), (.ref a1)])) rfl (by rw [hml]; rfl) (argsL := [(.ref a1), (.int 0), (.int 4)]) (rest := []) rfl (lenOf own_pd1 rfl) rfl (by show 2 * 0 + _ ≤ _; exact Nat.le_of_eq rfl) (hb hby od_jdk_52_m_16_23) rfl (by decide) (by decide)
  obtain ⟨zb11, zk11, rfl, Nq11, Kq11, g_zb11, sq_zb11, q11_0⟩ := hQ11
  have N11 := Fr.app N6 Nq11
  have sz_zb11 : h0.size ≤ zb11 := Nat.le_trans K6.1 sq_zb11
  have f12 := f7.keep Kq11 nin0
  have f13 := own_staKeep f8 Kq11
  have f14 := own_staKeep f9 Kq11
  have f15 := own_staKeep f10 Kq11
  have K11 : Keep h0 T11.heap [] := K6.trans Kq11 all0
  have Z11 := Nat.le_trans Z6 Kq11.1
  refine own_s T11 (mkF m 26 #[rv a1, iv 0, iv 4, rv b1, iv 0, u_] [(.ref zb11)]) st11 ?_
  refine own_s T11 (mkF m 32 #[rv a1, iv 0, iv 4, rv b1, iv 0, rv zb11] [(.int 0), (.ref zb11)]) (fun _ k => XS.astore X11.here hx rfl (hb hby od_jdk_52_m_16_26) rfl rfl (l' := #[rv a1, iv 0, iv 4, rv b1, iv 0, rv zb11]) rfl (XS.aload X11.here hx rfl (hb hby od_jdk_52_m_16_28) rfl rfl (XS.iload X11.here hx rfl (hb hby od_jdk_52_m_16_30) rfl  k))) ?_
  obtain ⟨v16, T16, L16, X16, hQ16, st16⟩ := own_callS X11 hx hZ (y := own_y10) (W := 0) hown (own_h hw 52 rfl) (own_h hw 53 rfl) (own_h hw 19 rfl) (own_h hw 54 rfl) (by decide) (own_rmgc0 l Z a0 hw [] zb11 zk11 (own_lo ch0) (own_hi ch0) (.int (own_lo ch1)) (.int (own_hi ch1)) (.int (own_lo ch2)) (.int (own_hi ch2)) (.int (own_lo ch3)) (.int (own_hi ch3)) T11.heap n0 Z11 q11_0 f13 f14 f15) (by decide) (by decide) (g := (mkF m 32 #[rv a1, iv 0, iv 4, rv b1, iv 0, rv zb11] [(.int 0), (.ref zb11)])) rfl (by rw [hml]; rfl) (argsL := [(.ref zb11), (.int 0)]) (rest := []) rfl (lenOf own_pd7 rfl) rfl (by show 2 * 0 + _ ≤ _; exact Nat.le_of_eq rfl) (hb hby od_jdk_52_m_16_32) rfl (by decide) (by decide)
  obtain ⟨rfl, Nq16, e16⟩ := hQ16
  have N16 := Fr.app N11 Nq16
  refine own_s T16 (mkF m 35 #[rv a1, iv 0, iv 4, rv b1, iv 0, rv zb11] [(.int (nar .char (((((own_lo ch0) &&& (255 : Int32)) <<< ((0 : Int32) &&& 31)) ||| (((own_hi ch0) &&& (255 : Int32)) <<< ((8 : Int32) &&& 31))).toUInt32.toUInt16.toUInt32.toInt32)))]) st16 ?_
  refine own_s T16 (mkF m 56 #[rv a1, iv 0, iv 4, rv b1, iv 0, rv zb11] [(.ref zb11)]) (fun _ k => XS.sipush X16.here hx rfl (hb hby od_jdk_52_m_16_35) (XS.icmpYes X16.here hx rfl (pc0 := 38) (pc' := 54) rfl (hb hby od_jdk_52_m_16_38) rfl (tlt (by rw [own_utfC hr0]; exact hk)).2.2.1 (by decide) (by decide) (XS.aload X16.here hx rfl (hb hby od_jdk_52_m_16_54) rfl rfl k))) ?_
  exact own_finA X16 hx hret rfl rfl (hb hby od_jdk_52_m_16_56) (own_end (Qv := (own_Qcp1_0 Z a1 ka ch0 ch1 ch2 ch3 h0 n0)) X16 (own_some hret) hlk (by decide) (by decide) e16 ⟨zb11, zk11, rfl, N16, K11, g_zb11, sz_zb11, q11_0⟩)
theorem own_efcp2_1 (m : MethodId) (x0 : Addr) (x1 : Int32) (x2 : Addr) (x3 : Int32) (x4 : Int32) : entryFrame m #[(.ref x0), (.int x1), (.ref x2), (.int x3), (.int x4)] 7 = mkF m 0 #[rv x0, iv x1, rv x2, iv x3, iv x4, u_, u_] [] := by first | (simp [entryFrame, mkF, argsToLocals, Value.category]; done) | rfl
def own_Qcp2_1 (Z : State) (a1 : Addr) (a3 : Addr) (ka : ClassId) (ch0 : Int32) (ch1 : Int32) (ch2 : Int32) (ch3 : Int32) (kc : ClassId) (h0 : Heap) (n0 : Nat) : Option Value → Heap → List Loc → Prop := fun v h L => v = some (.int 1) ∧ Fr n0 L ∧ Keep h0 h [a3]
def own_Rcp2_1 : Room := { frames := 0, cells := 0, slots := 0, locals := 0 }
set_option maxRecDepth 65536 in
set_option maxHeartbeats 40000000 in
theorem own_rmcp2_1 (l : Launch) (Z : State) (a0 : Array Value) (hw : ∀ d ∈ tables_1, d.before a0 Z = true) (ws : List Jvm.Cond) (a1 : Addr) (a3 : Addr) (ka : ClassId) (ch0 : Int32) (ch1 : Int32) (ch2 : Int32) (ch3 : Int32) (kc : ClassId) (h0 : Heap) (n0 : Nat) (Z0 : n0 ≤ h0.size) (g_a3 : n0 ≤ a3) (pr1 : Arv Z h0 a1 ka .char (4 : Int32) [(.int ch0), (.int ch1), (.int ch2), (.int ch3)] (.int 0)) (pr2 : Arv Z h0 a3 kc .byte (4 : Int32) [(.int 0), (.int 0), (.int 0), (.int 0)] (.int 0)) (pr3 : a1 ≠ a3) (hc0 : ¬ (255 : Int32) < ch0) (hk : (255 : Int32) < ch1) :
    own_Met l Z own_y0 jdk_52_method_21_code 7 (some .int) ws own_Rcp2_1 h0 #[(.ref a1), (.int 0), (.ref a3), (.int 0), (.int 4)] (own_Qcp2_1 Z a1 a3 ka ch0 ch1 ch2 ch3 kc h0 n0) own_Rcp2_1.cells own_Rcp2_1.slots := by
  refine own_start (plainFor_of_name own_pn0) ?_
  intro p e s m below meth c s₁ X0 hx hZ hby hml hret hlk hown hnm e0
  have hown : s.vm.findClass "java/lang/StringUTF16" = some m.cls := hown
  have hml : c.maxLocals = 7 := hml
  have N0 := Fr.nil n0
  refine own_cast (own_efcp2_1 m a1 (0 : Int32) a3 (0 : Int32) (4 : Int32)) ?_
  refine own_s s₁ (mkF m 12 #[rv a1, iv 0, rv a3, iv 0, iv 4, iv 0, u_] [(.int 0), (.ref a1)]) (fun _ k => XS.iconst X0.here hx rfl (hb hby od_jdk_52_m_21_0) (XS.istore X0.here hx rfl (hb hby od_jdk_52_m_21_1) rfl (l' := #[rv a1, iv 0, rv a3, iv 0, iv 4, iv 0, u_]) rfl (XS.iload X0.here hx rfl (hb hby od_jdk_52_m_21_3) rfl  (XS.iload X0.here hx rfl (hb hby od_jdk_52_m_21_5) rfl  (XS.icmpNo X0.here hx rfl (hb hby od_jdk_52_m_21_7) rfl (tlt (by decide : ((0 : Int32) < (4 : Int32)))).2.1 (XS.aloadN X0.here hx rfl (hb hby od_jdk_52_m_21_10) rfl rfl (XS.iloadN X0.here hx rfl (hb hby od_jdk_52_m_21_11) rfl  k))))))) ?_
  obtain ⟨cl1, Ar1, q1, S1, Nn1, H1, G1⟩ := id pr1
  have hin1 : ¬ ((0 : Int32) < 0 ∨ cl1.slots.size ≤ ((0 : Int32)).toNatClampNeg) := (inb_of S1 ⟨by decide, by decide⟩)
  refine own_s s₁ (mkF m 30 #[rv a1, iv 0, rv a3, iv 0, iv 4, iv 0, iv ch0] [(.int ch0), (.int 0), (.ref a3)]) (fun _ k => X0.caload hx (j := (0 : Int32)) (v := (.int ch0)) (own_at e0 Ar1.1) (State.isArrayOf_alike hZ.alike Ar1.2.1) Ar1.2.2 hin1 (Has.at H1 hin1 rfl) (g := (mkF m 12 #[rv a1, iv 0, rv a3, iv 0, iv 4, iv 0, u_] [(.int 0), (.ref a1)])) rfl rfl (hb hby od_jdk_52_m_21_12) _ (XS.istore X0.here hx rfl (hb hby od_jdk_52_m_21_13) rfl (l' := #[rv a1, iv 0, rv a3, iv 0, iv 4, iv 0, iv ch0]) rfl (XS.iload X0.here hx rfl (hb hby od_jdk_52_m_21_15) rfl  (XS.sipush X0.here hx rfl (hb hby od_jdk_52_m_21_17) (XS.icmpYes X0.here hx rfl (pc0 := 20) (pc' := 26) rfl (hb hby od_jdk_52_m_21_20) rfl (flt hc0).2.2.2 (by decide) (by decide) (XS.aloadN X0.here hx rfl (hb hby od_jdk_52_m_21_26) rfl rfl (XS.iloadN X0.here hx rfl (hb hby od_jdk_52_m_21_27) rfl  (XS.iload X0.here hx rfl (hb hby od_jdk_52_m_21_28) rfl  k)))))))) ?_
  refine own_s s₁ (mkF m 31 #[rv a1, iv 0, rv a3, iv 0, iv 4, iv 0, iv ch0] [(.int (ch0.toInt8.toInt32)), (.int 0), (.ref a3)]) (fun _ k => XS.i2b X0.here hx rfl (hb hby od_jdk_52_m_21_30) rfl k) ?_
  obtain ⟨cl2, Ar2, q2, S2, Nn2, H2, G2⟩ := id pr2
  have hin2 : ¬ ((0 : Int32) < 0 ∨ cl2.slots.size ≤ ((0 : Int32)).toNatClampNeg) := (inb_of S2 ⟨by decide, by decide⟩)
  obtain ⟨T2, h2, X2, e2, W2, st2⟩ := stB X0 hx hZ e0 Ar2 (j := (0 : Int32)) hin2 (g := (mkF m 31 #[rv a1, iv 0, rv a3, iv 0, iv 4, iv 0, iv ch0] [(.int (ch0.toInt8.toInt32)), (.int 0), (.ref a3)])) rfl rfl (hb hby od_jdk_52_m_21_31)
  have f2 : Arv Z h2 a3 kc .byte (4 : Int32) [(.int (nar .byte (ch0.toInt8.toInt32))), (.int 0), (.int 0), (.int 0)] (.int 0) := Arv.set Ar2 q2 S2 Nn2 H2 G2 (fits_nar_byte _) W2 0 rfl (Nat.le_of_ble_eq_true rfl)
  have f3 := pr1.other W2 pr3
  have K2 : Keep h0 h2 [a3] := (Keep.refl h0 [a3]).wr W2 (Or.inl (List.mem_of_getElem? (i := 0) rfl))
  have Z2 := Nat.le_trans Z0 (Nat.le_of_eq W2.size.symm)
  have N2 := Fr.snoc X2 N0 g_a3
  refine own_s T2 (mkF m 32 #[rv a1, iv 0, rv a3, iv 0, iv 4, iv 0, iv ch0] []) st2 ?_
  refine own_s T2 (mkF m 11 #[rv a1, iv 1, rv a3, iv 1, iv 4, iv 1, iv ch0] [(.ref a1)]) (fun _ k => XS.iinc X2.here hx rfl (hb hby od_jdk_52_m_21_32) rfl (l' := #[rv a1, iv 1, rv a3, iv 0, iv 4, iv 0, iv ch0]) rfl (XS.iinc X2.here hx rfl (hb hby od_jdk_52_m_21_35) rfl (l' := #[rv a1, iv 1, rv a3, iv 1, iv 4, iv 0, iv ch0]) rfl (XS.iinc X2.here hx rfl (hb hby od_jdk_52_m_21_38) rfl (l' := #[rv a1, iv 1, rv a3, iv 1, iv 4, iv 1, iv ch0]) rfl (XS.goto X2.here hx rfl (pc0 := 41) (pc' := 3) rfl (hb hby od_jdk_52_m_21_41) (by decide) (by decide) (XS.iload X2.here hx rfl (hb hby od_jdk_52_m_21_3) rfl  (XS.iload X2.here hx rfl (hb hby od_jdk_52_m_21_5) rfl  (XS.icmpNo X2.here hx rfl (hb hby od_jdk_52_m_21_7) rfl (tlt (by decide : ((1 : Int32) < (4 : Int32)))).2.1 (XS.aloadN X2.here hx rfl (hb hby od_jdk_52_m_21_10) rfl rfl k)))))))) ?_
  refine own_s T2 (mkF m 12 #[rv a1, iv 1, rv a3, iv 1, iv 4, iv 1, iv ch0] [(.int 1), (.ref a1)]) (fun _ k => XS.iloadN X2.here hx rfl (hb hby od_jdk_52_m_21_11) rfl  k) ?_
  obtain ⟨cl4, Ar4, q4, S4, Nn4, H4, G4⟩ := id f3
  have hin4 : ¬ ((1 : Int32) < 0 ∨ cl4.slots.size ≤ ((1 : Int32)).toNatClampNeg) := (inb_of S4 ⟨by decide, by decide⟩)
  refine own_s T2 (mkF m 25 #[rv a1, iv 1, rv a3, iv 1, iv 4, iv 1, iv ch1] [(.int 1)]) (fun _ k => X2.caload hx (j := (1 : Int32)) (v := (.int ch1)) (own_at e2 Ar4.1) (State.isArrayOf_alike hZ.alike Ar4.2.1) Ar4.2.2 hin4 (Has.at H4 hin4 rfl) (g := (mkF m 12 #[rv a1, iv 1, rv a3, iv 1, iv 4, iv 1, iv ch0] [(.int 1), (.ref a1)])) rfl rfl (hb hby od_jdk_52_m_21_12) _ (XS.istore X2.here hx rfl (hb hby od_jdk_52_m_21_13) rfl (l' := #[rv a1, iv 1, rv a3, iv 1, iv 4, iv 1, iv ch1]) rfl (XS.iload X2.here hx rfl (hb hby od_jdk_52_m_21_15) rfl  (XS.sipush X2.here hx rfl (hb hby od_jdk_52_m_21_17) (XS.icmpNo X2.here hx rfl (hb hby od_jdk_52_m_21_20) rfl (tlt hk).2.2.2 (XS.iload X2.here hx rfl (hb hby od_jdk_52_m_21_23) rfl  k)))))) ?_
  exact own_finI X2 hx hret (hb hby od_jdk_52_m_21_25) (own_end (Qv := (own_Qcp2_1 Z a1 a3 ka ch0 ch1 ch2 ch3 kc h0 n0)) X2 (own_some hret) hlk (by decide) (by decide) e2 ⟨rfl, N2, K2⟩)
theorem own_efcp1_1 (m : MethodId) (x0 : Addr) (x1 : Int32) (x2 : Int32) : entryFrame m #[(.ref x0), (.int x1), (.int x2)] 6 = mkF m 0 #[rv x0, iv x1, iv x2, u_, u_, u_] [] := by first | (simp [entryFrame, mkF, argsToLocals, Value.category]; done) | rfl
def own_Qcp1_1 (Z : State) (a1 : Addr) (ka : ClassId) (ch0 : Int32) (ch1 : Int32) (ch2 : Int32) (ch3 : Int32) (h0 : Heap) (n0 : Nat) : Option Value → Heap → List Loc → Prop := fun v h L => ∃ (b : Addr) (k : ClassId), v = some (.ref b) ∧ Fr n0 L ∧ Keep h0 h [] ∧ n0 ≤ b ∧ h0.size ≤ b ∧ Arv Z h b k .byte (8 : Int32) [(.int (own_lo ch0)), (.int (own_hi ch0)), (.int (own_lo ch1)), (.int (own_hi ch1)), (.int (own_lo ch2)), (.int (own_hi ch2)), (.int (own_lo ch3)), (.int (own_hi ch3))] (.int 0)
def own_Rcp1_1 : Room := { frames := 3, cells := 2, slots := 12, locals := 40 }
set_option maxRecDepth 65536 in
set_option maxHeartbeats 40000000 in
theorem own_rmcp1_1 (l : Launch) (Z : State) (a0 : Array Value) (hw : ∀ d ∈ tables_1, d.before a0 Z = true) (ws : List Jvm.Cond) (a1 : Addr) (ka : ClassId) (ch0 : Int32) (ch1 : Int32) (ch2 : Int32) (ch3 : Int32) (h0 : Heap) (n0 : Nat) (Z0 : n0 ≤ h0.size) (pr0 : Arv Z h0 a1 ka .char (4 : Int32) [(.int ch0), (.int ch1), (.int ch2), (.int ch3)] (.int 0)) (pr1 : Sta Z h0 "java/lang/StringUTF16" "$assertionsDisabled" "Z" (.int 1)) (pr2 : Sta Z h0 "java/lang/StringUTF16" "HI_BYTE_SHIFT" "I" (.int 0)) (pr3 : Sta Z h0 "java/lang/StringUTF16" "LO_BYTE_SHIFT" "I" (.int 8)) (hc0 : ¬ (255 : Int32) < ch0) (hk : (255 : Int32) < ch1) (hr1 : own_Ch ch1) :
    own_Met l Z own_y1 jdk_52_method_16_code 6 (some (.array .byte)) ws own_Rcp1_1 h0 #[(.ref a1), (.int 0), (.int 4)] (own_Qcp1_1 Z a1 ka ch0 ch1 ch2 ch3 h0 n0) own_Rcp1_1.cells own_Rcp1_1.slots := by
  refine own_start (plainFor_of_name own_pn0) ?_
  intro p e s m below meth c s₁ X0 hx hZ hby hml hret hlk hown hnm e0
  have hown : s.vm.findClass "java/lang/StringUTF16" = some m.cls := hown
  have hml : c.maxLocals = 6 := hml
  have N0 := Fr.nil n0
  refine own_cast (own_efcp1_1 m a1 (0 : Int32) (4 : Int32)) ?_
  refine own_s s₁ (mkF m 1 #[rv a1, iv 0, iv 4, u_, u_, u_] [(.int 4)]) (fun _ k => XS.iloadN X0.here hx rfl (hb hby od_jdk_52_m_16_0) rfl  k) ?_
  obtain ⟨T1, h1, k1, X1, e1, E1, A1, st1⟩ := newP X0 hx hZ (own_h hw 21 rfl) e0 (g := (mkF m 1 #[rv a1, iv 0, iv 4, u_, u_, u_] [(.int 4)])) rfl (hb hby od_jdk_52_m_16_1) rfl (by decide) (cap := 4) (by decide) (by decide) (by decide) (by decide)
  obtain ⟨b1, g1⟩ : ∃ z, z = h0.size := ⟨_, rfl⟩
  have g_b1 : n0 ≤ b1 := Nat.le_trans Z0 (Nat.le_of_eq g1.symm)
  have sz_b1 : h0.size ≤ b1 := Nat.le_trans (Keep.refl h0 []).1 (Nat.le_of_eq g1.symm)
  rw [← g1] at A1 st1
  have f2 := pr0.ext E1
  have f3 := Sta.ext E1 pr1
  have f4 := Sta.ext E1 pr2
  have f5 := Sta.ext E1 pr3
  have K1 : Keep h0 h1 [] := (Keep.refl h0 []).ext E1
  have Z1 := Nat.le_trans Z0 E1.1
  have f1 : Arv Z h1 b1 k1 .byte 4 [(.int 0), (.int 0), (.int 0), (.int 0)] (.int 0) := (Arv.new A1 (by decide)).pad (pad_rep [] (.int 0) 4)
  refine own_s T1 (mkF m 3 #[rv a1, iv 0, iv 4, u_, u_, u_] [(.ref b1)]) st1 ?_
  refine own_s T1 (mkF m 9 #[rv a1, iv 0, iv 4, rv b1, u_, u_] [(.int 4), (.int 0), (.ref b1), (.int 0), (.ref a1)]) (fun _ k => XS.astoreN X1.here hx rfl (hb hby od_jdk_52_m_16_3) rfl rfl (l' := #[rv a1, iv 0, iv 4, rv b1, u_, u_]) rfl (XS.aloadN X1.here hx rfl (hb hby od_jdk_52_m_16_4) rfl rfl (XS.iloadN X1.here hx rfl (hb hby od_jdk_52_m_16_5) rfl  (XS.aloadN X1.here hx rfl (hb hby od_jdk_52_m_16_6) rfl rfl (XS.iconst X1.here hx rfl (hb hby od_jdk_52_m_16_7) (XS.iloadN X1.here hx rfl (hb hby od_jdk_52_m_16_8) rfl  k)))))) ?_
  obtain ⟨v6, T6, L6, X6, hQ6, st6⟩ := own_callS X1 hx hZ (y := own_y0) (W := 0) hown (own_h hw 22 rfl) (own_h hw 23 rfl) (own_h hw 19 rfl) (own_h hw 24 rfl) (by decide) (own_rmcp2_1 l Z a0 hw [] a1 b1 ka ch0 ch1 ch2 ch3 k1 h1 n0 Z1 g_b1 f2 f1 (own_nf pr0.lt g1) hc0 hk) (by decide) (by decide) (g := (mkF m 9 #[rv a1, iv 0, iv 4, rv b1, u_, u_] [(.int 4), (.int 0), (.ref b1), (.int 0), (.ref a1)])) rfl (by rw [hml]; rfl) (argsL := [(.ref a1), (.int 0), (.ref b1), (.int 0), (.int 4)]) (rest := []) rfl (lenOf own_pd0 rfl) rfl (by show 2 * 0 + _ ≤ _; exact Nat.le_of_eq rfl) (hb hby od_jdk_52_m_16_9) e1 (by decide) (by decide)
  obtain ⟨rfl, Nq6, Kq6⟩ := hQ6
  have N6 := Fr.app N0 Nq6
  have f7 := f2.keep Kq6 (ninS (own_nf pr0.lt g1) nin0)
  have f8 := own_staKeepW f3 Kq6 (allS f1.nostat all0)
  have f9 := own_staKeepW f4 Kq6 (allS f1.nostat all0)
  have f10 := own_staKeepW f5 Kq6 (allS f1.nostat all0)
  have K6 : Keep h0 T6.heap [] := K1.trans Kq6 (allS (Or.inr sz_b1) all0)
  have Z6 := Nat.le_trans Z1 Kq6.1
  refine own_s T6 (mkF m 12 #[rv a1, iv 0, iv 4, rv b1, u_, u_] [(.int 1)]) st6 ?_
  refine own_s T6 (mkF m 23 #[rv a1, iv 0, iv 4, rv b1, iv 1, u_] [(.int 4), (.int 0), (.ref a1)]) (fun _ k => XS.istore X6.here hx rfl (hb hby od_jdk_52_m_16_12) rfl (l' := #[rv a1, iv 0, iv 4, rv b1, iv 1, u_]) rfl (XS.iload X6.here hx rfl (hb hby od_jdk_52_m_16_14) rfl  (XS.iloadN X6.here hx rfl (hb hby od_jdk_52_m_16_16) rfl  (XS.icmpNo X6.here hx rfl (hb hby od_jdk_52_m_16_17) rfl (feq (by decide : ¬ ((1 : Int32) = (4 : Int32)))).1 (XS.aloadN X6.here hx rfl (hb hby od_jdk_52_m_16_20) rfl rfl (XS.iloadN X6.here hx rfl (hb hby od_jdk_52_m_16_21) rfl  (XS.iloadN X6.here hx rfl (hb hby od_jdk_52_m_16_22) rfl  k))))))) ?_
  obtain ⟨v11, T11, L11, X11, hQ11, st11⟩ := own_callS X6 hx hZ (y := own_y8) (W := 0) hown (own_h hw 36 rfl) (own_h hw 37 rfl) (own_h hw 19 rfl) (own_h hw 38 rfl) (by decide) (own_rmtb l Z a0 hw [] a1 ka ch0 ch1 ch2 ch3 T6.heap n0 Z6 f7 f8 f9 f10) (by decide) (by decide) (g := (mkF m 23 #[rv a1, iv 0, iv 4, rv b1, iv 1, u_] [(.int 4), (.int 0), (.ref a1)])) rfl (by rw [hml]; rfl) (argsL := [(.ref a1), (.int 0), (.int 4)]) (rest := []) rfl (lenOf own_pd1 rfl) rfl (by show 2 * 0 + _ ≤ _; exact Nat.le_of_eq rfl) (hb hby od_jdk_52_m_16_23) rfl (by decide) (by decide)
  obtain ⟨zb11, zk11, rfl, Nq11, Kq11, g_zb11, sq_zb11, q11_0⟩ := hQ11
  have N11 := Fr.app N6 Nq11
  have sz_zb11 : h0.size ≤ zb11 := Nat.le_trans K6.1 sq_zb11
  have f12 := f7.keep Kq11 nin0
  have f13 := own_staKeep f8 Kq11
  have f14 := own_staKeep f9 Kq11
  have f15 := own_staKeep f10 Kq11
  have K11 : Keep h0 T11.heap [] := K6.trans Kq11 all0
  have Z11 := Nat.le_trans Z6 Kq11.1
  refine own_s T11 (mkF m 26 #[rv a1, iv 0, iv 4, rv b1, iv 1, u_] [(.ref zb11)]) st11 ?_
  refine own_s T11 (mkF m 32 #[rv a1, iv 0, iv 4, rv b1, iv 1, rv zb11] [(.int 1), (.ref zb11)]) (fun _ k => XS.astore X11.here hx rfl (hb hby od_jdk_52_m_16_26) rfl rfl (l' := #[rv a1, iv 0, iv 4, rv b1, iv 1, rv zb11]) rfl (XS.aload X11.here hx rfl (hb hby od_jdk_52_m_16_28) rfl rfl (XS.iload X11.here hx rfl (hb hby od_jdk_52_m_16_30) rfl  k))) ?_
  obtain ⟨v16, T16, L16, X16, hQ16, st16⟩ := own_callS X11 hx hZ (y := own_y10) (W := 0) hown (own_h hw 52 rfl) (own_h hw 53 rfl) (own_h hw 19 rfl) (own_h hw 54 rfl) (by decide) (own_rmgc1 l Z a0 hw [] zb11 zk11 (.int (own_lo ch0)) (.int (own_hi ch0)) (own_lo ch1) (own_hi ch1) (.int (own_lo ch2)) (.int (own_hi ch2)) (.int (own_lo ch3)) (.int (own_hi ch3)) T11.heap n0 Z11 q11_0 f13 f14 f15) (by decide) (by decide) (g := (mkF m 32 #[rv a1, iv 0, iv 4, rv b1, iv 1, rv zb11] [(.int 1), (.ref zb11)])) rfl (by rw [hml]; rfl) (argsL := [(.ref zb11), (.int 1)]) (rest := []) rfl (lenOf own_pd7 rfl) rfl (by show 2 * 0 + _ ≤ _; exact Nat.le_of_eq rfl) (hb hby od_jdk_52_m_16_32) rfl (by decide) (by decide)
  obtain ⟨rfl, Nq16, e16⟩ := hQ16
  have N16 := Fr.app N11 Nq16
  refine own_s T16 (mkF m 35 #[rv a1, iv 0, iv 4, rv b1, iv 1, rv zb11] [(.int (nar .char (((((own_lo ch1) &&& (255 : Int32)) <<< ((0 : Int32) &&& 31)) ||| (((own_hi ch1) &&& (255 : Int32)) <<< ((8 : Int32) &&& 31))).toUInt32.toUInt16.toUInt32.toInt32)))]) st16 ?_
  refine own_s T16 (mkF m 56 #[rv a1, iv 0, iv 4, rv b1, iv 1, rv zb11] [(.ref zb11)]) (fun _ k => XS.sipush X16.here hx rfl (hb hby od_jdk_52_m_16_35) (XS.icmpYes X16.here hx rfl (pc0 := 38) (pc' := 54) rfl (hb hby od_jdk_52_m_16_38) rfl (tlt (by rw [own_utfC hr1]; exact hk)).2.2.1 (by decide) (by decide) (XS.aload X16.here hx rfl (hb hby od_jdk_52_m_16_54) rfl rfl k))) ?_
  exact own_finA X16 hx hret rfl rfl (hb hby od_jdk_52_m_16_56) (own_end (Qv := (own_Qcp1_1 Z a1 ka ch0 ch1 ch2 ch3 h0 n0)) X16 (own_some hret) hlk (by decide) (by decide) e16 ⟨zb11, zk11, rfl, N16, K11, g_zb11, sz_zb11, q11_0⟩)
theorem own_efcp2_2 (m : MethodId) (x0 : Addr) (x1 : Int32) (x2 : Addr) (x3 : Int32) (x4 : Int32) : entryFrame m #[(.ref x0), (.int x1), (.ref x2), (.int x3), (.int x4)] 7 = mkF m 0 #[rv x0, iv x1, rv x2, iv x3, iv x4, u_, u_] [] := by first | (simp [entryFrame, mkF, argsToLocals, Value.category]; done) | rfl
def own_Qcp2_2 (Z : State) (a1 : Addr) (a3 : Addr) (ka : ClassId) (ch0 : Int32) (ch1 : Int32) (ch2 : Int32) (ch3 : Int32) (kc : ClassId) (h0 : Heap) (n0 : Nat) : Option Value → Heap → List Loc → Prop := fun v h L => v = some (.int 2) ∧ Fr n0 L ∧ Keep h0 h [a3]
def own_Rcp2_2 : Room := { frames := 0, cells := 0, slots := 0, locals := 0 }
set_option maxRecDepth 65536 in
set_option maxHeartbeats 40000000 in
theorem own_rmcp2_2 (l : Launch) (Z : State) (a0 : Array Value) (hw : ∀ d ∈ tables_1, d.before a0 Z = true) (ws : List Jvm.Cond) (a1 : Addr) (a3 : Addr) (ka : ClassId) (ch0 : Int32) (ch1 : Int32) (ch2 : Int32) (ch3 : Int32) (kc : ClassId) (h0 : Heap) (n0 : Nat) (Z0 : n0 ≤ h0.size) (g_a3 : n0 ≤ a3) (pr1 : Arv Z h0 a1 ka .char (4 : Int32) [(.int ch0), (.int ch1), (.int ch2), (.int ch3)] (.int 0)) (pr2 : Arv Z h0 a3 kc .byte (4 : Int32) [(.int 0), (.int 0), (.int 0), (.int 0)] (.int 0)) (pr3 : a1 ≠ a3) (hc0 : ¬ (255 : Int32) < ch0) (hc1 : ¬ (255 : Int32) < ch1) (hk : (255 : Int32) < ch2) :
    own_Met l Z own_y0 jdk_52_method_21_code 7 (some .int) ws own_Rcp2_2 h0 #[(.ref a1), (.int 0), (.ref a3), (.int 0), (.int 4)] (own_Qcp2_2 Z a1 a3 ka ch0 ch1 ch2 ch3 kc h0 n0) own_Rcp2_2.cells own_Rcp2_2.slots := by
  refine own_start (plainFor_of_name own_pn0) ?_
  intro p e s m below meth c s₁ X0 hx hZ hby hml hret hlk hown hnm e0
  have hown : s.vm.findClass "java/lang/StringUTF16" = some m.cls := hown
  have hml : c.maxLocals = 7 := hml
  have N0 := Fr.nil n0
  refine own_cast (own_efcp2_2 m a1 (0 : Int32) a3 (0 : Int32) (4 : Int32)) ?_
  refine own_s s₁ (mkF m 12 #[rv a1, iv 0, rv a3, iv 0, iv 4, iv 0, u_] [(.int 0), (.ref a1)]) (fun _ k => XS.iconst X0.here hx rfl (hb hby od_jdk_52_m_21_0) (XS.istore X0.here hx rfl (hb hby od_jdk_52_m_21_1) rfl (l' := #[rv a1, iv 0, rv a3, iv 0, iv 4, iv 0, u_]) rfl (XS.iload X0.here hx rfl (hb hby od_jdk_52_m_21_3) rfl  (XS.iload X0.here hx rfl (hb hby od_jdk_52_m_21_5) rfl  (XS.icmpNo X0.here hx rfl (hb hby od_jdk_52_m_21_7) rfl (tlt (by decide : ((0 : Int32) < (4 : Int32)))).2.1 (XS.aloadN X0.here hx rfl (hb hby od_jdk_52_m_21_10) rfl rfl (XS.iloadN X0.here hx rfl (hb hby od_jdk_52_m_21_11) rfl  k))))))) ?_
  obtain ⟨cl1, Ar1, q1, S1, Nn1, H1, G1⟩ := id pr1
  have hin1 : ¬ ((0 : Int32) < 0 ∨ cl1.slots.size ≤ ((0 : Int32)).toNatClampNeg) := (inb_of S1 ⟨by decide, by decide⟩)
  refine own_s s₁ (mkF m 30 #[rv a1, iv 0, rv a3, iv 0, iv 4, iv 0, iv ch0] [(.int ch0), (.int 0), (.ref a3)]) (fun _ k => X0.caload hx (j := (0 : Int32)) (v := (.int ch0)) (own_at e0 Ar1.1) (State.isArrayOf_alike hZ.alike Ar1.2.1) Ar1.2.2 hin1 (Has.at H1 hin1 rfl) (g := (mkF m 12 #[rv a1, iv 0, rv a3, iv 0, iv 4, iv 0, u_] [(.int 0), (.ref a1)])) rfl rfl (hb hby od_jdk_52_m_21_12) _ (XS.istore X0.here hx rfl (hb hby od_jdk_52_m_21_13) rfl (l' := #[rv a1, iv 0, rv a3, iv 0, iv 4, iv 0, iv ch0]) rfl (XS.iload X0.here hx rfl (hb hby od_jdk_52_m_21_15) rfl  (XS.sipush X0.here hx rfl (hb hby od_jdk_52_m_21_17) (XS.icmpYes X0.here hx rfl (pc0 := 20) (pc' := 26) rfl (hb hby od_jdk_52_m_21_20) rfl (flt hc0).2.2.2 (by decide) (by decide) (XS.aloadN X0.here hx rfl (hb hby od_jdk_52_m_21_26) rfl rfl (XS.iloadN X0.here hx rfl (hb hby od_jdk_52_m_21_27) rfl  (XS.iload X0.here hx rfl (hb hby od_jdk_52_m_21_28) rfl  k)))))))) ?_
  refine own_s s₁ (mkF m 31 #[rv a1, iv 0, rv a3, iv 0, iv 4, iv 0, iv ch0] [(.int (ch0.toInt8.toInt32)), (.int 0), (.ref a3)]) (fun _ k => XS.i2b X0.here hx rfl (hb hby od_jdk_52_m_21_30) rfl k) ?_
  obtain ⟨cl2, Ar2, q2, S2, Nn2, H2, G2⟩ := id pr2
  have hin2 : ¬ ((0 : Int32) < 0 ∨ cl2.slots.size ≤ ((0 : Int32)).toNatClampNeg) := (inb_of S2 ⟨by decide, by decide⟩)
  obtain ⟨T2, h2, X2, e2, W2, st2⟩ := stB X0 hx hZ e0 Ar2 (j := (0 : Int32)) hin2 (g := (mkF m 31 #[rv a1, iv 0, rv a3, iv 0, iv 4, iv 0, iv ch0] [(.int (ch0.toInt8.toInt32)), (.int 0), (.ref a3)])) rfl rfl (hb hby od_jdk_52_m_21_31)
  have f2 : Arv Z h2 a3 kc .byte (4 : Int32) [(.int (nar .byte (ch0.toInt8.toInt32))), (.int 0), (.int 0), (.int 0)] (.int 0) := Arv.set Ar2 q2 S2 Nn2 H2 G2 (fits_nar_byte _) W2 0 rfl (Nat.le_of_ble_eq_true rfl)
  have f3 := pr1.other W2 pr3
  have K2 : Keep h0 h2 [a3] := (Keep.refl h0 [a3]).wr W2 (Or.inl (List.mem_of_getElem? (i := 0) rfl))
  have Z2 := Nat.le_trans Z0 (Nat.le_of_eq W2.size.symm)
  have N2 := Fr.snoc X2 N0 g_a3
  refine own_s T2 (mkF m 32 #[rv a1, iv 0, rv a3, iv 0, iv 4, iv 0, iv ch0] []) st2 ?_
  refine own_s T2 (mkF m 11 #[rv a1, iv 1, rv a3, iv 1, iv 4, iv 1, iv ch0] [(.ref a1)]) (fun _ k => XS.iinc X2.here hx rfl (hb hby od_jdk_52_m_21_32) rfl (l' := #[rv a1, iv 1, rv a3, iv 0, iv 4, iv 0, iv ch0]) rfl (XS.iinc X2.here hx rfl (hb hby od_jdk_52_m_21_35) rfl (l' := #[rv a1, iv 1, rv a3, iv 1, iv 4, iv 0, iv ch0]) rfl (XS.iinc X2.here hx rfl (hb hby od_jdk_52_m_21_38) rfl (l' := #[rv a1, iv 1, rv a3, iv 1, iv 4, iv 1, iv ch0]) rfl (XS.goto X2.here hx rfl (pc0 := 41) (pc' := 3) rfl (hb hby od_jdk_52_m_21_41) (by decide) (by decide) (XS.iload X2.here hx rfl (hb hby od_jdk_52_m_21_3) rfl  (XS.iload X2.here hx rfl (hb hby od_jdk_52_m_21_5) rfl  (XS.icmpNo X2.here hx rfl (hb hby od_jdk_52_m_21_7) rfl (tlt (by decide : ((1 : Int32) < (4 : Int32)))).2.1 (XS.aloadN X2.here hx rfl (hb hby od_jdk_52_m_21_10) rfl rfl k)))))))) ?_
  refine own_s T2 (mkF m 12 #[rv a1, iv 1, rv a3, iv 1, iv 4, iv 1, iv ch0] [(.int 1), (.ref a1)]) (fun _ k => XS.iloadN X2.here hx rfl (hb hby od_jdk_52_m_21_11) rfl  k) ?_
  obtain ⟨cl4, Ar4, q4, S4, Nn4, H4, G4⟩ := id f3
  have hin4 : ¬ ((1 : Int32) < 0 ∨ cl4.slots.size ≤ ((1 : Int32)).toNatClampNeg) := (inb_of S4 ⟨by decide, by decide⟩)
  refine own_s T2 (mkF m 30 #[rv a1, iv 1, rv a3, iv 1, iv 4, iv 1, iv ch1] [(.int ch1), (.int 1), (.ref a3)]) (fun _ k => X2.caload hx (j := (1 : Int32)) (v := (.int ch1)) (own_at e2 Ar4.1) (State.isArrayOf_alike hZ.alike Ar4.2.1) Ar4.2.2 hin4 (Has.at H4 hin4 rfl) (g := (mkF m 12 #[rv a1, iv 1, rv a3, iv 1, iv 4, iv 1, iv ch0] [(.int 1), (.ref a1)])) rfl rfl (hb hby od_jdk_52_m_21_12) _ (XS.istore X2.here hx rfl (hb hby od_jdk_52_m_21_13) rfl (l' := #[rv a1, iv 1, rv a3, iv 1, iv 4, iv 1, iv ch1]) rfl (XS.iload X2.here hx rfl (hb hby od_jdk_52_m_21_15) rfl  (XS.sipush X2.here hx rfl (hb hby od_jdk_52_m_21_17) (XS.icmpYes X2.here hx rfl (pc0 := 20) (pc' := 26) rfl (hb hby od_jdk_52_m_21_20) rfl (flt hc1).2.2.2 (by decide) (by decide) (XS.aloadN X2.here hx rfl (hb hby od_jdk_52_m_21_26) rfl rfl (XS.iloadN X2.here hx rfl (hb hby od_jdk_52_m_21_27) rfl  (XS.iload X2.here hx rfl (hb hby od_jdk_52_m_21_28) rfl  k)))))))) ?_
  refine own_s T2 (mkF m 31 #[rv a1, iv 1, rv a3, iv 1, iv 4, iv 1, iv ch1] [(.int (ch1.toInt8.toInt32)), (.int 1), (.ref a3)]) (fun _ k => XS.i2b X2.here hx rfl (hb hby od_jdk_52_m_21_30) rfl k) ?_
  obtain ⟨cl5, Ar5, q5, S5, Nn5, H5, G5⟩ := id f2
  have hin5 : ¬ ((1 : Int32) < 0 ∨ cl5.slots.size ≤ ((1 : Int32)).toNatClampNeg) := (inb_of S5 ⟨by decide, by decide⟩)
  obtain ⟨T5, h5, X5, e5, W5, st5⟩ := stB X2 hx hZ e2 Ar5 (j := (1 : Int32)) hin5 (g := (mkF m 31 #[rv a1, iv 1, rv a3, iv 1, iv 4, iv 1, iv ch1] [(.int (ch1.toInt8.toInt32)), (.int 1), (.ref a3)])) rfl rfl (hb hby od_jdk_52_m_21_31)
  have f5 : Arv Z h5 a3 kc .byte (4 : Int32) [(.int (nar .byte (ch0.toInt8.toInt32))), (.int (nar .byte (ch1.toInt8.toInt32))), (.int 0), (.int 0)] (.int 0) := Arv.set Ar5 q5 S5 Nn5 H5 G5 (fits_nar_byte _) W5 1 rfl (Nat.le_of_ble_eq_true rfl)
  have f6 := f3.other W5 pr3
  have K5 : Keep h0 h5 [a3] := K2.wr W5 (Or.inl (List.mem_of_getElem? (i := 0) rfl))
  have Z5 := Nat.le_trans Z2 (Nat.le_of_eq W5.size.symm)
  have N5 := Fr.snoc X5 N2 g_a3
  refine own_s T5 (mkF m 32 #[rv a1, iv 1, rv a3, iv 1, iv 4, iv 1, iv ch1] []) st5 ?_
  refine own_s T5 (mkF m 11 #[rv a1, iv 2, rv a3, iv 2, iv 4, iv 2, iv ch1] [(.ref a1)]) (fun _ k => XS.iinc X5.here hx rfl (hb hby od_jdk_52_m_21_32) rfl (l' := #[rv a1, iv 2, rv a3, iv 1, iv 4, iv 1, iv ch1]) rfl (XS.iinc X5.here hx rfl (hb hby od_jdk_52_m_21_35) rfl (l' := #[rv a1, iv 2, rv a3, iv 2, iv 4, iv 1, iv ch1]) rfl (XS.iinc X5.here hx rfl (hb hby od_jdk_52_m_21_38) rfl (l' := #[rv a1, iv 2, rv a3, iv 2, iv 4, iv 2, iv ch1]) rfl (XS.goto X5.here hx rfl (pc0 := 41) (pc' := 3) rfl (hb hby od_jdk_52_m_21_41) (by decide) (by decide) (XS.iload X5.here hx rfl (hb hby od_jdk_52_m_21_3) rfl  (XS.iload X5.here hx rfl (hb hby od_jdk_52_m_21_5) rfl  (XS.icmpNo X5.here hx rfl (hb hby od_jdk_52_m_21_7) rfl (tlt (by decide : ((2 : Int32) < (4 : Int32)))).2.1 (XS.aloadN X5.here hx rfl (hb hby od_jdk_52_m_21_10) rfl rfl k)))))))) ?_
  refine own_s T5 (mkF m 12 #[rv a1, iv 2, rv a3, iv 2, iv 4, iv 2, iv ch1] [(.int 2), (.ref a1)]) (fun _ k => XS.iloadN X5.here hx rfl (hb hby od_jdk_52_m_21_11) rfl  k) ?_
  obtain ⟨cl7, Ar7, q7, S7, Nn7, H7, G7⟩ := id f6
  have hin7 : ¬ ((2 : Int32) < 0 ∨ cl7.slots.size ≤ ((2 : Int32)).toNatClampNeg) := (inb_of S7 ⟨by decide, by decide⟩)
  refine own_s T5 (mkF m 25 #[rv a1, iv 2, rv a3, iv 2, iv 4, iv 2, iv ch2] [(.int 2)]) (fun _ k => X5.caload hx (j := (2 : Int32)) (v := (.int ch2)) (own_at e5 Ar7.1) (State.isArrayOf_alike hZ.alike Ar7.2.1) Ar7.2.2 hin7 (Has.at H7 hin7 rfl) (g := (mkF m 12 #[rv a1, iv 2, rv a3, iv 2, iv 4, iv 2, iv ch1] [(.int 2), (.ref a1)])) rfl rfl (hb hby od_jdk_52_m_21_12) _ (XS.istore X5.here hx rfl (hb hby od_jdk_52_m_21_13) rfl (l' := #[rv a1, iv 2, rv a3, iv 2, iv 4, iv 2, iv ch2]) rfl (XS.iload X5.here hx rfl (hb hby od_jdk_52_m_21_15) rfl  (XS.sipush X5.here hx rfl (hb hby od_jdk_52_m_21_17) (XS.icmpNo X5.here hx rfl (hb hby od_jdk_52_m_21_20) rfl (tlt hk).2.2.2 (XS.iload X5.here hx rfl (hb hby od_jdk_52_m_21_23) rfl  k)))))) ?_
  exact own_finI X5 hx hret (hb hby od_jdk_52_m_21_25) (own_end (Qv := (own_Qcp2_2 Z a1 a3 ka ch0 ch1 ch2 ch3 kc h0 n0)) X5 (own_some hret) hlk (by decide) (by decide) e5 ⟨rfl, N5, K5⟩)
theorem own_efcp1_2 (m : MethodId) (x0 : Addr) (x1 : Int32) (x2 : Int32) : entryFrame m #[(.ref x0), (.int x1), (.int x2)] 6 = mkF m 0 #[rv x0, iv x1, iv x2, u_, u_, u_] [] := by first | (simp [entryFrame, mkF, argsToLocals, Value.category]; done) | rfl
def own_Qcp1_2 (Z : State) (a1 : Addr) (ka : ClassId) (ch0 : Int32) (ch1 : Int32) (ch2 : Int32) (ch3 : Int32) (h0 : Heap) (n0 : Nat) : Option Value → Heap → List Loc → Prop := fun v h L => ∃ (b : Addr) (k : ClassId), v = some (.ref b) ∧ Fr n0 L ∧ Keep h0 h [] ∧ n0 ≤ b ∧ h0.size ≤ b ∧ Arv Z h b k .byte (8 : Int32) [(.int (own_lo ch0)), (.int (own_hi ch0)), (.int (own_lo ch1)), (.int (own_hi ch1)), (.int (own_lo ch2)), (.int (own_hi ch2)), (.int (own_lo ch3)), (.int (own_hi ch3))] (.int 0)
def own_Rcp1_2 : Room := { frames := 3, cells := 2, slots := 12, locals := 40 }
set_option maxRecDepth 65536 in
set_option maxHeartbeats 40000000 in
theorem own_rmcp1_2 (l : Launch) (Z : State) (a0 : Array Value) (hw : ∀ d ∈ tables_1, d.before a0 Z = true) (ws : List Jvm.Cond) (a1 : Addr) (ka : ClassId) (ch0 : Int32) (ch1 : Int32) (ch2 : Int32) (ch3 : Int32) (h0 : Heap) (n0 : Nat) (Z0 : n0 ≤ h0.size) (pr0 : Arv Z h0 a1 ka .char (4 : Int32) [(.int ch0), (.int ch1), (.int ch2), (.int ch3)] (.int 0)) (pr1 : Sta Z h0 "java/lang/StringUTF16" "$assertionsDisabled" "Z" (.int 1)) (pr2 : Sta Z h0 "java/lang/StringUTF16" "HI_BYTE_SHIFT" "I" (.int 0)) (pr3 : Sta Z h0 "java/lang/StringUTF16" "LO_BYTE_SHIFT" "I" (.int 8)) (hc0 : ¬ (255 : Int32) < ch0) (hc1 : ¬ (255 : Int32) < ch1) (hk : (255 : Int32) < ch2) (hr2 : own_Ch ch2) :
    own_Met l Z own_y1 jdk_52_method_16_code 6 (some (.array .byte)) ws own_Rcp1_2 h0 #[(.ref a1), (.int 0), (.int 4)] (own_Qcp1_2 Z a1 ka ch0 ch1 ch2 ch3 h0 n0) own_Rcp1_2.cells own_Rcp1_2.slots := by
  refine own_start (plainFor_of_name own_pn0) ?_
  intro p e s m below meth c s₁ X0 hx hZ hby hml hret hlk hown hnm e0
  have hown : s.vm.findClass "java/lang/StringUTF16" = some m.cls := hown
  have hml : c.maxLocals = 6 := hml
  have N0 := Fr.nil n0
  refine own_cast (own_efcp1_2 m a1 (0 : Int32) (4 : Int32)) ?_
  refine own_s s₁ (mkF m 1 #[rv a1, iv 0, iv 4, u_, u_, u_] [(.int 4)]) (fun _ k => XS.iloadN X0.here hx rfl (hb hby od_jdk_52_m_16_0) rfl  k) ?_
  obtain ⟨T1, h1, k1, X1, e1, E1, A1, st1⟩ := newP X0 hx hZ (own_h hw 21 rfl) e0 (g := (mkF m 1 #[rv a1, iv 0, iv 4, u_, u_, u_] [(.int 4)])) rfl (hb hby od_jdk_52_m_16_1) rfl (by decide) (cap := 4) (by decide) (by decide) (by decide) (by decide)
  obtain ⟨b1, g1⟩ : ∃ z, z = h0.size := ⟨_, rfl⟩
  have g_b1 : n0 ≤ b1 := Nat.le_trans Z0 (Nat.le_of_eq g1.symm)
  have sz_b1 : h0.size ≤ b1 := Nat.le_trans (Keep.refl h0 []).1 (Nat.le_of_eq g1.symm)
  rw [← g1] at A1 st1
  have f2 := pr0.ext E1
  have f3 := Sta.ext E1 pr1
  have f4 := Sta.ext E1 pr2
  have f5 := Sta.ext E1 pr3
  have K1 : Keep h0 h1 [] := (Keep.refl h0 []).ext E1
  have Z1 := Nat.le_trans Z0 E1.1
  have f1 : Arv Z h1 b1 k1 .byte 4 [(.int 0), (.int 0), (.int 0), (.int 0)] (.int 0) := (Arv.new A1 (by decide)).pad (pad_rep [] (.int 0) 4)
  refine own_s T1 (mkF m 3 #[rv a1, iv 0, iv 4, u_, u_, u_] [(.ref b1)]) st1 ?_
  refine own_s T1 (mkF m 9 #[rv a1, iv 0, iv 4, rv b1, u_, u_] [(.int 4), (.int 0), (.ref b1), (.int 0), (.ref a1)]) (fun _ k => XS.astoreN X1.here hx rfl (hb hby od_jdk_52_m_16_3) rfl rfl (l' := #[rv a1, iv 0, iv 4, rv b1, u_, u_]) rfl (XS.aloadN X1.here hx rfl (hb hby od_jdk_52_m_16_4) rfl rfl (XS.iloadN X1.here hx rfl (hb hby od_jdk_52_m_16_5) rfl  (XS.aloadN X1.here hx rfl (hb hby od_jdk_52_m_16_6) rfl rfl (XS.iconst X1.here hx rfl (hb hby od_jdk_52_m_16_7) (XS.iloadN X1.here hx rfl (hb hby od_jdk_52_m_16_8) rfl  k)))))) ?_
  obtain ⟨v6, T6, L6, X6, hQ6, st6⟩ := own_callS X1 hx hZ (y := own_y0) (W := 0) hown (own_h hw 22 rfl) (own_h hw 23 rfl) (own_h hw 19 rfl) (own_h hw 24 rfl) (by decide) (own_rmcp2_2 l Z a0 hw [] a1 b1 ka ch0 ch1 ch2 ch3 k1 h1 n0 Z1 g_b1 f2 f1 (own_nf pr0.lt g1) hc0 hc1 hk) (by decide) (by decide) (g := (mkF m 9 #[rv a1, iv 0, iv 4, rv b1, u_, u_] [(.int 4), (.int 0), (.ref b1), (.int 0), (.ref a1)])) rfl (by rw [hml]; rfl) (argsL := [(.ref a1), (.int 0), (.ref b1), (.int 0), (.int 4)]) (rest := []) rfl (lenOf own_pd0 rfl) rfl (by show 2 * 0 + _ ≤ _; exact Nat.le_of_eq rfl) (hb hby od_jdk_52_m_16_9) e1 (by decide) (by decide)
  obtain ⟨rfl, Nq6, Kq6⟩ := hQ6
  have N6 := Fr.app N0 Nq6
  have f7 := f2.keep Kq6 (ninS (own_nf pr0.lt g1) nin0)
  have f8 := own_staKeepW f3 Kq6 (allS f1.nostat all0)
  have f9 := own_staKeepW f4 Kq6 (allS f1.nostat all0)
  have f10 := own_staKeepW f5 Kq6 (allS f1.nostat all0)
  have K6 : Keep h0 T6.heap [] := K1.trans Kq6 (allS (Or.inr sz_b1) all0)
  have Z6 := Nat.le_trans Z1 Kq6.1
  refine own_s T6 (mkF m 12 #[rv a1, iv 0, iv 4, rv b1, u_, u_] [(.int 2)]) st6 ?_
  refine own_s T6 (mkF m 23 #[rv a1, iv 0, iv 4, rv b1, iv 2, u_] [(.int 4), (.int 0), (.ref a1)]) (fun _ k => XS.istore X6.here hx rfl (hb hby od_jdk_52_m_16_12) rfl (l' := #[rv a1, iv 0, iv 4, rv b1, iv 2, u_]) rfl (XS.iload X6.here hx rfl (hb hby od_jdk_52_m_16_14) rfl  (XS.iloadN X6.here hx rfl (hb hby od_jdk_52_m_16_16) rfl  (XS.icmpNo X6.here hx rfl (hb hby od_jdk_52_m_16_17) rfl (feq (by decide : ¬ ((2 : Int32) = (4 : Int32)))).1 (XS.aloadN X6.here hx rfl (hb hby od_jdk_52_m_16_20) rfl rfl (XS.iloadN X6.here hx rfl (hb hby od_jdk_52_m_16_21) rfl  (XS.iloadN X6.here hx rfl (hb hby od_jdk_52_m_16_22) rfl  k))))))) ?_
  obtain ⟨v11, T11, L11, X11, hQ11, st11⟩ := own_callS X6 hx hZ (y := own_y8) (W := 0) hown (own_h hw 36 rfl) (own_h hw 37 rfl) (own_h hw 19 rfl) (own_h hw 38 rfl) (by decide) (own_rmtb l Z a0 hw [] a1 ka ch0 ch1 ch2 ch3 T6.heap n0 Z6 f7 f8 f9 f10) (by decide) (by decide) (g := (mkF m 23 #[rv a1, iv 0, iv 4, rv b1, iv 2, u_] [(.int 4), (.int 0), (.ref a1)])) rfl (by rw [hml]; rfl) (argsL := [(.ref a1), (.int 0), (.int 4)]) (rest := []) rfl (lenOf own_pd1 rfl) rfl (by show 2 * 0 + _ ≤ _; exact Nat.le_of_eq rfl) (hb hby od_jdk_52_m_16_23) rfl (by decide) (by decide)
  obtain ⟨zb11, zk11, rfl, Nq11, Kq11, g_zb11, sq_zb11, q11_0⟩ := hQ11
  have N11 := Fr.app N6 Nq11
  have sz_zb11 : h0.size ≤ zb11 := Nat.le_trans K6.1 sq_zb11
  have f12 := f7.keep Kq11 nin0
  have f13 := own_staKeep f8 Kq11
  have f14 := own_staKeep f9 Kq11
  have f15 := own_staKeep f10 Kq11
  have K11 : Keep h0 T11.heap [] := K6.trans Kq11 all0
  have Z11 := Nat.le_trans Z6 Kq11.1
  refine own_s T11 (mkF m 26 #[rv a1, iv 0, iv 4, rv b1, iv 2, u_] [(.ref zb11)]) st11 ?_
  refine own_s T11 (mkF m 32 #[rv a1, iv 0, iv 4, rv b1, iv 2, rv zb11] [(.int 2), (.ref zb11)]) (fun _ k => XS.astore X11.here hx rfl (hb hby od_jdk_52_m_16_26) rfl rfl (l' := #[rv a1, iv 0, iv 4, rv b1, iv 2, rv zb11]) rfl (XS.aload X11.here hx rfl (hb hby od_jdk_52_m_16_28) rfl rfl (XS.iload X11.here hx rfl (hb hby od_jdk_52_m_16_30) rfl  k))) ?_
  obtain ⟨v16, T16, L16, X16, hQ16, st16⟩ := own_callS X11 hx hZ (y := own_y10) (W := 0) hown (own_h hw 52 rfl) (own_h hw 53 rfl) (own_h hw 19 rfl) (own_h hw 54 rfl) (by decide) (own_rmgc2 l Z a0 hw [] zb11 zk11 (.int (own_lo ch0)) (.int (own_hi ch0)) (.int (own_lo ch1)) (.int (own_hi ch1)) (own_lo ch2) (own_hi ch2) (.int (own_lo ch3)) (.int (own_hi ch3)) T11.heap n0 Z11 q11_0 f13 f14 f15) (by decide) (by decide) (g := (mkF m 32 #[rv a1, iv 0, iv 4, rv b1, iv 2, rv zb11] [(.int 2), (.ref zb11)])) rfl (by rw [hml]; rfl) (argsL := [(.ref zb11), (.int 2)]) (rest := []) rfl (lenOf own_pd7 rfl) rfl (by show 2 * 0 + _ ≤ _; exact Nat.le_of_eq rfl) (hb hby od_jdk_52_m_16_32) rfl (by decide) (by decide)
  obtain ⟨rfl, Nq16, e16⟩ := hQ16
  have N16 := Fr.app N11 Nq16
  refine own_s T16 (mkF m 35 #[rv a1, iv 0, iv 4, rv b1, iv 2, rv zb11] [(.int (nar .char (((((own_lo ch2) &&& (255 : Int32)) <<< ((0 : Int32) &&& 31)) ||| (((own_hi ch2) &&& (255 : Int32)) <<< ((8 : Int32) &&& 31))).toUInt32.toUInt16.toUInt32.toInt32)))]) st16 ?_
  refine own_s T16 (mkF m 56 #[rv a1, iv 0, iv 4, rv b1, iv 2, rv zb11] [(.ref zb11)]) (fun _ k => XS.sipush X16.here hx rfl (hb hby od_jdk_52_m_16_35) (XS.icmpYes X16.here hx rfl (pc0 := 38) (pc' := 54) rfl (hb hby od_jdk_52_m_16_38) rfl (tlt (by rw [own_utfC hr2]; exact hk)).2.2.1 (by decide) (by decide) (XS.aload X16.here hx rfl (hb hby od_jdk_52_m_16_54) rfl rfl k))) ?_
  exact own_finA X16 hx hret rfl rfl (hb hby od_jdk_52_m_16_56) (own_end (Qv := (own_Qcp1_2 Z a1 ka ch0 ch1 ch2 ch3 h0 n0)) X16 (own_some hret) hlk (by decide) (by decide) e16 ⟨zb11, zk11, rfl, N16, K11, g_zb11, sz_zb11, q11_0⟩)
theorem own_efcp2_3 (m : MethodId) (x0 : Addr) (x1 : Int32) (x2 : Addr) (x3 : Int32) (x4 : Int32) : entryFrame m #[(.ref x0), (.int x1), (.ref x2), (.int x3), (.int x4)] 7 = mkF m 0 #[rv x0, iv x1, rv x2, iv x3, iv x4, u_, u_] [] := by first | (simp [entryFrame, mkF, argsToLocals, Value.category]; done) | rfl
def own_Qcp2_3 (Z : State) (a1 : Addr) (a3 : Addr) (ka : ClassId) (ch0 : Int32) (ch1 : Int32) (ch2 : Int32) (ch3 : Int32) (kc : ClassId) (h0 : Heap) (n0 : Nat) : Option Value → Heap → List Loc → Prop := fun v h L => v = some (.int 3) ∧ Fr n0 L ∧ Keep h0 h [a3]
def own_Rcp2_3 : Room := { frames := 0, cells := 0, slots := 0, locals := 0 }
set_option maxRecDepth 65536 in
set_option maxHeartbeats 40000000 in
theorem own_rmcp2_3 (l : Launch) (Z : State) (a0 : Array Value) (hw : ∀ d ∈ tables_1, d.before a0 Z = true) (ws : List Jvm.Cond) (a1 : Addr) (a3 : Addr) (ka : ClassId) (ch0 : Int32) (ch1 : Int32) (ch2 : Int32) (ch3 : Int32) (kc : ClassId) (h0 : Heap) (n0 : Nat) (Z0 : n0 ≤ h0.size) (g_a3 : n0 ≤ a3) (pr1 : Arv Z h0 a1 ka .char (4 : Int32) [(.int ch0), (.int ch1), (.int ch2), (.int ch3)] (.int 0)) (pr2 : Arv Z h0 a3 kc .byte (4 : Int32) [(.int 0), (.int 0), (.int 0), (.int 0)] (.int 0)) (pr3 : a1 ≠ a3) (hc0 : ¬ (255 : Int32) < ch0) (hc1 : ¬ (255 : Int32) < ch1) (hc2 : ¬ (255 : Int32) < ch2) (hk : (255 : Int32) < ch3) :
    own_Met l Z own_y0 jdk_52_method_21_code 7 (some .int) ws own_Rcp2_3 h0 #[(.ref a1), (.int 0), (.ref a3), (.int 0), (.int 4)] (own_Qcp2_3 Z a1 a3 ka ch0 ch1 ch2 ch3 kc h0 n0) own_Rcp2_3.cells own_Rcp2_3.slots := by
  refine own_start (plainFor_of_name own_pn0) ?_
  intro p e s m below meth c s₁ X0 hx hZ hby hml hret hlk hown hnm e0
  have hown : s.vm.findClass "java/lang/StringUTF16" = some m.cls := hown
  have hml : c.maxLocals = 7 := hml
  have N0 := Fr.nil n0
  refine own_cast (own_efcp2_3 m a1 (0 : Int32) a3 (0 : Int32) (4 : Int32)) ?_
  refine own_s s₁ (mkF m 12 #[rv a1, iv 0, rv a3, iv 0, iv 4, iv 0, u_] [(.int 0), (.ref a1)]) (fun _ k => XS.iconst X0.here hx rfl (hb hby od_jdk_52_m_21_0) (XS.istore X0.here hx rfl (hb hby od_jdk_52_m_21_1) rfl (l' := #[rv a1, iv 0, rv a3, iv 0, iv 4, iv 0, u_]) rfl (XS.iload X0.here hx rfl (hb hby od_jdk_52_m_21_3) rfl  (XS.iload X0.here hx rfl (hb hby od_jdk_52_m_21_5) rfl  (XS.icmpNo X0.here hx rfl (hb hby od_jdk_52_m_21_7) rfl (tlt (by decide : ((0 : Int32) < (4 : Int32)))).2.1 (XS.aloadN X0.here hx rfl (hb hby od_jdk_52_m_21_10) rfl rfl (XS.iloadN X0.here hx rfl (hb hby od_jdk_52_m_21_11) rfl  k))))))) ?_
  obtain ⟨cl1, Ar1, q1, S1, Nn1, H1, G1⟩ := id pr1
  have hin1 : ¬ ((0 : Int32) < 0 ∨ cl1.slots.size ≤ ((0 : Int32)).toNatClampNeg) := (inb_of S1 ⟨by decide, by decide⟩)
  refine own_s s₁ (mkF m 30 #[rv a1, iv 0, rv a3, iv 0, iv 4, iv 0, iv ch0] [(.int ch0), (.int 0), (.ref a3)]) (fun _ k => X0.caload hx (j := (0 : Int32)) (v := (.int ch0)) (own_at e0 Ar1.1) (State.isArrayOf_alike hZ.alike Ar1.2.1) Ar1.2.2 hin1 (Has.at H1 hin1 rfl) (g := (mkF m 12 #[rv a1, iv 0, rv a3, iv 0, iv 4, iv 0, u_] [(.int 0), (.ref a1)])) rfl rfl (hb hby od_jdk_52_m_21_12) _ (XS.istore X0.here hx rfl (hb hby od_jdk_52_m_21_13) rfl (l' := #[rv a1, iv 0, rv a3, iv 0, iv 4, iv 0, iv ch0]) rfl (XS.iload X0.here hx rfl (hb hby od_jdk_52_m_21_15) rfl  (XS.sipush X0.here hx rfl (hb hby od_jdk_52_m_21_17) (XS.icmpYes X0.here hx rfl (pc0 := 20) (pc' := 26) rfl (hb hby od_jdk_52_m_21_20) rfl (flt hc0).2.2.2 (by decide) (by decide) (XS.aloadN X0.here hx rfl (hb hby od_jdk_52_m_21_26) rfl rfl (XS.iloadN X0.here hx rfl (hb hby od_jdk_52_m_21_27) rfl  (XS.iload X0.here hx rfl (hb hby od_jdk_52_m_21_28) rfl  k)))))))) ?_
  refine own_s s₁ (mkF m 31 #[rv a1, iv 0, rv a3, iv 0, iv 4, iv 0, iv ch0] [(.int (ch0.toInt8.toInt32)), (.int 0), (.ref a3)]) (fun _ k => XS.i2b X0.here hx rfl (hb hby od_jdk_52_m_21_30) rfl k) ?_
  obtain ⟨cl2, Ar2, q2, S2, Nn2, H2, G2⟩ := id pr2
  have hin2 : ¬ ((0 : Int32) < 0 ∨ cl2.slots.size ≤ ((0 : Int32)).toNatClampNeg) := (inb_of S2 ⟨by decide, by decide⟩)
  obtain ⟨T2, h2, X2, e2, W2, st2⟩ := stB X0 hx hZ e0 Ar2 (j := (0 : Int32)) hin2 (g := (mkF m 31 #[rv a1, iv 0, rv a3, iv 0, iv 4, iv 0, iv ch0] [(.int (ch0.toInt8.toInt32)), (.int 0), (.ref a3)])) rfl rfl (hb hby od_jdk_52_m_21_31)
  have f2 : Arv Z h2 a3 kc .byte (4 : Int32) [(.int (nar .byte (ch0.toInt8.toInt32))), (.int 0), (.int 0), (.int 0)] (.int 0) := Arv.set Ar2 q2 S2 Nn2 H2 G2 (fits_nar_byte _) W2 0 rfl (Nat.le_of_ble_eq_true rfl)
  have f3 := pr1.other W2 pr3
  have K2 : Keep h0 h2 [a3] := (Keep.refl h0 [a3]).wr W2 (Or.inl (List.mem_of_getElem? (i := 0) rfl))
  have Z2 := Nat.le_trans Z0 (Nat.le_of_eq W2.size.symm)
  have N2 := Fr.snoc X2 N0 g_a3
  refine own_s T2 (mkF m 32 #[rv a1, iv 0, rv a3, iv 0, iv 4, iv 0, iv ch0] []) st2 ?_
  refine own_s T2 (mkF m 11 #[rv a1, iv 1, rv a3, iv 1, iv 4, iv 1, iv ch0] [(.ref a1)]) (fun _ k => XS.iinc X2.here hx rfl (hb hby od_jdk_52_m_21_32) rfl (l' := #[rv a1, iv 1, rv a3, iv 0, iv 4, iv 0, iv ch0]) rfl (XS.iinc X2.here hx rfl (hb hby od_jdk_52_m_21_35) rfl (l' := #[rv a1, iv 1, rv a3, iv 1, iv 4, iv 0, iv ch0]) rfl (XS.iinc X2.here hx rfl (hb hby od_jdk_52_m_21_38) rfl (l' := #[rv a1, iv 1, rv a3, iv 1, iv 4, iv 1, iv ch0]) rfl (XS.goto X2.here hx rfl (pc0 := 41) (pc' := 3) rfl (hb hby od_jdk_52_m_21_41) (by decide) (by decide) (XS.iload X2.here hx rfl (hb hby od_jdk_52_m_21_3) rfl  (XS.iload X2.here hx rfl (hb hby od_jdk_52_m_21_5) rfl  (XS.icmpNo X2.here hx rfl (hb hby od_jdk_52_m_21_7) rfl (tlt (by decide : ((1 : Int32) < (4 : Int32)))).2.1 (XS.aloadN X2.here hx rfl (hb hby od_jdk_52_m_21_10) rfl rfl k)))))))) ?_
  refine own_s T2 (mkF m 12 #[rv a1, iv 1, rv a3, iv 1, iv 4, iv 1, iv ch0] [(.int 1), (.ref a1)]) (fun _ k => XS.iloadN X2.here hx rfl (hb hby od_jdk_52_m_21_11) rfl  k) ?_
  obtain ⟨cl4, Ar4, q4, S4, Nn4, H4, G4⟩ := id f3
  have hin4 : ¬ ((1 : Int32) < 0 ∨ cl4.slots.size ≤ ((1 : Int32)).toNatClampNeg) := (inb_of S4 ⟨by decide, by decide⟩)
  refine own_s T2 (mkF m 30 #[rv a1, iv 1, rv a3, iv 1, iv 4, iv 1, iv ch1] [(.int ch1), (.int 1), (.ref a3)]) (fun _ k => X2.caload hx (j := (1 : Int32)) (v := (.int ch1)) (own_at e2 Ar4.1) (State.isArrayOf_alike hZ.alike Ar4.2.1) Ar4.2.2 hin4 (Has.at H4 hin4 rfl) (g := (mkF m 12 #[rv a1, iv 1, rv a3, iv 1, iv 4, iv 1, iv ch0] [(.int 1), (.ref a1)])) rfl rfl (hb hby od_jdk_52_m_21_12) _ (XS.istore X2.here hx rfl (hb hby od_jdk_52_m_21_13) rfl (l' := #[rv a1, iv 1, rv a3, iv 1, iv 4, iv 1, iv ch1]) rfl (XS.iload X2.here hx rfl (hb hby od_jdk_52_m_21_15) rfl  (XS.sipush X2.here hx rfl (hb hby od_jdk_52_m_21_17) (XS.icmpYes X2.here hx rfl (pc0 := 20) (pc' := 26) rfl (hb hby od_jdk_52_m_21_20) rfl (flt hc1).2.2.2 (by decide) (by decide) (XS.aloadN X2.here hx rfl (hb hby od_jdk_52_m_21_26) rfl rfl (XS.iloadN X2.here hx rfl (hb hby od_jdk_52_m_21_27) rfl  (XS.iload X2.here hx rfl (hb hby od_jdk_52_m_21_28) rfl  k)))))))) ?_
  refine own_s T2 (mkF m 31 #[rv a1, iv 1, rv a3, iv 1, iv 4, iv 1, iv ch1] [(.int (ch1.toInt8.toInt32)), (.int 1), (.ref a3)]) (fun _ k => XS.i2b X2.here hx rfl (hb hby od_jdk_52_m_21_30) rfl k) ?_
  obtain ⟨cl5, Ar5, q5, S5, Nn5, H5, G5⟩ := id f2
  have hin5 : ¬ ((1 : Int32) < 0 ∨ cl5.slots.size ≤ ((1 : Int32)).toNatClampNeg) := (inb_of S5 ⟨by decide, by decide⟩)
  obtain ⟨T5, h5, X5, e5, W5, st5⟩ := stB X2 hx hZ e2 Ar5 (j := (1 : Int32)) hin5 (g := (mkF m 31 #[rv a1, iv 1, rv a3, iv 1, iv 4, iv 1, iv ch1] [(.int (ch1.toInt8.toInt32)), (.int 1), (.ref a3)])) rfl rfl (hb hby od_jdk_52_m_21_31)
  have f5 : Arv Z h5 a3 kc .byte (4 : Int32) [(.int (nar .byte (ch0.toInt8.toInt32))), (.int (nar .byte (ch1.toInt8.toInt32))), (.int 0), (.int 0)] (.int 0) := Arv.set Ar5 q5 S5 Nn5 H5 G5 (fits_nar_byte _) W5 1 rfl (Nat.le_of_ble_eq_true rfl)
  have f6 := f3.other W5 pr3
  have K5 : Keep h0 h5 [a3] := K2.wr W5 (Or.inl (List.mem_of_getElem? (i := 0) rfl))
  have Z5 := Nat.le_trans Z2 (Nat.le_of_eq W5.size.symm)
  have N5 := Fr.snoc X5 N2 g_a3
  refine own_s T5 (mkF m 32 #[rv a1, iv 1, rv a3, iv 1, iv 4, iv 1, iv ch1] []) st5 ?_
  refine own_s T5 (mkF m 11 #[rv a1, iv 2, rv a3, iv 2, iv 4, iv 2, iv ch1] [(.ref a1)]) (fun _ k => XS.iinc X5.here hx rfl (hb hby od_jdk_52_m_21_32) rfl (l' := #[rv a1, iv 2, rv a3, iv 1, iv 4, iv 1, iv ch1]) rfl (XS.iinc X5.here hx rfl (hb hby od_jdk_52_m_21_35) rfl (l' := #[rv a1, iv 2, rv a3, iv 2, iv 4, iv 1, iv ch1]) rfl (XS.iinc X5.here hx rfl (hb hby od_jdk_52_m_21_38) rfl (l' := #[rv a1, iv 2, rv a3, iv 2, iv 4, iv 2, iv ch1]) rfl (XS.goto X5.here hx rfl (pc0 := 41) (pc' := 3) rfl (hb hby od_jdk_52_m_21_41) (by decide) (by decide) (XS.iload X5.here hx rfl (hb hby od_jdk_52_m_21_3) rfl  (XS.iload X5.here hx rfl (hb hby od_jdk_52_m_21_5) rfl  (XS.icmpNo X5.here hx rfl (hb hby od_jdk_52_m_21_7) rfl (tlt (by decide : ((2 : Int32) < (4 : Int32)))).2.1 (XS.aloadN X5.here hx rfl (hb hby od_jdk_52_m_21_10) rfl rfl k)))))))) ?_
  refine own_s T5 (mkF m 12 #[rv a1, iv 2, rv a3, iv 2, iv 4, iv 2, iv ch1] [(.int 2), (.ref a1)]) (fun _ k => XS.iloadN X5.here hx rfl (hb hby od_jdk_52_m_21_11) rfl  k) ?_
  obtain ⟨cl7, Ar7, q7, S7, Nn7, H7, G7⟩ := id f6
  have hin7 : ¬ ((2 : Int32) < 0 ∨ cl7.slots.size ≤ ((2 : Int32)).toNatClampNeg) := (inb_of S7 ⟨by decide, by decide⟩)
  refine own_s T5 (mkF m 30 #[rv a1, iv 2, rv a3, iv 2, iv 4, iv 2, iv ch2] [(.int ch2), (.int 2), (.ref a3)]) (fun _ k => X5.caload hx (j := (2 : Int32)) (v := (.int ch2)) (own_at e5 Ar7.1) (State.isArrayOf_alike hZ.alike Ar7.2.1) Ar7.2.2 hin7 (Has.at H7 hin7 rfl) (g := (mkF m 12 #[rv a1, iv 2, rv a3, iv 2, iv 4, iv 2, iv ch1] [(.int 2), (.ref a1)])) rfl rfl (hb hby od_jdk_52_m_21_12) _ (XS.istore X5.here hx rfl (hb hby od_jdk_52_m_21_13) rfl (l' := #[rv a1, iv 2, rv a3, iv 2, iv 4, iv 2, iv ch2]) rfl (XS.iload X5.here hx rfl (hb hby od_jdk_52_m_21_15) rfl  (XS.sipush X5.here hx rfl (hb hby od_jdk_52_m_21_17) (XS.icmpYes X5.here hx rfl (pc0 := 20) (pc' := 26) rfl (hb hby od_jdk_52_m_21_20) rfl (flt hc2).2.2.2 (by decide) (by decide) (XS.aloadN X5.here hx rfl (hb hby od_jdk_52_m_21_26) rfl rfl (XS.iloadN X5.here hx rfl (hb hby od_jdk_52_m_21_27) rfl  (XS.iload X5.here hx rfl (hb hby od_jdk_52_m_21_28) rfl  k)))))))) ?_
  refine own_s T5 (mkF m 31 #[rv a1, iv 2, rv a3, iv 2, iv 4, iv 2, iv ch2] [(.int (ch2.toInt8.toInt32)), (.int 2), (.ref a3)]) (fun _ k => XS.i2b X5.here hx rfl (hb hby od_jdk_52_m_21_30) rfl k) ?_
  obtain ⟨cl8, Ar8, q8, S8, Nn8, H8, G8⟩ := id f5
  have hin8 : ¬ ((2 : Int32) < 0 ∨ cl8.slots.size ≤ ((2 : Int32)).toNatClampNeg) := (inb_of S8 ⟨by decide, by decide⟩)
  obtain ⟨T8, h8, X8, e8, W8, st8⟩ := stB X5 hx hZ e5 Ar8 (j := (2 : Int32)) hin8 (g := (mkF m 31 #[rv a1, iv 2, rv a3, iv 2, iv 4, iv 2, iv ch2] [(.int (ch2.toInt8.toInt32)), (.int 2), (.ref a3)])) rfl rfl (hb hby od_jdk_52_m_21_31)
  have f8 : Arv Z h8 a3 kc .byte (4 : Int32) [(.int (nar .byte (ch0.toInt8.toInt32))), (.int (nar .byte (ch1.toInt8.toInt32))), (.int (nar .byte (ch2.toInt8.toInt32))), (.int 0)] (.int 0) := Arv.set Ar8 q8 S8 Nn8 H8 G8 (fits_nar_byte _) W8 2 rfl (Nat.le_of_ble_eq_true rfl)
  have f9 := f6.other W8 pr3
  have K8 : Keep h0 h8 [a3] := K5.wr W8 (Or.inl (List.mem_of_getElem? (i := 0) rfl))
  have Z8 := Nat.le_trans Z5 (Nat.le_of_eq W8.size.symm)
  have N8 := Fr.snoc X8 N5 g_a3
  refine own_s T8 (mkF m 32 #[rv a1, iv 2, rv a3, iv 2, iv 4, iv 2, iv ch2] []) st8 ?_
  refine own_s T8 (mkF m 11 #[rv a1, iv 3, rv a3, iv 3, iv 4, iv 3, iv ch2] [(.ref a1)]) (fun _ k => XS.iinc X8.here hx rfl (hb hby od_jdk_52_m_21_32) rfl (l' := #[rv a1, iv 3, rv a3, iv 2, iv 4, iv 2, iv ch2]) rfl (XS.iinc X8.here hx rfl (hb hby od_jdk_52_m_21_35) rfl (l' := #[rv a1, iv 3, rv a3, iv 3, iv 4, iv 2, iv ch2]) rfl (XS.iinc X8.here hx rfl (hb hby od_jdk_52_m_21_38) rfl (l' := #[rv a1, iv 3, rv a3, iv 3, iv 4, iv 3, iv ch2]) rfl (XS.goto X8.here hx rfl (pc0 := 41) (pc' := 3) rfl (hb hby od_jdk_52_m_21_41) (by decide) (by decide) (XS.iload X8.here hx rfl (hb hby od_jdk_52_m_21_3) rfl  (XS.iload X8.here hx rfl (hb hby od_jdk_52_m_21_5) rfl  (XS.icmpNo X8.here hx rfl (hb hby od_jdk_52_m_21_7) rfl (tlt (by decide : ((3 : Int32) < (4 : Int32)))).2.1 (XS.aloadN X8.here hx rfl (hb hby od_jdk_52_m_21_10) rfl rfl k)))))))) ?_
  refine own_s T8 (mkF m 12 #[rv a1, iv 3, rv a3, iv 3, iv 4, iv 3, iv ch2] [(.int 3), (.ref a1)]) (fun _ k => XS.iloadN X8.here hx rfl (hb hby od_jdk_52_m_21_11) rfl  k) ?_
  obtain ⟨cl10, Ar10, q10, S10, Nn10, H10, G10⟩ := id f9
  have hin10 : ¬ ((3 : Int32) < 0 ∨ cl10.slots.size ≤ ((3 : Int32)).toNatClampNeg) := (inb_of S10 ⟨by decide, by decide⟩)
  refine own_s T8 (mkF m 25 #[rv a1, iv 3, rv a3, iv 3, iv 4, iv 3, iv ch3] [(.int 3)]) (fun _ k => X8.caload hx (j := (3 : Int32)) (v := (.int ch3)) (own_at e8 Ar10.1) (State.isArrayOf_alike hZ.alike Ar10.2.1) Ar10.2.2 hin10 (Has.at H10 hin10 rfl) (g := (mkF m 12 #[rv a1, iv 3, rv a3, iv 3, iv 4, iv 3, iv ch2] [(.int 3), (.ref a1)])) rfl rfl (hb hby od_jdk_52_m_21_12) _ (XS.istore X8.here hx rfl (hb hby od_jdk_52_m_21_13) rfl (l' := #[rv a1, iv 3, rv a3, iv 3, iv 4, iv 3, iv ch3]) rfl (XS.iload X8.here hx rfl (hb hby od_jdk_52_m_21_15) rfl  (XS.sipush X8.here hx rfl (hb hby od_jdk_52_m_21_17) (XS.icmpNo X8.here hx rfl (hb hby od_jdk_52_m_21_20) rfl (tlt hk).2.2.2 (XS.iload X8.here hx rfl (hb hby od_jdk_52_m_21_23) rfl  k)))))) ?_
  exact own_finI X8 hx hret (hb hby od_jdk_52_m_21_25) (own_end (Qv := (own_Qcp2_3 Z a1 a3 ka ch0 ch1 ch2 ch3 kc h0 n0)) X8 (own_some hret) hlk (by decide) (by decide) e8 ⟨rfl, N8, K8⟩)
theorem own_efcp1_3 (m : MethodId) (x0 : Addr) (x1 : Int32) (x2 : Int32) : entryFrame m #[(.ref x0), (.int x1), (.int x2)] 6 = mkF m 0 #[rv x0, iv x1, iv x2, u_, u_, u_] [] := by first | (simp [entryFrame, mkF, argsToLocals, Value.category]; done) | rfl
def own_Qcp1_3 (Z : State) (a1 : Addr) (ka : ClassId) (ch0 : Int32) (ch1 : Int32) (ch2 : Int32) (ch3 : Int32) (h0 : Heap) (n0 : Nat) : Option Value → Heap → List Loc → Prop := fun v h L => ∃ (b : Addr) (k : ClassId), v = some (.ref b) ∧ Fr n0 L ∧ Keep h0 h [] ∧ n0 ≤ b ∧ h0.size ≤ b ∧ Arv Z h b k .byte (8 : Int32) [(.int (own_lo ch0)), (.int (own_hi ch0)), (.int (own_lo ch1)), (.int (own_hi ch1)), (.int (own_lo ch2)), (.int (own_hi ch2)), (.int (own_lo ch3)), (.int (own_hi ch3))] (.int 0)
def own_Rcp1_3 : Room := { frames := 3, cells := 2, slots := 12, locals := 40 }
set_option maxRecDepth 65536 in
set_option maxHeartbeats 40000000 in
theorem own_rmcp1_3 (l : Launch) (Z : State) (a0 : Array Value) (hw : ∀ d ∈ tables_1, d.before a0 Z = true) (ws : List Jvm.Cond) (a1 : Addr) (ka : ClassId) (ch0 : Int32) (ch1 : Int32) (ch2 : Int32) (ch3 : Int32) (h0 : Heap) (n0 : Nat) (Z0 : n0 ≤ h0.size) (pr0 : Arv Z h0 a1 ka .char (4 : Int32) [(.int ch0), (.int ch1), (.int ch2), (.int ch3)] (.int 0)) (pr1 : Sta Z h0 "java/lang/StringUTF16" "$assertionsDisabled" "Z" (.int 1)) (pr2 : Sta Z h0 "java/lang/StringUTF16" "HI_BYTE_SHIFT" "I" (.int 0)) (pr3 : Sta Z h0 "java/lang/StringUTF16" "LO_BYTE_SHIFT" "I" (.int 8)) (hc0 : ¬ (255 : Int32) < ch0) (hc1 : ¬ (255 : Int32) < ch1) (hc2 : ¬ (255 : Int32) < ch2) (hk : (255 : Int32) < ch3) (hr3 : own_Ch ch3) :
    own_Met l Z own_y1 jdk_52_method_16_code 6 (some (.array .byte)) ws own_Rcp1_3 h0 #[(.ref a1), (.int 0), (.int 4)] (own_Qcp1_3 Z a1 ka ch0 ch1 ch2 ch3 h0 n0) own_Rcp1_3.cells own_Rcp1_3.slots := by
  refine own_start (plainFor_of_name own_pn0) ?_
  intro p e s m below meth c s₁ X0 hx hZ hby hml hret hlk hown hnm e0
  have hown : s.vm.findClass "java/lang/StringUTF16" = some m.cls := hown
  have hml : c.maxLocals = 6 := hml
  have N0 := Fr.nil n0
  refine own_cast (own_efcp1_3 m a1 (0 : Int32) (4 : Int32)) ?_
  refine own_s s₁ (mkF m 1 #[rv a1, iv 0, iv 4, u_, u_, u_] [(.int 4)]) (fun _ k => XS.iloadN X0.here hx rfl (hb hby od_jdk_52_m_16_0) rfl  k) ?_
  obtain ⟨T1, h1, k1, X1, e1, E1, A1, st1⟩ := newP X0 hx hZ (own_h hw 21 rfl) e0 (g := (mkF m 1 #[rv a1, iv 0, iv 4, u_, u_, u_] [(.int 4)])) rfl (hb hby od_jdk_52_m_16_1) rfl (by decide) (cap := 4) (by decide) (by decide) (by decide) (by decide)
  obtain ⟨b1, g1⟩ : ∃ z, z = h0.size := ⟨_, rfl⟩
  have g_b1 : n0 ≤ b1 := Nat.le_trans Z0 (Nat.le_of_eq g1.symm)
  have sz_b1 : h0.size ≤ b1 := Nat.le_trans (Keep.refl h0 []).1 (Nat.le_of_eq g1.symm)
  rw [← g1] at A1 st1
  have f2 := pr0.ext E1
  have f3 := Sta.ext E1 pr1
  have f4 := Sta.ext E1 pr2
  have f5 := Sta.ext E1 pr3
  have K1 : Keep h0 h1 [] := (Keep.refl h0 []).ext E1
  have Z1 := Nat.le_trans Z0 E1.1
  have f1 : Arv Z h1 b1 k1 .byte 4 [(.int 0), (.int 0), (.int 0), (.int 0)] (.int 0) := (Arv.new A1 (by decide)).pad (pad_rep [] (.int 0) 4)
  refine own_s T1 (mkF m 3 #[rv a1, iv 0, iv 4, u_, u_, u_] [(.ref b1)]) st1 ?_
  refine own_s T1 (mkF m 9 #[rv a1, iv 0, iv 4, rv b1, u_, u_] [(.int 4), (.int 0), (.ref b1), (.int 0), (.ref a1)]) (fun _ k => XS.astoreN X1.here hx rfl (hb hby od_jdk_52_m_16_3) rfl rfl (l' := #[rv a1, iv 0, iv 4, rv b1, u_, u_]) rfl (XS.aloadN X1.here hx rfl (hb hby od_jdk_52_m_16_4) rfl rfl (XS.iloadN X1.here hx rfl (hb hby od_jdk_52_m_16_5) rfl  (XS.aloadN X1.here hx rfl (hb hby od_jdk_52_m_16_6) rfl rfl (XS.iconst X1.here hx rfl (hb hby od_jdk_52_m_16_7) (XS.iloadN X1.here hx rfl (hb hby od_jdk_52_m_16_8) rfl  k)))))) ?_
  obtain ⟨v6, T6, L6, X6, hQ6, st6⟩ := own_callS X1 hx hZ (y := own_y0) (W := 0) hown (own_h hw 22 rfl) (own_h hw 23 rfl) (own_h hw 19 rfl) (own_h hw 24 rfl) (by decide) (own_rmcp2_3 l Z a0 hw [] a1 b1 ka ch0 ch1 ch2 ch3 k1 h1 n0 Z1 g_b1 f2 f1 (own_nf pr0.lt g1) hc0 hc1 hc2 hk) (by decide) (by decide) (g := (mkF m 9 #[rv a1, iv 0, iv 4, rv b1, u_, u_] [(.int 4), (.int 0), (.ref b1), (.int 0), (.ref a1)])) rfl (by rw [hml]; rfl) (argsL := [(.ref a1), (.int 0), (.ref b1), (.int 0), (.int 4)]) (rest := []) rfl (lenOf own_pd0 rfl) rfl (by show 2 * 0 + _ ≤ _; exact Nat.le_of_eq rfl) (hb hby od_jdk_52_m_16_9) e1 (by decide) (by decide)
  obtain ⟨rfl, Nq6, Kq6⟩ := hQ6
  have N6 := Fr.app N0 Nq6
  have f7 := f2.keep Kq6 (ninS (own_nf pr0.lt g1) nin0)
  have f8 := own_staKeepW f3 Kq6 (allS f1.nostat all0)
  have f9 := own_staKeepW f4 Kq6 (allS f1.nostat all0)
  have f10 := own_staKeepW f5 Kq6 (allS f1.nostat all0)
  have K6 : Keep h0 T6.heap [] := K1.trans Kq6 (allS (Or.inr sz_b1) all0)
  have Z6 := Nat.le_trans Z1 Kq6.1
  refine own_s T6 (mkF m 12 #[rv a1, iv 0, iv 4, rv b1, u_, u_] [(.int 3)]) st6 ?_
  refine own_s T6 (mkF m 23 #[rv a1, iv 0, iv 4, rv b1, iv 3, u_] [(.int 4), (.int 0), (.ref a1)]) (fun _ k => XS.istore X6.here hx rfl (hb hby od_jdk_52_m_16_12) rfl (l' := #[rv a1, iv 0, iv 4, rv b1, iv 3, u_]) rfl (XS.iload X6.here hx rfl (hb hby od_jdk_52_m_16_14) rfl  (XS.iloadN X6.here hx rfl (hb hby od_jdk_52_m_16_16) rfl  (XS.icmpNo X6.here hx rfl (hb hby od_jdk_52_m_16_17) rfl (feq (by decide : ¬ ((3 : Int32) = (4 : Int32)))).1 (XS.aloadN X6.here hx rfl (hb hby od_jdk_52_m_16_20) rfl rfl (XS.iloadN X6.here hx rfl (hb hby od_jdk_52_m_16_21) rfl  (XS.iloadN X6.here hx rfl (hb hby od_jdk_52_m_16_22) rfl  k))))))) ?_
  obtain ⟨v11, T11, L11, X11, hQ11, st11⟩ := own_callS X6 hx hZ (y := own_y8) (W := 0) hown (own_h hw 36 rfl) (own_h hw 37 rfl) (own_h hw 19 rfl) (own_h hw 38 rfl) (by decide) (own_rmtb l Z a0 hw [] a1 ka ch0 ch1 ch2 ch3 T6.heap n0 Z6 f7 f8 f9 f10) (by decide) (by decide) (g := (mkF m 23 #[rv a1, iv 0, iv 4, rv b1, iv 3, u_] [(.int 4), (.int 0), (.ref a1)])) rfl (by rw [hml]; rfl) (argsL := [(.ref a1), (.int 0), (.int 4)]) (rest := []) rfl (lenOf own_pd1 rfl) rfl (by show 2 * 0 + _ ≤ _; exact Nat.le_of_eq rfl) (hb hby od_jdk_52_m_16_23) rfl (by decide) (by decide)
  obtain ⟨zb11, zk11, rfl, Nq11, Kq11, g_zb11, sq_zb11, q11_0⟩ := hQ11
  have N11 := Fr.app N6 Nq11
  have sz_zb11 : h0.size ≤ zb11 := Nat.le_trans K6.1 sq_zb11
  have f12 := f7.keep Kq11 nin0
  have f13 := own_staKeep f8 Kq11
  have f14 := own_staKeep f9 Kq11
  have f15 := own_staKeep f10 Kq11
  have K11 : Keep h0 T11.heap [] := K6.trans Kq11 all0
  have Z11 := Nat.le_trans Z6 Kq11.1
  refine own_s T11 (mkF m 26 #[rv a1, iv 0, iv 4, rv b1, iv 3, u_] [(.ref zb11)]) st11 ?_
  refine own_s T11 (mkF m 32 #[rv a1, iv 0, iv 4, rv b1, iv 3, rv zb11] [(.int 3), (.ref zb11)]) (fun _ k => XS.astore X11.here hx rfl (hb hby od_jdk_52_m_16_26) rfl rfl (l' := #[rv a1, iv 0, iv 4, rv b1, iv 3, rv zb11]) rfl (XS.aload X11.here hx rfl (hb hby od_jdk_52_m_16_28) rfl rfl (XS.iload X11.here hx rfl (hb hby od_jdk_52_m_16_30) rfl  k))) ?_
  obtain ⟨v16, T16, L16, X16, hQ16, st16⟩ := own_callS X11 hx hZ (y := own_y10) (W := 0) hown (own_h hw 52 rfl) (own_h hw 53 rfl) (own_h hw 19 rfl) (own_h hw 54 rfl) (by decide) (own_rmgc3 l Z a0 hw [] zb11 zk11 (.int (own_lo ch0)) (.int (own_hi ch0)) (.int (own_lo ch1)) (.int (own_hi ch1)) (.int (own_lo ch2)) (.int (own_hi ch2)) (own_lo ch3) (own_hi ch3) T11.heap n0 Z11 q11_0 f13 f14 f15) (by decide) (by decide) (g := (mkF m 32 #[rv a1, iv 0, iv 4, rv b1, iv 3, rv zb11] [(.int 3), (.ref zb11)])) rfl (by rw [hml]; rfl) (argsL := [(.ref zb11), (.int 3)]) (rest := []) rfl (lenOf own_pd7 rfl) rfl (by show 2 * 0 + _ ≤ _; exact Nat.le_of_eq rfl) (hb hby od_jdk_52_m_16_32) rfl (by decide) (by decide)
  obtain ⟨rfl, Nq16, e16⟩ := hQ16
  have N16 := Fr.app N11 Nq16
  refine own_s T16 (mkF m 35 #[rv a1, iv 0, iv 4, rv b1, iv 3, rv zb11] [(.int (nar .char (((((own_lo ch3) &&& (255 : Int32)) <<< ((0 : Int32) &&& 31)) ||| (((own_hi ch3) &&& (255 : Int32)) <<< ((8 : Int32) &&& 31))).toUInt32.toUInt16.toUInt32.toInt32)))]) st16 ?_
  refine own_s T16 (mkF m 56 #[rv a1, iv 0, iv 4, rv b1, iv 3, rv zb11] [(.ref zb11)]) (fun _ k => XS.sipush X16.here hx rfl (hb hby od_jdk_52_m_16_35) (XS.icmpYes X16.here hx rfl (pc0 := 38) (pc' := 54) rfl (hb hby od_jdk_52_m_16_38) rfl (tlt (by rw [own_utfC hr3]; exact hk)).2.2.1 (by decide) (by decide) (XS.aload X16.here hx rfl (hb hby od_jdk_52_m_16_54) rfl rfl k))) ?_
  exact own_finA X16 hx hret rfl rfl (hb hby od_jdk_52_m_16_56) (own_end (Qv := (own_Qcp1_3 Z a1 ka ch0 ch1 ch2 ch3 h0 n0)) X16 (own_some hret) hlk (by decide) (by decide) e16 ⟨zb11, zk11, rfl, N16, K11, g_zb11, sz_zb11, q11_0⟩)
theorem own_efcfu (m : MethodId) (x0 : Addr) (x1 : Int32) : entryFrame m #[(.ref x0), (.int x1)] 2 = mkF m 0 #[rv x0, iv x1] [] := by first | (simp [entryFrame, mkF, argsToLocals, Value.category]; done) | rfl
def own_Qcfu (Z : State) (a1 : Addr) (kb : ClassId) (vs : List Value) (h0 : Heap) (n0 : Nat) : Option Value → Heap → List Loc → Prop := fun v h L => v = some (.int 1) ∧ Fr n0 L ∧ h = h0
def own_Rcfu : Room := { frames := 0, cells := 0, slots := 0, locals := 0 }
set_option maxRecDepth 65536 in
set_option maxHeartbeats 40000000 in
theorem own_rmcfu (l : Launch) (Z : State) (a0 : Array Value) (hw : ∀ d ∈ tables_1, d.before a0 Z = true) (ws : List Jvm.Cond) (a1 : Addr) (kb : ClassId) (vs : List Value) (h0 : Heap) (n0 : Nat) (Z0 : n0 ≤ h0.size) (pr0 : Arv Z h0 a1 kb .byte (8 : Int32) vs (.int 0)) :
    own_Met l Z own_y2 jdk_52_method_15_code 2 (some .byte) ws own_Rcfu h0 #[(.ref a1), (.int 4)] (own_Qcfu Z a1 kb vs h0 n0) own_Rcfu.cells own_Rcfu.slots := by
  refine own_start (plainFor_of_name own_pn0) ?_
  intro p e s m below meth c s₁ X0 hx hZ hby hml hret hlk hown hnm e0
  have hown : s.vm.findClass "java/lang/StringUTF16" = some m.cls := hown
  have hml : c.maxLocals = 2 := hml
  have N0 := Fr.nil n0
  refine own_cast (own_efcfu m a1 (4 : Int32)) ?_
  refine own_s s₁ (mkF m 2 #[rv a1, iv 4] [(.ref a1), (.int 4)]) (fun _ k => XS.iloadN X0.here hx rfl (hb hby od_jdk_52_m_15_0) rfl  (XS.aloadN X0.here hx rfl (hb hby od_jdk_52_m_15_1) rfl rfl k)) ?_
  obtain ⟨cl1, Ar1, q1, S1, Nn1, H1, G1⟩ := id pr0
  refine own_s s₁ (mkF m 8 #[rv a1, iv 4] [(.int ((((-4 : Int32).toUInt32 >>> ((31 : Int32) &&& 31).toUInt32).toInt32).toInt8.toInt32))]) (fun _ k => own_len X0 hx hZ e0 Ar1 S1 Nn1 (g := (mkF m 2 #[rv a1, iv 4] [(.ref a1), (.int 4)])) rfl rfl (hb hby od_jdk_52_m_15_2) (XS.isub X0.here hx rfl (hb hby od_jdk_52_m_15_3) rfl (XS.bipush X0.here hx rfl (hb hby od_jdk_52_m_15_4) (XS.iushr X0.here hx rfl (hb hby od_jdk_52_m_15_6) rfl (XS.i2b X0.here hx rfl (hb hby od_jdk_52_m_15_7) rfl k))))) ?_
  exact own_finZ X0 hx (t := .byte) hret (by simp) (z' := (1 : Int32)) (by decide) (hb hby od_jdk_52_m_15_8) (own_end (Qv := (own_Qcfu Z a1 kb vs h0 n0)) X0 (own_some hret) hlk (by decide) (by decide) e0 ⟨rfl, N0, rfl⟩)
theorem own_efsi4u (m : MethodId) (x0 : Addr) (x1 : Addr) (x2 : Int32) (x3 : Int32) : entryFrame m #[(.ref x0), (.ref x1), (.int x2), (.int x3), .null] 6 = mkF m 0 #[rv x0, rv x1, iv x2, iv x3, .val .null, u_] [] := by first | (simp [entryFrame, mkF, argsToLocals, Value.category]; done) | rfl
def own_Qsi4u (Z : State) (a1 : Addr) (a2 : Addr) (ka : ClassId) (ch0 : Int32) (ch1 : Int32) (ch2 : Int32) (ch3 : Int32) (gC : Int32) (h0 : Heap) (n0 : Nat) : Option Value → Heap → List Loc → Prop := fun v h L => ∃ (b : Addr) (k : ClassId), v = none ∧ Fr n0 L ∧ Keep h0 h [a1] ∧ n0 ≤ b ∧ h0.size ≤ b ∧ Exa Z h a1 "java/lang/String" ∧ Fld Z h a1 "java/lang/String" "coder" "B" (.int 1) ∧ Fld Z h a1 "java/lang/String" "value" "[B" (.ref b) ∧ Arv Z h b k .byte (8 : Int32) [(.int (own_lo ch0)), (.int (own_hi ch0)), (.int (own_lo ch1)), (.int (own_hi ch1)), (.int (own_lo ch2)), (.int (own_hi ch2)), (.int (own_lo ch3)), (.int (own_hi ch3))] (.int 0)
def own_Rsi4u : Room := { frames := 4, cells := 2, slots := 12, locals := 57 }
set_option maxRecDepth 65536 in
set_option maxHeartbeats 40000000 in
theorem own_rmsi4u (l : Launch) (Z : State) (a0 : Array Value) (hw : ∀ d ∈ tables_1, d.before a0 Z = true) (ws : List Jvm.Cond) (a1 : Addr) (a2 : Addr) (ka : ClassId) (ch0 : Int32) (ch1 : Int32) (ch2 : Int32) (ch3 : Int32) (gC : Int32) (h0 : Heap) (n0 : Nat) (Z0 : n0 ≤ h0.size) (g_a1 : n0 ≤ a1) (pr1 : Exa Z h0 a1 "java/lang/String") (pr2 : Fld Z h0 a1 "java/lang/String" "coder" "B" (.int 0)) (pr3 : Fld Z h0 a1 "java/lang/String" "value" "[B" .null) (pr4 : Arv Z h0 a2 ka .char (4 : Int32) [(.int ch0), (.int ch1), (.int ch2), (.int ch3)] (.int 0)) (pr5 : a1 ≠ a2) (pr6 : Sta Z h0 "java/lang/String" "COMPACT_STRINGS" "Z" (.int gC)) (hG : ¬ gC = (0 : Int32)) (pr8 : Sta Z h0 "java/lang/StringUTF16" "$assertionsDisabled" "Z" (.int 1)) (pr9 : Sta Z h0 "java/lang/StringUTF16" "HI_BYTE_SHIFT" "I" (.int 0)) (pr10 : Sta Z h0 "java/lang/StringUTF16" "LO_BYTE_SHIFT" "I" (.int 8)) (hr0 : own_Ch ch0) (hr1 : own_Ch ch1) (hr2 : own_Ch ch2) (hr3 : own_Ch ch3) (hU : ((255 : Int32) < ch0 ∨ (¬ (255 : Int32) < ch0 ∧ (255 : Int32) < ch1) ∨ (¬ (255 : Int32) < ch0 ∧ ¬ (255 : Int32) < ch1 ∧ (255 : Int32) < ch2) ∨ (¬ (255 : Int32) < ch0 ∧ ¬ (255 : Int32) < ch1 ∧ ¬ (255 : Int32) < ch2 ∧ (255 : Int32) < ch3))) :
    own_Met l Z own_y3 jdk_42_method_149_code 6 none ws own_Rsi4u h0 #[(.ref a1), (.ref a2), (.int 0), (.int 4), .null] (own_Qsi4u Z a1 a2 ka ch0 ch1 ch2 ch3 gC h0 n0) own_Rsi4u.cells own_Rsi4u.slots := by
  refine own_start (plainFor_of_name own_pn1) ?_
  intro p e s m below meth c s₁ X0 hx hZ hby hml hret hlk hown hnm e0
  have hown : s.vm.findClass "java/lang/String" = some m.cls := hown
  have hml : c.maxLocals = 6 := hml
  have N0 := Fr.nil n0
  refine own_cast (own_efsi4u m a1 a2 (0 : Int32) (4 : Int32)) ?_
  refine own_s s₁ (mkF m 1 #[rv a1, rv a2, iv 0, iv 4, .val .null, u_] [(.ref a1)]) (fun _ k => XS.aloadN X0.here hx rfl (hb hby od_jdk_42_m_149_0) rfl rfl k) ?_
  obtain ⟨T1, X1, e1, st1⟩ := initO X0 hx hZ hown (own_h hw 13 rfl) (own_h hw 14 rfl) (own_h hw 15 rfl) e0 (g := (mkF m 1 #[rv a1, rv a2, iv 0, iv 4, .val .null, u_] [(.ref a1)])) rfl (by rw [hml]; rfl) rfl (hb hby od_jdk_42_m_149_1) (by decide) (W := 0) (by show 2 * 0 + _ ≤ _; exact Nat.le_of_eq rfl) (by decide)
  refine own_s T1 (mkF m 4 #[rv a1, rv a2, iv 0, iv 4, .val .null, u_] []) st1 ?_
  refine own_s T1 (mkF m 27 #[rv a1, rv a2, iv 0, iv 4, .val .null, u_] []) (fun _ k => XS.iloadN X1.here hx rfl (hb hby od_jdk_42_m_149_4) rfl  (XS.ifYes X1.here hx rfl (pc0 := 5) (pc' := 27) rfl (hb hby od_jdk_42_m_149_5) rfl ((if0 _ _).trans (feq (by decide : ¬ ((4 : Int32) = (0 : Int32)))).2) (by decide) (by decide) k)) ?_
  obtain ⟨T2, X2, e2, st2⟩ := getS2 X1 hx hZ hown (host := "") (Or.inl (own_h hw 16 rfl)) Via.refl e1 pr6 (g := (mkF m 27 #[rv a1, rv a2, iv 0, iv 4, .val .null, u_] [])) rfl (hb hby od_jdk_42_m_149_27)
  refine own_s T2 (mkF m 30 #[rv a1, rv a2, iv 0, iv 4, .val .null, u_] [(.int gC)]) st2 ?_
  refine own_s T2 (mkF m 36 #[rv a1, rv a2, iv 0, iv 4, .val .null, u_] [(.int 4), (.int 0), (.ref a2)]) (fun _ k => XS.ifNo X2.here hx rfl (hb hby od_jdk_42_m_149_30) rfl ((if0 _ _).trans (feq hG).1) (XS.aloadN X2.here hx rfl (hb hby od_jdk_42_m_149_33) rfl rfl (XS.iloadN X2.here hx rfl (hb hby od_jdk_42_m_149_34) rfl  (XS.iloadN X2.here hx rfl (hb hby od_jdk_42_m_149_35) rfl  k)))) ?_
  rcases hU with hk | ⟨hc0, hk⟩ | ⟨hc0, hc1, hk⟩ | ⟨hc0, hc1, hc2, hk⟩
  · obtain ⟨v3, T3, L3, X3, hQ3, st3⟩ := own_callS X2 hx hZ (y := own_y1) (W := 0) hown (own_h hw 17 rfl) (own_h hw 18 rfl) (own_h hw 19 rfl) (own_h hw 20 rfl) (by decide) (own_rmcp1_0 l Z a0 hw [] a2 ka ch0 ch1 ch2 ch3 h0 n0 Z0 pr4 pr8 pr9 pr10 hk hr0) (by decide) (by decide) (g := (mkF m 36 #[rv a1, rv a2, iv 0, iv 4, .val .null, u_] [(.int 4), (.int 0), (.ref a2)])) rfl (by rw [hml]; rfl) (argsL := [(.ref a2), (.int 0), (.int 4)]) (rest := []) rfl (lenOf own_pd1 rfl) rfl (by show 2 * 0 + _ ≤ _; exact Nat.le_of_eq rfl) (hb hby od_jdk_42_m_149_36) e2 (by decide) (by decide)
    obtain ⟨zb3, zk3, rfl, Nq3, Kq3, g_zb3, sq_zb3, q3_0⟩ := hQ3
    have N3 := Fr.app N0 Nq3
    have sz_zb3 : h0.size ≤ zb3 := Nat.le_trans (Keep.refl h0 [a1]).1 sq_zb3
    have f4 := pr1.keep Kq3
    have f5 := pr2.keep Kq3 nin0
    have f6 := pr3.keep Kq3 nin0
    have f7 := pr4.keep Kq3 nin0
    have f8 := own_staKeep pr6 Kq3
    have f9 := own_staKeep pr8 Kq3
    have f10 := own_staKeep pr9 Kq3
    have f11 := own_staKeep pr10 Kq3
    have K3 : Keep h0 T3.heap [a1] := (Keep.refl h0 [a1]).trans Kq3 all0
    have Z3 := Nat.le_trans Z0 Kq3.1
    refine own_s T3 (mkF m 39 #[rv a1, rv a2, iv 0, iv 4, .val .null, u_] [(.ref zb3)]) st3 ?_
    refine own_s T3 (mkF m 45 #[rv a1, rv a2, iv 0, iv 4, .val .null, rv zb3] [(.int 4), (.ref zb3), (.ref a1)]) (fun _ k => XS.astore X3.here hx rfl (hb hby od_jdk_42_m_149_39) rfl rfl (l' := #[rv a1, rv a2, iv 0, iv 4, .val .null, rv zb3]) rfl (XS.aloadN X3.here hx rfl (hb hby od_jdk_42_m_149_41) rfl rfl (XS.aload X3.here hx rfl (hb hby od_jdk_42_m_149_42) rfl rfl (XS.iloadN X3.here hx rfl (hb hby od_jdk_42_m_149_44) rfl  k)))) ?_
    obtain ⟨v12, T12, L12, X12, hQ12, st12⟩ := own_callS X3 hx hZ (y := own_y2) (W := 1) hown (own_h hw 25 rfl) (own_h hw 26 rfl) (own_h hw 19 rfl) (own_h hw 27 rfl) (by decide) (own_rmcfu l Z a0 hw [] zb3 zk3 [(.int (own_lo ch0)), (.int (own_hi ch0)), (.int (own_lo ch1)), (.int (own_hi ch1)), (.int (own_lo ch2)), (.int (own_hi ch2)), (.int (own_lo ch3)), (.int (own_hi ch3))] T3.heap n0 Z3 q3_0) (by decide) (by decide) (g := (mkF m 45 #[rv a1, rv a2, iv 0, iv 4, .val .null, rv zb3] [(.int 4), (.ref zb3), (.ref a1)])) rfl (by rw [hml]; rfl) (argsL := [(.ref zb3), (.int 4)]) (rest := [(.ref a1)]) rfl (lenOf own_pd2 rfl) rfl (by show 2 * 0 + _ ≤ _; exact Nat.le_of_eq rfl) (hb hby od_jdk_42_m_149_45) rfl (by decide) (by decide)
    obtain ⟨rfl, Nq12, e12⟩ := hQ12
    have N12 := Fr.app N3 Nq12
    refine own_s T12 (mkF m 48 #[rv a1, rv a2, iv 0, iv 4, .val .null, rv zb3] [(.int 1), (.ref a1)]) st12 ?_
    obtain ⟨T13, h13, X13, e13, W13, st13⟩ := putFN X12 hx hZ hown (own_h hw 28 rfl) Via.refl e12 f5 f4 (Or.inr ⟨(own_h hw 29 rfl), rfl, hnm⟩) (own_h hw 4 rfl) (ty := .byte) (v' := (.int 1)) (by decide) rfl rfl (g := (mkF m 48 #[rv a1, rv a2, iv 0, iv 4, .val .null, rv zb3] [(.int 1), (.ref a1)])) rfl rfl (hb hby od_jdk_42_m_149_48)
    have Fw13 := Fld.same W13 f5
    have f14 := Exa.wr W13 f4
    have f15 := Fld.other W13 f6 (Or.inr (slot_ne (Or.inr (own_h hw 31 rfl)) (Or.inr (own_h hw 29 rfl)) (by decide) (t := (.array .byte)) (t' := .byte) (by decide) (by decide)))
    have f16 := f7.other W13 (Ne.symm pr5)
    have f17 := Sta.wr W13 f8
    have f18 := Sta.wr W13 f9
    have f19 := Sta.wr W13 f10
    have f20 := Sta.wr W13 f11
    have f21 := q3_0.other W13 (Ne.symm (own_nl pr1.lt sq_zb3))
    have K13 : Keep h0 h13 [a1] := K3.wr W13 (Or.inl (List.mem_of_getElem? (i := 0) rfl))
    have Z13 := Nat.le_trans Z3 (Nat.le_of_eq W13.size.symm)
    have N13 := Fr.snoc X13 N12 g_a1
    refine own_s T13 (mkF m 51 #[rv a1, rv a2, iv 0, iv 4, .val .null, rv zb3] []) st13 ?_
    refine own_s T13 (mkF m 54 #[rv a1, rv a2, iv 0, iv 4, .val .null, rv zb3] [(.ref zb3), (.ref a1)]) (fun _ k => XS.aloadN X13.here hx rfl (hb hby od_jdk_42_m_149_51) rfl rfl (XS.aload X13.here hx rfl (hb hby od_jdk_42_m_149_52) rfl rfl k)) ?_
    obtain ⟨T22, h22, X22, e22, W22, st22⟩ := putF X13 hx hZ hown (host := "") (Or.inl (own_h hw 30 rfl)) Via.refl e13 f15 f14 (Or.inr ⟨(own_h hw 31 rfl), rfl, hnm⟩) (own_h hw 4 rfl) (ty := (.array .byte)) (by decide) rfl rfl (g := (mkF m 54 #[rv a1, rv a2, iv 0, iv 4, .val .null, rv zb3] [(.ref zb3), (.ref a1)])) rfl rfl (hb hby od_jdk_42_m_149_54)
    have Fw22 := Fld.same W22 f15
    have f23 := Exa.wr W22 f14
    have f24 := Fld.other W22 Fw13 (Or.inr (slot_ne (Or.inr (own_h hw 29 rfl)) (Or.inr (own_h hw 31 rfl)) (by decide) (t := .byte) (t' := (.array .byte)) (by decide) (by decide)))
    have f25 := f16.other W22 (Ne.symm pr5)
    have f26 := Sta.wr W22 f17
    have f27 := Sta.wr W22 f18
    have f28 := Sta.wr W22 f19
    have f29 := Sta.wr W22 f20
    have f30 := f21.other W22 (Ne.symm (own_nl pr1.lt sq_zb3))
    have K22 : Keep h0 h22 [a1] := K13.wr W22 (Or.inl (List.mem_of_getElem? (i := 0) rfl))
    have Z22 := Nat.le_trans Z13 (Nat.le_of_eq W22.size.symm)
    have N22 := Fr.snoc X22 N13 g_a1
    refine own_s T22 (mkF m 57 #[rv a1, rv a2, iv 0, iv 4, .val .null, rv zb3] []) st22 ?_
    exact own_finV X22 hx hret (hb hby od_jdk_42_m_149_57) (own_end (Qv := (own_Qsi4u Z a1 a2 ka ch0 ch1 ch2 ch3 gC h0 n0)) X22 (fun _ => rfl) hlk (by decide) (by decide) e22 ⟨zb3, zk3, rfl, N22, K22, g_zb3, sz_zb3, f23, f24, Fw22, f30⟩)
  · obtain ⟨v31, T31, L31, X31, hQ31, st31⟩ := own_callS X2 hx hZ (y := own_y1) (W := 0) hown (own_h hw 17 rfl) (own_h hw 18 rfl) (own_h hw 19 rfl) (own_h hw 20 rfl) (by decide) (own_rmcp1_1 l Z a0 hw [] a2 ka ch0 ch1 ch2 ch3 h0 n0 Z0 pr4 pr8 pr9 pr10 hc0 hk hr1) (by decide) (by decide) (g := (mkF m 36 #[rv a1, rv a2, iv 0, iv 4, .val .null, u_] [(.int 4), (.int 0), (.ref a2)])) rfl (by rw [hml]; rfl) (argsL := [(.ref a2), (.int 0), (.int 4)]) (rest := []) rfl (lenOf own_pd1 rfl) rfl (by show 2 * 0 + _ ≤ _; exact Nat.le_of_eq rfl) (hb hby od_jdk_42_m_149_36) e2 (by decide) (by decide)
    obtain ⟨zb31, zk31, rfl, Nq31, Kq31, g_zb31, sq_zb31, q31_0⟩ := hQ31
    have N31 := Fr.app N0 Nq31
    have sz_zb31 : h0.size ≤ zb31 := Nat.le_trans (Keep.refl h0 [a1]).1 sq_zb31
    have f32 := pr1.keep Kq31
    have f33 := pr2.keep Kq31 nin0
    have f34 := pr3.keep Kq31 nin0
    have f35 := pr4.keep Kq31 nin0
    have f36 := own_staKeep pr6 Kq31
    have f37 := own_staKeep pr8 Kq31
    have f38 := own_staKeep pr9 Kq31
    have f39 := own_staKeep pr10 Kq31
    have K31 : Keep h0 T31.heap [a1] := (Keep.refl h0 [a1]).trans Kq31 all0
    have Z31 := Nat.le_trans Z0 Kq31.1
    refine own_s T31 (mkF m 39 #[rv a1, rv a2, iv 0, iv 4, .val .null, u_] [(.ref zb31)]) st31 ?_
    refine own_s T31 (mkF m 45 #[rv a1, rv a2, iv 0, iv 4, .val .null, rv zb31] [(.int 4), (.ref zb31), (.ref a1)]) (fun _ k => XS.astore X31.here hx rfl (hb hby od_jdk_42_m_149_39) rfl rfl (l' := #[rv a1, rv a2, iv 0, iv 4, .val .null, rv zb31]) rfl (XS.aloadN X31.here hx rfl (hb hby od_jdk_42_m_149_41) rfl rfl (XS.aload X31.here hx rfl (hb hby od_jdk_42_m_149_42) rfl rfl (XS.iloadN X31.here hx rfl (hb hby od_jdk_42_m_149_44) rfl  k)))) ?_
    obtain ⟨v40, T40, L40, X40, hQ40, st40⟩ := own_callS X31 hx hZ (y := own_y2) (W := 1) hown (own_h hw 25 rfl) (own_h hw 26 rfl) (own_h hw 19 rfl) (own_h hw 27 rfl) (by decide) (own_rmcfu l Z a0 hw [] zb31 zk31 [(.int (own_lo ch0)), (.int (own_hi ch0)), (.int (own_lo ch1)), (.int (own_hi ch1)), (.int (own_lo ch2)), (.int (own_hi ch2)), (.int (own_lo ch3)), (.int (own_hi ch3))] T31.heap n0 Z31 q31_0) (by decide) (by decide) (g := (mkF m 45 #[rv a1, rv a2, iv 0, iv 4, .val .null, rv zb31] [(.int 4), (.ref zb31), (.ref a1)])) rfl (by rw [hml]; rfl) (argsL := [(.ref zb31), (.int 4)]) (rest := [(.ref a1)]) rfl (lenOf own_pd2 rfl) rfl (by show 2 * 0 + _ ≤ _; exact Nat.le_of_eq rfl) (hb hby od_jdk_42_m_149_45) rfl (by decide) (by decide)
    obtain ⟨rfl, Nq40, e40⟩ := hQ40
    have N40 := Fr.app N31 Nq40
    refine own_s T40 (mkF m 48 #[rv a1, rv a2, iv 0, iv 4, .val .null, rv zb31] [(.int 1), (.ref a1)]) st40 ?_
    obtain ⟨T41, h41, X41, e41, W41, st41⟩ := putFN X40 hx hZ hown (own_h hw 28 rfl) Via.refl e40 f33 f32 (Or.inr ⟨(own_h hw 29 rfl), rfl, hnm⟩) (own_h hw 4 rfl) (ty := .byte) (v' := (.int 1)) (by decide) rfl rfl (g := (mkF m 48 #[rv a1, rv a2, iv 0, iv 4, .val .null, rv zb31] [(.int 1), (.ref a1)])) rfl rfl (hb hby od_jdk_42_m_149_48)
    have Fw41 := Fld.same W41 f33
    have f42 := Exa.wr W41 f32
    have f43 := Fld.other W41 f34 (Or.inr (slot_ne (Or.inr (own_h hw 31 rfl)) (Or.inr (own_h hw 29 rfl)) (by decide) (t := (.array .byte)) (t' := .byte) (by decide) (by decide)))
    have f44 := f35.other W41 (Ne.symm pr5)
    have f45 := Sta.wr W41 f36
    have f46 := Sta.wr W41 f37
    have f47 := Sta.wr W41 f38
    have f48 := Sta.wr W41 f39
    have f49 := q31_0.other W41 (Ne.symm (own_nl pr1.lt sq_zb31))
    have K41 : Keep h0 h41 [a1] := K31.wr W41 (Or.inl (List.mem_of_getElem? (i := 0) rfl))
    have Z41 := Nat.le_trans Z31 (Nat.le_of_eq W41.size.symm)
    have N41 := Fr.snoc X41 N40 g_a1
    refine own_s T41 (mkF m 51 #[rv a1, rv a2, iv 0, iv 4, .val .null, rv zb31] []) st41 ?_
    refine own_s T41 (mkF m 54 #[rv a1, rv a2, iv 0, iv 4, .val .null, rv zb31] [(.ref zb31), (.ref a1)]) (fun _ k => XS.aloadN X41.here hx rfl (hb hby od_jdk_42_m_149_51) rfl rfl (XS.aload X41.here hx rfl (hb hby od_jdk_42_m_149_52) rfl rfl k)) ?_
    obtain ⟨T50, h50, X50, e50, W50, st50⟩ := putF X41 hx hZ hown (host := "") (Or.inl (own_h hw 30 rfl)) Via.refl e41 f43 f42 (Or.inr ⟨(own_h hw 31 rfl), rfl, hnm⟩) (own_h hw 4 rfl) (ty := (.array .byte)) (by decide) rfl rfl (g := (mkF m 54 #[rv a1, rv a2, iv 0, iv 4, .val .null, rv zb31] [(.ref zb31), (.ref a1)])) rfl rfl (hb hby od_jdk_42_m_149_54)
    have Fw50 := Fld.same W50 f43
    have f51 := Exa.wr W50 f42
    have f52 := Fld.other W50 Fw41 (Or.inr (slot_ne (Or.inr (own_h hw 29 rfl)) (Or.inr (own_h hw 31 rfl)) (by decide) (t := .byte) (t' := (.array .byte)) (by decide) (by decide)))
    have f53 := f44.other W50 (Ne.symm pr5)
    have f54 := Sta.wr W50 f45
    have f55 := Sta.wr W50 f46
    have f56 := Sta.wr W50 f47
    have f57 := Sta.wr W50 f48
    have f58 := f49.other W50 (Ne.symm (own_nl pr1.lt sq_zb31))
    have K50 : Keep h0 h50 [a1] := K41.wr W50 (Or.inl (List.mem_of_getElem? (i := 0) rfl))
    have Z50 := Nat.le_trans Z41 (Nat.le_of_eq W50.size.symm)
    have N50 := Fr.snoc X50 N41 g_a1
    refine own_s T50 (mkF m 57 #[rv a1, rv a2, iv 0, iv 4, .val .null, rv zb31] []) st50 ?_
    exact own_finV X50 hx hret (hb hby od_jdk_42_m_149_57) (own_end (Qv := (own_Qsi4u Z a1 a2 ka ch0 ch1 ch2 ch3 gC h0 n0)) X50 (fun _ => rfl) hlk (by decide) (by decide) e50 ⟨zb31, zk31, rfl, N50, K50, g_zb31, sz_zb31, f51, f52, Fw50, f58⟩)
  · obtain ⟨v59, T59, L59, X59, hQ59, st59⟩ := own_callS X2 hx hZ (y := own_y1) (W := 0) hown (own_h hw 17 rfl) (own_h hw 18 rfl) (own_h hw 19 rfl) (own_h hw 20 rfl) (by decide) (own_rmcp1_2 l Z a0 hw [] a2 ka ch0 ch1 ch2 ch3 h0 n0 Z0 pr4 pr8 pr9 pr10 hc0 hc1 hk hr2) (by decide) (by decide) (g := (mkF m 36 #[rv a1, rv a2, iv 0, iv 4, .val .null, u_] [(.int 4), (.int 0), (.ref a2)])) rfl (by rw [hml]; rfl) (argsL := [(.ref a2), (.int 0), (.int 4)]) (rest := []) rfl (lenOf own_pd1 rfl) rfl (by show 2 * 0 + _ ≤ _; exact Nat.le_of_eq rfl) (hb hby od_jdk_42_m_149_36) e2 (by decide) (by decide)
    obtain ⟨zb59, zk59, rfl, Nq59, Kq59, g_zb59, sq_zb59, q59_0⟩ := hQ59
    have N59 := Fr.app N0 Nq59
    have sz_zb59 : h0.size ≤ zb59 := Nat.le_trans (Keep.refl h0 [a1]).1 sq_zb59
    have f60 := pr1.keep Kq59
    have f61 := pr2.keep Kq59 nin0
    have f62 := pr3.keep Kq59 nin0
    have f63 := pr4.keep Kq59 nin0
    have f64 := own_staKeep pr6 Kq59
    have f65 := own_staKeep pr8 Kq59
    have f66 := own_staKeep pr9 Kq59
    have f67 := own_staKeep pr10 Kq59
    have K59 : Keep h0 T59.heap [a1] := (Keep.refl h0 [a1]).trans Kq59 all0
    have Z59 := Nat.le_trans Z0 Kq59.1
    refine own_s T59 (mkF m 39 #[rv a1, rv a2, iv 0, iv 4, .val .null, u_] [(.ref zb59)]) st59 ?_
    refine own_s T59 (mkF m 45 #[rv a1, rv a2, iv 0, iv 4, .val .null, rv zb59] [(.int 4), (.ref zb59), (.ref a1)]) (fun _ k => XS.astore X59.here hx rfl (hb hby od_jdk_42_m_149_39) rfl rfl (l' := #[rv a1, rv a2, iv 0, iv 4, .val .null, rv zb59]) rfl (XS.aloadN X59.here hx rfl (hb hby od_jdk_42_m_149_41) rfl rfl (XS.aload X59.here hx rfl (hb hby od_jdk_42_m_149_42) rfl rfl (XS.iloadN X59.here hx rfl (hb hby od_jdk_42_m_149_44) rfl  k)))) ?_
    obtain ⟨v68, T68, L68, X68, hQ68, st68⟩ := own_callS X59 hx hZ (y := own_y2) (W := 1) hown (own_h hw 25 rfl) (own_h hw 26 rfl) (own_h hw 19 rfl) (own_h hw 27 rfl) (by decide) (own_rmcfu l Z a0 hw [] zb59 zk59 [(.int (own_lo ch0)), (.int (own_hi ch0)), (.int (own_lo ch1)), (.int (own_hi ch1)), (.int (own_lo ch2)), (.int (own_hi ch2)), (.int (own_lo ch3)), (.int (own_hi ch3))] T59.heap n0 Z59 q59_0) (by decide) (by decide) (g := (mkF m 45 #[rv a1, rv a2, iv 0, iv 4, .val .null, rv zb59] [(.int 4), (.ref zb59), (.ref a1)])) rfl (by rw [hml]; rfl) (argsL := [(.ref zb59), (.int 4)]) (rest := [(.ref a1)]) rfl (lenOf own_pd2 rfl) rfl (by show 2 * 0 + _ ≤ _; exact Nat.le_of_eq rfl) (hb hby od_jdk_42_m_149_45) rfl (by decide) (by decide)
    obtain ⟨rfl, Nq68, e68⟩ := hQ68
    have N68 := Fr.app N59 Nq68
    refine own_s T68 (mkF m 48 #[rv a1, rv a2, iv 0, iv 4, .val .null, rv zb59] [(.int 1), (.ref a1)]) st68 ?_
    obtain ⟨T69, h69, X69, e69, W69, st69⟩ := putFN X68 hx hZ hown (own_h hw 28 rfl) Via.refl e68 f61 f60 (Or.inr ⟨(own_h hw 29 rfl), rfl, hnm⟩) (own_h hw 4 rfl) (ty := .byte) (v' := (.int 1)) (by decide) rfl rfl (g := (mkF m 48 #[rv a1, rv a2, iv 0, iv 4, .val .null, rv zb59] [(.int 1), (.ref a1)])) rfl rfl (hb hby od_jdk_42_m_149_48)
    have Fw69 := Fld.same W69 f61
    have f70 := Exa.wr W69 f60
    have f71 := Fld.other W69 f62 (Or.inr (slot_ne (Or.inr (own_h hw 31 rfl)) (Or.inr (own_h hw 29 rfl)) (by decide) (t := (.array .byte)) (t' := .byte) (by decide) (by decide)))
    have f72 := f63.other W69 (Ne.symm pr5)
    have f73 := Sta.wr W69 f64
    have f74 := Sta.wr W69 f65
    have f75 := Sta.wr W69 f66
    have f76 := Sta.wr W69 f67
    have f77 := q59_0.other W69 (Ne.symm (own_nl pr1.lt sq_zb59))
    have K69 : Keep h0 h69 [a1] := K59.wr W69 (Or.inl (List.mem_of_getElem? (i := 0) rfl))
    have Z69 := Nat.le_trans Z59 (Nat.le_of_eq W69.size.symm)
    have N69 := Fr.snoc X69 N68 g_a1
    refine own_s T69 (mkF m 51 #[rv a1, rv a2, iv 0, iv 4, .val .null, rv zb59] []) st69 ?_
    refine own_s T69 (mkF m 54 #[rv a1, rv a2, iv 0, iv 4, .val .null, rv zb59] [(.ref zb59), (.ref a1)]) (fun _ k => XS.aloadN X69.here hx rfl (hb hby od_jdk_42_m_149_51) rfl rfl (XS.aload X69.here hx rfl (hb hby od_jdk_42_m_149_52) rfl rfl k)) ?_
    obtain ⟨T78, h78, X78, e78, W78, st78⟩ := putF X69 hx hZ hown (host := "") (Or.inl (own_h hw 30 rfl)) Via.refl e69 f71 f70 (Or.inr ⟨(own_h hw 31 rfl), rfl, hnm⟩) (own_h hw 4 rfl) (ty := (.array .byte)) (by decide) rfl rfl (g := (mkF m 54 #[rv a1, rv a2, iv 0, iv 4, .val .null, rv zb59] [(.ref zb59), (.ref a1)])) rfl rfl (hb hby od_jdk_42_m_149_54)
    have Fw78 := Fld.same W78 f71
    have f79 := Exa.wr W78 f70
    have f80 := Fld.other W78 Fw69 (Or.inr (slot_ne (Or.inr (own_h hw 29 rfl)) (Or.inr (own_h hw 31 rfl)) (by decide) (t := .byte) (t' := (.array .byte)) (by decide) (by decide)))
    have f81 := f72.other W78 (Ne.symm pr5)
    have f82 := Sta.wr W78 f73
    have f83 := Sta.wr W78 f74
    have f84 := Sta.wr W78 f75
    have f85 := Sta.wr W78 f76
    have f86 := f77.other W78 (Ne.symm (own_nl pr1.lt sq_zb59))
    have K78 : Keep h0 h78 [a1] := K69.wr W78 (Or.inl (List.mem_of_getElem? (i := 0) rfl))
    have Z78 := Nat.le_trans Z69 (Nat.le_of_eq W78.size.symm)
    have N78 := Fr.snoc X78 N69 g_a1
    refine own_s T78 (mkF m 57 #[rv a1, rv a2, iv 0, iv 4, .val .null, rv zb59] []) st78 ?_
    exact own_finV X78 hx hret (hb hby od_jdk_42_m_149_57) (own_end (Qv := (own_Qsi4u Z a1 a2 ka ch0 ch1 ch2 ch3 gC h0 n0)) X78 (fun _ => rfl) hlk (by decide) (by decide) e78 ⟨zb59, zk59, rfl, N78, K78, g_zb59, sz_zb59, f79, f80, Fw78, f86⟩)
  · obtain ⟨v87, T87, L87, X87, hQ87, st87⟩ := own_callS X2 hx hZ (y := own_y1) (W := 0) hown (own_h hw 17 rfl) (own_h hw 18 rfl) (own_h hw 19 rfl) (own_h hw 20 rfl) (by decide) (own_rmcp1_3 l Z a0 hw [] a2 ka ch0 ch1 ch2 ch3 h0 n0 Z0 pr4 pr8 pr9 pr10 hc0 hc1 hc2 hk hr3) (by decide) (by decide) (g := (mkF m 36 #[rv a1, rv a2, iv 0, iv 4, .val .null, u_] [(.int 4), (.int 0), (.ref a2)])) rfl (by rw [hml]; rfl) (argsL := [(.ref a2), (.int 0), (.int 4)]) (rest := []) rfl (lenOf own_pd1 rfl) rfl (by show 2 * 0 + _ ≤ _; exact Nat.le_of_eq rfl) (hb hby od_jdk_42_m_149_36) e2 (by decide) (by decide)
    obtain ⟨zb87, zk87, rfl, Nq87, Kq87, g_zb87, sq_zb87, q87_0⟩ := hQ87
    have N87 := Fr.app N0 Nq87
    have sz_zb87 : h0.size ≤ zb87 := Nat.le_trans (Keep.refl h0 [a1]).1 sq_zb87
    have f88 := pr1.keep Kq87
    have f89 := pr2.keep Kq87 nin0
    have f90 := pr3.keep Kq87 nin0
    have f91 := pr4.keep Kq87 nin0
    have f92 := own_staKeep pr6 Kq87
    have f93 := own_staKeep pr8 Kq87
    have f94 := own_staKeep pr9 Kq87
    have f95 := own_staKeep pr10 Kq87
    have K87 : Keep h0 T87.heap [a1] := (Keep.refl h0 [a1]).trans Kq87 all0
    have Z87 := Nat.le_trans Z0 Kq87.1
    refine own_s T87 (mkF m 39 #[rv a1, rv a2, iv 0, iv 4, .val .null, u_] [(.ref zb87)]) st87 ?_
    refine own_s T87 (mkF m 45 #[rv a1, rv a2, iv 0, iv 4, .val .null, rv zb87] [(.int 4), (.ref zb87), (.ref a1)]) (fun _ k => XS.astore X87.here hx rfl (hb hby od_jdk_42_m_149_39) rfl rfl (l' := #[rv a1, rv a2, iv 0, iv 4, .val .null, rv zb87]) rfl (XS.aloadN X87.here hx rfl (hb hby od_jdk_42_m_149_41) rfl rfl (XS.aload X87.here hx rfl (hb hby od_jdk_42_m_149_42) rfl rfl (XS.iloadN X87.here hx rfl (hb hby od_jdk_42_m_149_44) rfl  k)))) ?_
    obtain ⟨v96, T96, L96, X96, hQ96, st96⟩ := own_callS X87 hx hZ (y := own_y2) (W := 1) hown (own_h hw 25 rfl) (own_h hw 26 rfl) (own_h hw 19 rfl) (own_h hw 27 rfl) (by decide) (own_rmcfu l Z a0 hw [] zb87 zk87 [(.int (own_lo ch0)), (.int (own_hi ch0)), (.int (own_lo ch1)), (.int (own_hi ch1)), (.int (own_lo ch2)), (.int (own_hi ch2)), (.int (own_lo ch3)), (.int (own_hi ch3))] T87.heap n0 Z87 q87_0) (by decide) (by decide) (g := (mkF m 45 #[rv a1, rv a2, iv 0, iv 4, .val .null, rv zb87] [(.int 4), (.ref zb87), (.ref a1)])) rfl (by rw [hml]; rfl) (argsL := [(.ref zb87), (.int 4)]) (rest := [(.ref a1)]) rfl (lenOf own_pd2 rfl) rfl (by show 2 * 0 + _ ≤ _; exact Nat.le_of_eq rfl) (hb hby od_jdk_42_m_149_45) rfl (by decide) (by decide)
    obtain ⟨rfl, Nq96, e96⟩ := hQ96
    have N96 := Fr.app N87 Nq96
    refine own_s T96 (mkF m 48 #[rv a1, rv a2, iv 0, iv 4, .val .null, rv zb87] [(.int 1), (.ref a1)]) st96 ?_
    obtain ⟨T97, h97, X97, e97, W97, st97⟩ := putFN X96 hx hZ hown (own_h hw 28 rfl) Via.refl e96 f89 f88 (Or.inr ⟨(own_h hw 29 rfl), rfl, hnm⟩) (own_h hw 4 rfl) (ty := .byte) (v' := (.int 1)) (by decide) rfl rfl (g := (mkF m 48 #[rv a1, rv a2, iv 0, iv 4, .val .null, rv zb87] [(.int 1), (.ref a1)])) rfl rfl (hb hby od_jdk_42_m_149_48)
    have Fw97 := Fld.same W97 f89
    have f98 := Exa.wr W97 f88
    have f99 := Fld.other W97 f90 (Or.inr (slot_ne (Or.inr (own_h hw 31 rfl)) (Or.inr (own_h hw 29 rfl)) (by decide) (t := (.array .byte)) (t' := .byte) (by decide) (by decide)))
    have f100 := f91.other W97 (Ne.symm pr5)
    have f101 := Sta.wr W97 f92
    have f102 := Sta.wr W97 f93
    have f103 := Sta.wr W97 f94
    have f104 := Sta.wr W97 f95
    have f105 := q87_0.other W97 (Ne.symm (own_nl pr1.lt sq_zb87))
    have K97 : Keep h0 h97 [a1] := K87.wr W97 (Or.inl (List.mem_of_getElem? (i := 0) rfl))
    have Z97 := Nat.le_trans Z87 (Nat.le_of_eq W97.size.symm)
    have N97 := Fr.snoc X97 N96 g_a1
    refine own_s T97 (mkF m 51 #[rv a1, rv a2, iv 0, iv 4, .val .null, rv zb87] []) st97 ?_
    refine own_s T97 (mkF m 54 #[rv a1, rv a2, iv 0, iv 4, .val .null, rv zb87] [(.ref zb87), (.ref a1)]) (fun _ k => XS.aloadN X97.here hx rfl (hb hby od_jdk_42_m_149_51) rfl rfl (XS.aload X97.here hx rfl (hb hby od_jdk_42_m_149_52) rfl rfl k)) ?_
    obtain ⟨T106, h106, X106, e106, W106, st106⟩ := putF X97 hx hZ hown (host := "") (Or.inl (own_h hw 30 rfl)) Via.refl e97 f99 f98 (Or.inr ⟨(own_h hw 31 rfl), rfl, hnm⟩) (own_h hw 4 rfl) (ty := (.array .byte)) (by decide) rfl rfl (g := (mkF m 54 #[rv a1, rv a2, iv 0, iv 4, .val .null, rv zb87] [(.ref zb87), (.ref a1)])) rfl rfl (hb hby od_jdk_42_m_149_54)
    have Fw106 := Fld.same W106 f99
    have f107 := Exa.wr W106 f98
    have f108 := Fld.other W106 Fw97 (Or.inr (slot_ne (Or.inr (own_h hw 29 rfl)) (Or.inr (own_h hw 31 rfl)) (by decide) (t := .byte) (t' := (.array .byte)) (by decide) (by decide)))
    have f109 := f100.other W106 (Ne.symm pr5)
    have f110 := Sta.wr W106 f101
    have f111 := Sta.wr W106 f102
    have f112 := Sta.wr W106 f103
    have f113 := Sta.wr W106 f104
    have f114 := f105.other W106 (Ne.symm (own_nl pr1.lt sq_zb87))
    have K106 : Keep h0 h106 [a1] := K97.wr W106 (Or.inl (List.mem_of_getElem? (i := 0) rfl))
    have Z106 := Nat.le_trans Z97 (Nat.le_of_eq W106.size.symm)
    have N106 := Fr.snoc X106 N97 g_a1
    refine own_s T106 (mkF m 57 #[rv a1, rv a2, iv 0, iv 4, .val .null, rv zb87] []) st106 ?_
    exact own_finV X106 hx hret (hb hby od_jdk_42_m_149_57) (own_end (Qv := (own_Qsi4u Z a1 a2 ka ch0 ch1 ch2 ch3 gC h0 n0)) X106 (fun _ => rfl) hlk (by decide) (by decide) e106 ⟨zb87, zk87, rfl, N106, K106, g_zb87, sz_zb87, f107, f108, Fw106, f114⟩)
theorem own_efsi1s (m : MethodId) (x0 : Addr) (x1 : Addr) : entryFrame m #[(.ref x0), (.ref x1)] 2 = mkF m 0 #[rv x0, rv x1] [] := by first | (simp [entryFrame, mkF, argsToLocals, Value.category]; done) | rfl
def own_Qsi1s (Z : State) (a1 : Addr) (a2 : Addr) (ka : ClassId) (ch0 : Int32) (ch1 : Int32) (ch2 : Int32) (ch3 : Int32) (gC : Int32) (h0 : Heap) (n0 : Nat) : Option Value → Heap → List Loc → Prop := fun v h L => v = none ∧ Fr n0 L ∧ Keep h0 h [a1] ∧ Exa Z h a1 "java/lang/String" ∧ own_Str Z h a1 ch0 ch1 ch2 ch3
def own_Rsi1s : Room := { frames := 5, cells := 2, slots := 12, locals := 74 }
set_option maxRecDepth 65536 in
set_option maxHeartbeats 40000000 in
theorem own_rmsi1s (l : Launch) (Z : State) (a0 : Array Value) (hw : ∀ d ∈ tables_1, d.before a0 Z = true) (ws : List Jvm.Cond) (a1 : Addr) (a2 : Addr) (ka : ClassId) (ch0 : Int32) (ch1 : Int32) (ch2 : Int32) (ch3 : Int32) (gC : Int32) (h0 : Heap) (n0 : Nat) (Z0 : n0 ≤ h0.size) (g_a1 : n0 ≤ a1) (pr1 : Exa Z h0 a1 "java/lang/String") (pr2 : Fld Z h0 a1 "java/lang/String" "coder" "B" (.int 0)) (pr3 : Fld Z h0 a1 "java/lang/String" "value" "[B" .null) (pr4 : Arv Z h0 a2 ka .char (4 : Int32) [(.int ch0), (.int ch1), (.int ch2), (.int ch3)] (.int 0)) (pr5 : a1 ≠ a2) (pr6 : Sta Z h0 "java/lang/String" "COMPACT_STRINGS" "Z" (.int gC)) (hG : ¬ gC = (0 : Int32)) (pr8 : Sta Z h0 "java/lang/StringUTF16" "$assertionsDisabled" "Z" (.int 1)) (pr9 : Sta Z h0 "java/lang/StringUTF16" "HI_BYTE_SHIFT" "I" (.int 0)) (pr10 : Sta Z h0 "java/lang/StringUTF16" "LO_BYTE_SHIFT" "I" (.int 8)) (hr0 : own_Ch ch0) (hr1 : own_Ch ch1) (hr2 : own_Ch ch2) (hr3 : own_Ch ch3) :
    own_Met l Z own_y4 jdk_42_method_3_code 2 none ws own_Rsi1s h0 #[(.ref a1), (.ref a2)] (own_Qsi1s Z a1 a2 ka ch0 ch1 ch2 ch3 gC h0 n0) own_Rsi1s.cells own_Rsi1s.slots := by
  refine own_start (plainFor_of_name own_pn1) ?_
  intro p e s m below meth c s₁ X0 hx hZ hby hml hret hlk hown hnm e0
  have hown : s.vm.findClass "java/lang/String" = some m.cls := hown
  have hml : c.maxLocals = 2 := hml
  have N0 := Fr.nil n0
  refine own_cast (own_efsi1s m a1 a2) ?_
  refine own_s s₁ (mkF m 4 #[rv a1, rv a2] [(.ref a2), (.int 0), (.ref a2), (.ref a1)]) (fun _ k => XS.aloadN X0.here hx rfl (hb hby od_jdk_42_m_3_0) rfl rfl (XS.aloadN X0.here hx rfl (hb hby od_jdk_42_m_3_1) rfl rfl (XS.iconst X0.here hx rfl (hb hby od_jdk_42_m_3_2) (XS.aloadN X0.here hx rfl (hb hby od_jdk_42_m_3_3) rfl rfl k)))) ?_
  obtain ⟨cl1, Ar1, q1, S1, Nn1, H1, G1⟩ := id pr4
  refine own_s s₁ (mkF m 6 #[rv a1, rv a2] [.null, (.int 4), (.int 0), (.ref a2), (.ref a1)]) (fun _ k => own_len X0 hx hZ e0 Ar1 S1 Nn1 (g := (mkF m 4 #[rv a1, rv a2] [(.ref a2), (.int 0), (.ref a2), (.ref a1)])) rfl rfl (hb hby od_jdk_42_m_3_4) (XS.aconstNull X0.here hx rfl (hb hby od_jdk_42_m_3_5) k)) ?_
  rcases own_cases ch0 ch1 ch2 ch3 with ⟨hc0, hc1, hc2, hc3⟩ | hU
  · obtain ⟨v2, T2, L2, X2, hQ2, st2⟩ := own_callI X0 hx hZ (y := own_y3) (W := 0) (a := a1) rfl hown (own_h hw 9 rfl) (own_h hw 10 rfl) (own_h hw 5 rfl) (own_h hw 12 rfl) (by decide) (own_rmsi4_4 l Z a0 hw [] a1 a2 ka gC ch0 ch1 ch2 ch3 h0 n0 Z0 g_a1 pr1 pr2 pr3 pr4 (Ne.symm pr5) pr6 hG hc0 hc1 hc2 hc3) (by decide) (by decide) (g := (mkF m 6 #[rv a1, rv a2] [.null, (.int 4), (.int 0), (.ref a2), (.ref a1)])) rfl (by rw [hml]; rfl) (argsL := [(.ref a2), (.int 0), (.int 4), .null]) (rest := []) rfl (lenOf own_pd3 rfl) rfl (by show 2 * 0 + _ ≤ _; exact Nat.le_of_eq rfl) (hb hby od_jdk_42_m_3_6) e0 (by decide) (by decide)
    obtain ⟨rfl, Nq2, Kq2, Eq2, Cq2, b2, k2, g_b2, sq2, Wq2, Vq2⟩ := hQ2
    have N2 := Fr.app N0 Nq2
    have ne_a1_b2 : a1 ≠ b2 := Nat.ne_of_lt (Nat.lt_of_lt_of_le pr1.lt sq2)
    have ne_a2_b2 : a2 ≠ b2 := Nat.ne_of_lt (Nat.lt_of_lt_of_le pr4.lt sq2)
    have sz_b2 : h0.size ≤ b2 := Nat.le_trans (Keep.refl h0 [a1]).1 sq2
    have f3 := pr4.keep Kq2 (ninS (Ne.symm pr5) nin0)
    have f4 := own_staKeepW pr6 Kq2 (allS pr1.nostat all0)
    have f5 := own_staKeepW pr8 Kq2 (allS pr1.nostat all0)
    have f6 := own_staKeepW pr9 Kq2 (allS pr1.nostat all0)
    have f7 := own_staKeepW pr10 Kq2 (allS pr1.nostat all0)
    have K2 : Keep h0 T2.heap [a1] := (Keep.refl h0 [a1]).trans Kq2 (allS (Or.inl (List.mem_of_getElem? (i := 0) rfl)) all0)
    have Z2 := Nat.le_trans Z0 Kq2.1
    refine own_s T2 (mkF m 9 #[rv a1, rv a2] []) st2 ?_
    exact own_finV X2 hx hret (hb hby od_jdk_42_m_3_9) (own_end (Qv := (own_Qsi1s Z a1 a2 ka ch0 ch1 ch2 ch3 gC h0 n0)) X2 (fun _ => rfl) hlk (by decide) (by decide) rfl ⟨rfl, N2, K2, Eq2, ⟨Eq2, Or.inl ⟨_, _, Cq2, Wq2, Vq2, hc0, hc1, hc2, hc3⟩⟩⟩)
  · obtain ⟨v8, T8, L8, X8, hQ8, st8⟩ := own_callI X0 hx hZ (y := own_y3) (W := 0) (a := a1) rfl hown (own_h hw 9 rfl) (own_h hw 10 rfl) (own_h hw 5 rfl) (own_h hw 12 rfl) (by decide) (own_rmsi4u l Z a0 hw [] a1 a2 ka ch0 ch1 ch2 ch3 gC h0 n0 Z0 g_a1 pr1 pr2 pr3 pr4 pr5 pr6 hG pr8 pr9 pr10 hr0 hr1 hr2 hr3 hU) (by decide) (by decide) (g := (mkF m 6 #[rv a1, rv a2] [.null, (.int 4), (.int 0), (.ref a2), (.ref a1)])) rfl (by rw [hml]; rfl) (argsL := [(.ref a2), (.int 0), (.int 4), .null]) (rest := []) rfl (lenOf own_pd3 rfl) rfl (by show 2 * 0 + _ ≤ _; exact Nat.le_of_eq rfl) (hb hby od_jdk_42_m_3_6) e0 (by decide) (by decide)
    obtain ⟨zb8, zk8, rfl, Nq8, Kq8, g_zb8, sq_zb8, q8_0, q8_1, q8_2, q8_3⟩ := hQ8
    have N8 := Fr.app N0 Nq8
    have sz_zb8 : h0.size ≤ zb8 := Nat.le_trans (Keep.refl h0 [a1]).1 sq_zb8
    have f9 := pr1.keep Kq8
    have f10 := pr4.keep Kq8 (ninS (Ne.symm pr5) nin0)
    have f11 := own_staKeepW pr6 Kq8 (allS pr1.nostat all0)
    have f12 := own_staKeepW pr8 Kq8 (allS pr1.nostat all0)
    have f13 := own_staKeepW pr9 Kq8 (allS pr1.nostat all0)
    have f14 := own_staKeepW pr10 Kq8 (allS pr1.nostat all0)
    have K8 : Keep h0 T8.heap [a1] := (Keep.refl h0 [a1]).trans Kq8 (allS (Or.inl (List.mem_of_getElem? (i := 0) rfl)) all0)
    have Z8 := Nat.le_trans Z0 Kq8.1
    refine own_s T8 (mkF m 9 #[rv a1, rv a2] []) st8 ?_
    exact own_finV X8 hx hret (hb hby od_jdk_42_m_3_9) (own_end (Qv := (own_Qsi1s Z a1 a2 ka ch0 ch1 ch2 ch3 gC h0 n0)) X8 (fun _ => rfl) hlk (by decide) (by decide) rfl ⟨rfl, N8, K8, q8_0, ⟨q8_0, Or.inr ⟨_, _, q8_1, q8_2, q8_3⟩⟩⟩)
abbrev own_y11 : MethodName := ⟨"jdk/internal/util/Preconditions", "checkIndex", "(IILjava/util/function/BiFunction;)I"⟩
theorem own_pn2 : plainName "jdk/internal/util/Preconditions" = true := by first | (simp [plainName, overriddenIn]; done) | decide +kernel
theorem od_jdk_41_m_11_0 : decode jdk_41_method_11_code 0 = .ok (.iload_n 0, 1) := by decide +kernel
theorem od_jdk_41_m_11_1 : decode jdk_41_method_11_code 1 = .ok (.ifCond .lt 8, 3) := by decide +kernel
theorem od_jdk_41_m_11_4 : decode jdk_41_method_11_code 4 = .ok (.iload_n 0, 1) := by decide +kernel
theorem od_jdk_41_m_11_5 : decode jdk_41_method_11_code 5 = .ok (.iload_n 1, 1) := by decide +kernel
theorem od_jdk_41_m_11_6 : decode jdk_41_method_11_code 6 = .ok (.if_icmp .lt 10, 3) := by decide +kernel
theorem od_jdk_41_m_11_16 : decode jdk_41_method_11_code 16 = .ok (.iload_n 0, 1) := by decide +kernel
theorem od_jdk_41_m_11_17 : decode jdk_41_method_11_code 17 = .ok (.ireturn, 1) := by decide +kernel
theorem own_efci3 (m : MethodId) (x0 : Int32) (x1 : Int32) (x2 : Value) (rx2 : x2.isRef = true) : entryFrame m #[(.int x0), (.int x1), x2] 3 = mkF m 0 #[iv x0, iv x1, .val x2] [] := by rcases ref_cases rx2 with rfl | ⟨_, rfl⟩ <;> first | (simp [entryFrame, mkF, argsToLocals, Value.category]; done) | rfl
def own_Qci3 (Z : State) (p1 : Int32) (p2 : Int32) (x3 : Value) (h0 : Heap) (n0 : Nat) : Option Value → Heap → List Loc → Prop := fun v h L => v = some (.int p1) ∧ Fr n0 L ∧ h = h0
def own_Rci3 : Room := { frames := 0, cells := 0, slots := 0, locals := 0 }
set_option maxRecDepth 65536 in
set_option maxHeartbeats 40000000 in
theorem own_rmci3 (l : Launch) (Z : State) (a0 : Array Value) (hw : ∀ d ∈ tables_1, d.before a0 Z = true) (ws : List Jvm.Cond) (p1 : Int32) (p2 : Int32) (x3 : Value) (h0 : Heap) (n0 : Nat) (Z0 : n0 ≤ h0.size) (hp0 : ¬ p1 < (0 : Int32)) (hp1 : p1 < p2) (rx3 : x3.isRef = true) :
    own_Met l Z own_y11 jdk_41_method_11_code 3 (some .int) ws own_Rci3 h0 #[(.int p1), (.int p2), x3] (own_Qci3 Z p1 p2 x3 h0 n0) own_Rci3.cells own_Rci3.slots := by
  refine own_start (plainFor_of_name own_pn2) ?_
  intro p e s m below meth c s₁ X0 hx hZ hby hml hret hlk hown hnm e0
  have hown : s.vm.findClass "jdk/internal/util/Preconditions" = some m.cls := hown
  have hml : c.maxLocals = 3 := hml
  have N0 := Fr.nil n0
  refine own_cast (own_efci3 m p1 p2 x3 rx3) ?_
  refine own_s s₁ (mkF m 17 #[iv p1, iv p2, .val x3] [(.int p1)]) (fun _ k => XS.iloadN X0.here hx rfl (hb hby od_jdk_41_m_11_0) rfl  (XS.ifNo X0.here hx rfl (hb hby od_jdk_41_m_11_1) rfl ((if0 _ _).trans (flt hp0).1) (XS.iloadN X0.here hx rfl (hb hby od_jdk_41_m_11_4) rfl  (XS.iloadN X0.here hx rfl (hb hby od_jdk_41_m_11_5) rfl  (XS.icmpYes X0.here hx rfl (pc0 := 6) (pc' := 16) rfl (hb hby od_jdk_41_m_11_6) rfl (tlt hp1).1 (by decide) (by decide) (XS.iloadN X0.here hx rfl (hb hby od_jdk_41_m_11_16) rfl  k)))))) ?_
  exact own_finI X0 hx hret (hb hby od_jdk_41_m_11_17) (own_end (Qv := (own_Qci3 Z p1 p2 x3 h0 n0)) X0 (own_some hret) hlk (by decide) (by decide) e0 ⟨rfl, N0, rfl⟩)
theorem own_pd8 : parseMethodDescriptor "(IILjava/util/function/BiFunction;)I" = some ⟨[.int, .int, (.object "java/util/function/BiFunction")], some .int⟩ := by decide +kernel
abbrev own_y12 : MethodName := ⟨"java/lang/String", "checkIndex", "(II)V"⟩
theorem od_jdk_42_m_155_0 : decode jdk_42_method_155_code 0 = .ok (.iload_n 0, 1) := by decide +kernel
theorem od_jdk_42_m_155_1 : decode jdk_42_method_155_code 1 = .ok (.iload_n 1, 1) := by decide +kernel
theorem od_jdk_42_m_155_2 : decode jdk_42_method_155_code 2 = .ok (.getstatic 1053, 3) := by decide +kernel
theorem od_jdk_42_m_155_5 : decode jdk_42_method_155_code 5 = .ok (.invokestatic 1059, 3) := by decide +kernel
theorem od_jdk_42_m_155_8 : decode jdk_42_method_155_code 8 = .ok (.pop, 1) := by decide +kernel
theorem od_jdk_42_m_155_9 : decode jdk_42_method_155_code 9 = .ok (.return_, 1) := by decide +kernel
theorem own_efciv (m : MethodId) (x0 : Int32) (x1 : Int32) : entryFrame m #[(.int x0), (.int x1)] 2 = mkF m 0 #[iv x0, iv x1] [] := by first | (simp [entryFrame, mkF, argsToLocals, Value.category]; done) | rfl
def own_Qciv (Z : State) (p1 : Int32) (p2 : Int32) (wS : Value) (h0 : Heap) (n0 : Nat) : Option Value → Heap → List Loc → Prop := fun v h L => v = none ∧ Fr n0 L ∧ h = h0
def own_Rciv : Room := { frames := 1, cells := 0, slots := 0, locals := 14 }
set_option maxRecDepth 65536 in
set_option maxHeartbeats 40000000 in
theorem own_rmciv (l : Launch) (Z : State) (a0 : Array Value) (hw : ∀ d ∈ tables_1, d.before a0 Z = true) (ws : List Jvm.Cond) (p1 : Int32) (p2 : Int32) (wS : Value) (h0 : Heap) (n0 : Nat) (Z0 : n0 ≤ h0.size) (pr0 : Sta Z h0 "jdk/internal/util/Preconditions" "SIOOBE_FORMATTER" "Ljava/util/function/BiFunction;" wS) (hp0 : ¬ p1 < (0 : Int32)) (hp1 : p1 < p2) (rwS : wS.isRef = true) :
    own_Met l Z own_y12 jdk_42_method_155_code 2 none ws own_Rciv h0 #[(.int p1), (.int p2)] (own_Qciv Z p1 p2 wS h0 n0) own_Rciv.cells own_Rciv.slots := by
  refine own_start (plainFor_of_name own_pn1) ?_
  intro p e s m below meth c s₁ X0 hx hZ hby hml hret hlk hown hnm e0
  have hown : s.vm.findClass "java/lang/String" = some m.cls := hown
  have hml : c.maxLocals = 2 := hml
  have N0 := Fr.nil n0
  refine own_cast (own_efciv m p1 p2) ?_
  refine own_s s₁ (mkF m 2 #[iv p1, iv p2] [(.int p2), (.int p1)]) (fun _ k => XS.iloadN X0.here hx rfl (hb hby od_jdk_42_m_155_0) rfl  (XS.iloadN X0.here hx rfl (hb hby od_jdk_42_m_155_1) rfl  k)) ?_
  obtain ⟨T1, X1, e1, st1⟩ := getS2 X0 hx hZ hown (host := "") (Or.inl (own_h hw 86 rfl)) Via.refl e0 pr0 (g := (mkF m 2 #[iv p1, iv p2] [(.int p2), (.int p1)])) rfl (hb hby od_jdk_42_m_155_2)
  refine own_s T1 (mkF m 5 #[iv p1, iv p2] [wS, (.int p2), (.int p1)]) st1 ?_
  obtain ⟨v2, T2, L2, X2, hQ2, st2⟩ := own_callS X1 hx hZ (y := own_y11) (W := 0) hown (own_h hw 88 rfl) (own_h hw 89 rfl) (own_h hw 87 rfl) (own_h hw 90 rfl) (by decide) (own_rmci3 l Z a0 hw [] p1 p2 wS h0 n0 Z0 hp0 hp1 rwS) (by decide) (by decide) (g := (mkF m 5 #[iv p1, iv p2] [wS, (.int p2), (.int p1)])) rfl (by rw [hml]; rfl) (argsL := [(.int p1), (.int p2), wS]) (rest := []) rfl (lenOf own_pd8 rfl) rfl (by show 2 * 0 + _ ≤ _; exact Nat.le_of_eq rfl) (hb hby od_jdk_42_m_155_5) e1 (by decide) (by decide)
  obtain ⟨rfl, Nq2, e2⟩ := hQ2
  have N2 := Fr.app N0 Nq2
  refine own_s T2 (mkF m 8 #[iv p1, iv p2] [(.int p1)]) st2 ?_
  refine own_s T2 (mkF m 9 #[iv p1, iv p2] []) (fun _ k => XS.pop X2.here hx rfl (hb hby od_jdk_42_m_155_8) rfl rfl k) ?_
  exact own_finV X2 hx hret (hb hby od_jdk_42_m_155_9) (own_end (Qv := (own_Qciv Z p1 p2 wS h0 n0)) X2 (fun _ => rfl) hlk (by decide) (by decide) e2 ⟨rfl, N2, rfl⟩)
abbrev own_y13 : MethodName := ⟨"java/lang/String", "isLatin1", "()Z"⟩
theorem od_jdk_42_m_154_0 : decode jdk_42_method_154_code 0 = .ok (.getstatic 38, 3) := by decide +kernel
theorem od_jdk_42_m_154_3 : decode jdk_42_method_154_code 3 = .ok (.ifCond .eq 14, 3) := by decide +kernel
theorem od_jdk_42_m_154_6 : decode jdk_42_method_154_code 6 = .ok (.aload_n 0, 1) := by decide +kernel
theorem od_jdk_42_m_154_7 : decode jdk_42_method_154_code 7 = .ok (.getfield 15, 3) := by decide +kernel
theorem od_jdk_42_m_154_10 : decode jdk_42_method_154_code 10 = .ok (.ifCond .ne 7, 3) := by decide +kernel
theorem od_jdk_42_m_154_13 : decode jdk_42_method_154_code 13 = .ok (.iconst 1, 1) := by decide +kernel
theorem od_jdk_42_m_154_14 : decode jdk_42_method_154_code 14 = .ok (.goto 4, 3) := by decide +kernel
theorem od_jdk_42_m_154_18 : decode jdk_42_method_154_code 18 = .ok (.ireturn, 1) := by decide +kernel
theorem own_efil0 (m : MethodId) (x0 : Addr) : entryFrame m #[(.ref x0)] 1 = mkF m 0 #[rv x0] [] := by first | (simp [entryFrame, mkF, argsToLocals, Value.category]; done) | rfl
def own_Qil0 (Z : State) (a1 : Addr) (gC : Int32) (h0 : Heap) (n0 : Nat) : Option Value → Heap → List Loc → Prop := fun v h L => v = some (.int 1) ∧ Fr n0 L ∧ h = h0
def own_Ril0 : Room := { frames := 0, cells := 0, slots := 0, locals := 0 }
set_option maxRecDepth 65536 in
set_option maxHeartbeats 40000000 in
theorem own_rmil0 (l : Launch) (Z : State) (a0 : Array Value) (hw : ∀ d ∈ tables_1, d.before a0 Z = true) (ws : List Jvm.Cond) (a1 : Addr) (gC : Int32) (h0 : Heap) (n0 : Nat) (Z0 : n0 ≤ h0.size) (pr0 : Fld Z h0 a1 "java/lang/String" "coder" "B" (.int 0)) (pr1 : Sta Z h0 "java/lang/String" "COMPACT_STRINGS" "Z" (.int gC)) (hG : ¬ gC = (0 : Int32)) :
    own_Met l Z own_y13 jdk_42_method_154_code 1 (some .boolean) ws own_Ril0 h0 #[(.ref a1)] (own_Qil0 Z a1 gC h0 n0) own_Ril0.cells own_Ril0.slots := by
  refine own_start (plainFor_of_name own_pn1) ?_
  intro p e s m below meth c s₁ X0 hx hZ hby hml hret hlk hown hnm e0
  have hown : s.vm.findClass "java/lang/String" = some m.cls := hown
  have hml : c.maxLocals = 1 := hml
  have N0 := Fr.nil n0
  refine own_cast (own_efil0 m a1) ?_
  obtain ⟨T1, X1, e1, st1⟩ := getS2 X0 hx hZ hown (host := "") (Or.inl (own_h hw 16 rfl)) Via.refl e0 pr1 (g := (mkF m 0 #[rv a1] [])) rfl (hb hby od_jdk_42_m_154_0)
  refine own_s T1 (mkF m 3 #[rv a1] [(.int gC)]) st1 ?_
  refine own_s T1 (mkF m 7 #[rv a1] [(.ref a1)]) (fun _ k => XS.ifNo X1.here hx rfl (hb hby od_jdk_42_m_154_3) rfl ((if0 _ _).trans (feq hG).1) (XS.aloadN X1.here hx rfl (hb hby od_jdk_42_m_154_6) rfl rfl k)) ?_
  obtain ⟨T2, X2, e2, st2⟩ := getF X1 hx hZ hown (host := "") (Or.inl (own_h hw 28 rfl)) Via.refl e1 pr0 (g := (mkF m 7 #[rv a1] [(.ref a1)])) rfl rfl (hb hby od_jdk_42_m_154_7)
  refine own_s T2 (mkF m 10 #[rv a1] [(.int 0)]) st2 ?_
  refine own_s T2 (mkF m 18 #[rv a1] [(.int 1)]) (fun _ k => XS.ifNo X2.here hx rfl (hb hby od_jdk_42_m_154_10) rfl ((if0 _ _).trans (teq (by decide : ((0 : Int32) = (0 : Int32)))).2) (XS.iconst X2.here hx rfl (hb hby od_jdk_42_m_154_13) (XS.goto X2.here hx rfl (pc0 := 14) (pc' := 18) rfl (hb hby od_jdk_42_m_154_14) (by decide) (by decide) k))) ?_
  exact own_finZ X2 hx (t := .boolean) hret (by simp) (z' := (1 : Int32)) rfl (hb hby od_jdk_42_m_154_18) (own_end (Qv := (own_Qil0 Z a1 gC h0 n0)) X2 (own_some hret) hlk (by decide) (by decide) e2 ⟨rfl, N0, rfl⟩)
theorem od_jdk_42_m_154_17 : decode jdk_42_method_154_code 17 = .ok (.iconst 0, 1) := by decide +kernel
theorem own_efil1 (m : MethodId) (x0 : Addr) : entryFrame m #[(.ref x0)] 1 = mkF m 0 #[rv x0] [] := by first | (simp [entryFrame, mkF, argsToLocals, Value.category]; done) | rfl
def own_Qil1 (Z : State) (a1 : Addr) (gC : Int32) (h0 : Heap) (n0 : Nat) : Option Value → Heap → List Loc → Prop := fun v h L => v = some (.int 0) ∧ Fr n0 L ∧ h = h0
def own_Ril1 : Room := { frames := 0, cells := 0, slots := 0, locals := 0 }
set_option maxRecDepth 65536 in
set_option maxHeartbeats 40000000 in
theorem own_rmil1 (l : Launch) (Z : State) (a0 : Array Value) (hw : ∀ d ∈ tables_1, d.before a0 Z = true) (ws : List Jvm.Cond) (a1 : Addr) (gC : Int32) (h0 : Heap) (n0 : Nat) (Z0 : n0 ≤ h0.size) (pr0 : Fld Z h0 a1 "java/lang/String" "coder" "B" (.int 1)) (pr1 : Sta Z h0 "java/lang/String" "COMPACT_STRINGS" "Z" (.int gC)) (hG : ¬ gC = (0 : Int32)) :
    own_Met l Z own_y13 jdk_42_method_154_code 1 (some .boolean) ws own_Ril1 h0 #[(.ref a1)] (own_Qil1 Z a1 gC h0 n0) own_Ril1.cells own_Ril1.slots := by
  refine own_start (plainFor_of_name own_pn1) ?_
  intro p e s m below meth c s₁ X0 hx hZ hby hml hret hlk hown hnm e0
  have hown : s.vm.findClass "java/lang/String" = some m.cls := hown
  have hml : c.maxLocals = 1 := hml
  have N0 := Fr.nil n0
  refine own_cast (own_efil1 m a1) ?_
  obtain ⟨T1, X1, e1, st1⟩ := getS2 X0 hx hZ hown (host := "") (Or.inl (own_h hw 16 rfl)) Via.refl e0 pr1 (g := (mkF m 0 #[rv a1] [])) rfl (hb hby od_jdk_42_m_154_0)
  refine own_s T1 (mkF m 3 #[rv a1] [(.int gC)]) st1 ?_
  refine own_s T1 (mkF m 7 #[rv a1] [(.ref a1)]) (fun _ k => XS.ifNo X1.here hx rfl (hb hby od_jdk_42_m_154_3) rfl ((if0 _ _).trans (feq hG).1) (XS.aloadN X1.here hx rfl (hb hby od_jdk_42_m_154_6) rfl rfl k)) ?_
  obtain ⟨T2, X2, e2, st2⟩ := getF X1 hx hZ hown (host := "") (Or.inl (own_h hw 28 rfl)) Via.refl e1 pr0 (g := (mkF m 7 #[rv a1] [(.ref a1)])) rfl rfl (hb hby od_jdk_42_m_154_7)
  refine own_s T2 (mkF m 10 #[rv a1] [(.int 1)]) st2 ?_
  refine own_s T2 (mkF m 18 #[rv a1] [(.int 0)]) (fun _ k => XS.ifYes X2.here hx rfl (pc0 := 10) (pc' := 17) rfl (hb hby od_jdk_42_m_154_10) rfl ((if0 _ _).trans (feq (by decide : ¬ ((1 : Int32) = (0 : Int32)))).2) (by decide) (by decide) (XS.iconst X2.here hx rfl (hb hby od_jdk_42_m_154_17) k)) ?_
  exact own_finZ X2 hx (t := .boolean) hret (by simp) (z' := (0 : Int32)) rfl (hb hby od_jdk_42_m_154_18) (own_end (Qv := (own_Qil1 Z a1 gC h0 n0)) X2 (own_some hret) hlk (by decide) (by decide) e2 ⟨rfl, N0, rfl⟩)
theorem own_pd9 : parseMethodDescriptor "(II)V" = some ⟨[.int, .int], none⟩ := by decide +kernel
abbrev own_y14 : MethodName := ⟨"java/lang/StringLatin1", "charAt", "([BI)C"⟩
theorem own_pn3 : plainName "java/lang/StringLatin1" = true := by first | (simp [plainName, overriddenIn]; done) | decide +kernel
theorem od_jdk_43_m_2_0 : decode jdk_43_method_2_code 0 = .ok (.iload_n 1, 1) := by decide +kernel
theorem od_jdk_43_m_2_1 : decode jdk_43_method_2_code 1 = .ok (.aload_n 0, 1) := by decide +kernel
theorem od_jdk_43_m_2_2 : decode jdk_43_method_2_code 2 = .ok (.arraylength, 1) := by decide +kernel
theorem od_jdk_43_m_2_3 : decode jdk_43_method_2_code 3 = .ok (.invokestatic 9, 3) := by decide +kernel
theorem od_jdk_43_m_2_6 : decode jdk_43_method_2_code 6 = .ok (.aload_n 0, 1) := by decide +kernel
theorem od_jdk_43_m_2_7 : decode jdk_43_method_2_code 7 = .ok (.iload_n 1, 1) := by decide +kernel
theorem od_jdk_43_m_2_8 : decode jdk_43_method_2_code 8 = .ok (.baload, 1) := by decide +kernel
theorem od_jdk_43_m_2_9 : decode jdk_43_method_2_code 9 = .ok (.sipush 255, 3) := by decide +kernel
theorem od_jdk_43_m_2_12 : decode jdk_43_method_2_code 12 = .ok (.iand, 1) := by decide +kernel
theorem od_jdk_43_m_2_13 : decode jdk_43_method_2_code 13 = .ok (.i2c, 1) := by decide +kernel
theorem od_jdk_43_m_2_14 : decode jdk_43_method_2_code 14 = .ok (.ireturn, 1) := by decide +kernel
theorem own_efslc1 (m : MethodId) (x0 : Addr) (x1 : Int32) : entryFrame m #[(.ref x0), (.int x1)] 2 = mkF m 0 #[rv x0, iv x1] [] := by first | (simp [entryFrame, mkF, argsToLocals, Value.category]; done) | rfl
def own_Qslc1 (Z : State) (a1 : Addr) (kb : ClassId) (x0 : Int32) (x1 : Int32) (x2 : Int32) (x3 : Int32) (wS : Value) (h0 : Heap) (n0 : Nat) : Option Value → Heap → List Loc → Prop := fun v h L => v = some (.int (nar .char ((x1 &&& (255 : Int32)).toUInt32.toUInt16.toUInt32.toInt32))) ∧ Fr n0 L ∧ h = h0
def own_Rslc1 : Room := { frames := 2, cells := 0, slots := 0, locals := 27 }
set_option maxRecDepth 65536 in
set_option maxHeartbeats 40000000 in
theorem own_rmslc1 (l : Launch) (Z : State) (a0 : Array Value) (hw : ∀ d ∈ tables_1, d.before a0 Z = true) (ws : List Jvm.Cond) (a1 : Addr) (kb : ClassId) (x0 : Int32) (x1 : Int32) (x2 : Int32) (x3 : Int32) (wS : Value) (h0 : Heap) (n0 : Nat) (Z0 : n0 ≤ h0.size) (pr0 : Arv Z h0 a1 kb .byte (4 : Int32) [(.int x0), (.int x1), (.int x2), (.int x3)] (.int 0)) (pr1 : Sta Z h0 "jdk/internal/util/Preconditions" "SIOOBE_FORMATTER" "Ljava/util/function/BiFunction;" wS) (rwS : wS.isRef = true) :
    own_Met l Z own_y14 jdk_43_method_2_code 2 (some .char) ws own_Rslc1 h0 #[(.ref a1), (.int 1)] (own_Qslc1 Z a1 kb x0 x1 x2 x3 wS h0 n0) own_Rslc1.cells own_Rslc1.slots := by
  refine own_start (plainFor_of_name own_pn3) ?_
  intro p e s m below meth c s₁ X0 hx hZ hby hml hret hlk hown hnm e0
  have hown : s.vm.findClass "java/lang/StringLatin1" = some m.cls := hown
  have hml : c.maxLocals = 2 := hml
  have N0 := Fr.nil n0
  refine own_cast (own_efslc1 m a1 (1 : Int32)) ?_
  refine own_s s₁ (mkF m 2 #[rv a1, iv 1] [(.ref a1), (.int 1)]) (fun _ k => XS.iloadN X0.here hx rfl (hb hby od_jdk_43_m_2_0) rfl  (XS.aloadN X0.here hx rfl (hb hby od_jdk_43_m_2_1) rfl rfl k)) ?_
  obtain ⟨cl1, Ar1, q1, S1, Nn1, H1, G1⟩ := id pr0
  refine own_s s₁ (mkF m 3 #[rv a1, iv 1] [(.int 4), (.int 1)]) (fun _ k => own_len X0 hx hZ e0 Ar1 S1 Nn1 (g := (mkF m 2 #[rv a1, iv 1] [(.ref a1), (.int 1)])) rfl rfl (hb hby od_jdk_43_m_2_2) k) ?_
  obtain ⟨v2, T2, L2, X2, hQ2, st2⟩ := own_callS X0 hx hZ (y := own_y12) (W := 0) hown (own_h hw 95 rfl) (own_h hw 84 rfl) (own_h hw 5 rfl) (own_h hw 85 rfl) (by decide) (own_rmciv l Z a0 hw [] (1 : Int32) (4 : Int32) wS h0 n0 Z0 pr1 (by decide) (by decide) rwS) (by decide) (by decide) (g := (mkF m 3 #[rv a1, iv 1] [(.int 4), (.int 1)])) rfl (by rw [hml]; rfl) (argsL := [(.int 1), (.int 4)]) (rest := []) rfl (lenOf own_pd9 rfl) rfl (by show 2 * 0 + _ ≤ _; exact Nat.le_of_eq rfl) (hb hby od_jdk_43_m_2_3) e0 (by decide) (by decide)
  obtain ⟨rfl, Nq2, e2⟩ := hQ2
  have N2 := Fr.app N0 Nq2
  refine own_s T2 (mkF m 6 #[rv a1, iv 1] []) st2 ?_
  refine own_s T2 (mkF m 8 #[rv a1, iv 1] [(.int 1), (.ref a1)]) (fun _ k => XS.aloadN X2.here hx rfl (hb hby od_jdk_43_m_2_6) rfl rfl (XS.iloadN X2.here hx rfl (hb hby od_jdk_43_m_2_7) rfl  k)) ?_
  obtain ⟨cl3, Ar3, q3, S3, Nn3, H3, G3⟩ := id pr0
  have hin3 : ¬ ((1 : Int32) < 0 ∨ cl3.slots.size ≤ ((1 : Int32)).toNatClampNeg) := (inb_of S3 ⟨by decide, by decide⟩)
  refine own_s T2 (mkF m 14 #[rv a1, iv 1] [(.int ((x1 &&& (255 : Int32)).toUInt32.toUInt16.toUInt32.toInt32))]) (fun _ k => X2.baloadBytes hx (j := (1 : Int32)) (v := (.int x1)) (own_at e2 Ar3.1) (State.isArrayOf_alike hZ.alike Ar3.2.1) Ar3.2.2 hin3 (Has.at H3 hin3 rfl) (g := (mkF m 8 #[rv a1, iv 1] [(.int 1), (.ref a1)])) rfl rfl (hb hby od_jdk_43_m_2_8) _ (XS.sipush X2.here hx rfl (hb hby od_jdk_43_m_2_9) (XS.iand X2.here hx rfl (hb hby od_jdk_43_m_2_12) rfl (XS.i2c X2.here hx rfl (hb hby od_jdk_43_m_2_13) rfl k)))) ?_
  exact own_finZ X2 hx (t := .char) hret (by simp) (z' := (nar .char ((x1 &&& (255 : Int32)).toUInt32.toUInt16.toUInt32.toInt32))) rfl (hb hby od_jdk_43_m_2_14) (own_end (Qv := (own_Qslc1 Z a1 kb x0 x1 x2 x3 wS h0 n0)) X2 (own_some hret) hlk (by decide) (by decide) e2 ⟨rfl, N2, rfl⟩)
theorem own_pd10 : parseMethodDescriptor "([B)I" = some ⟨[(.array .byte)], some .int⟩ := by decide +kernel
abbrev own_y15 : MethodName := ⟨"java/lang/StringUTF16", "checkIndex", "(I[B)V"⟩
theorem od_jdk_52_m_91_0 : decode jdk_52_method_91_code 0 = .ok (.iload_n 0, 1) := by decide +kernel
theorem od_jdk_52_m_91_1 : decode jdk_52_method_91_code 1 = .ok (.aload_n 1, 1) := by decide +kernel
theorem od_jdk_52_m_91_2 : decode jdk_52_method_91_code 2 = .ok (.invokestatic 48, 3) := by decide +kernel
theorem od_jdk_52_m_91_5 : decode jdk_52_method_91_code 5 = .ok (.invokestatic 414, 3) := by decide +kernel
theorem od_jdk_52_m_91_8 : decode jdk_52_method_91_code 8 = .ok (.return_, 1) := by decide +kernel
theorem own_efuci1 (m : MethodId) (x0 : Int32) (x1 : Addr) : entryFrame m #[(.int x0), (.ref x1)] 2 = mkF m 0 #[iv x0, rv x1] [] := by first | (simp [entryFrame, mkF, argsToLocals, Value.category]; done) | rfl
def own_Quci1 (Z : State) (a2 : Addr) (kb : ClassId) (vs : List Value) (wS : Value) (h0 : Heap) (n0 : Nat) : Option Value → Heap → List Loc → Prop := fun v h L => v = none ∧ Fr n0 L ∧ h = h0
def own_Ruci1 : Room := { frames := 2, cells := 0, slots := 0, locals := 27 }
set_option maxRecDepth 65536 in
set_option maxHeartbeats 40000000 in
theorem own_rmuci1 (l : Launch) (Z : State) (a0 : Array Value) (hw : ∀ d ∈ tables_1, d.before a0 Z = true) (ws : List Jvm.Cond) (a2 : Addr) (kb : ClassId) (vs : List Value) (wS : Value) (h0 : Heap) (n0 : Nat) (Z0 : n0 ≤ h0.size) (pr0 : Arv Z h0 a2 kb .byte (8 : Int32) vs (.int 0)) (pr1 : Sta Z h0 "jdk/internal/util/Preconditions" "SIOOBE_FORMATTER" "Ljava/util/function/BiFunction;" wS) (rwS : wS.isRef = true) :
    own_Met l Z own_y15 jdk_52_method_91_code 2 none ws own_Ruci1 h0 #[(.int 1), (.ref a2)] (own_Quci1 Z a2 kb vs wS h0 n0) own_Ruci1.cells own_Ruci1.slots := by
  refine own_start (plainFor_of_name own_pn0) ?_
  intro p e s m below meth c s₁ X0 hx hZ hby hml hret hlk hown hnm e0
  have hown : s.vm.findClass "java/lang/StringUTF16" = some m.cls := hown
  have hml : c.maxLocals = 2 := hml
  have N0 := Fr.nil n0
  refine own_cast (own_efuci1 m (1 : Int32) a2) ?_
  refine own_s s₁ (mkF m 2 #[iv 1, rv a2] [(.ref a2), (.int 1)]) (fun _ k => XS.iloadN X0.here hx rfl (hb hby od_jdk_52_m_91_0) rfl  (XS.aloadN X0.here hx rfl (hb hby od_jdk_52_m_91_1) rfl rfl k)) ?_
  obtain ⟨v1, T1, L1, X1, hQ1, st1⟩ := own_callS X0 hx hZ (y := own_y9) (W := 1) hown (own_h hw 80 rfl) (own_h hw 81 rfl) (own_h hw 19 rfl) (own_h hw 82 rfl) (by decide) (own_rmlen l Z a0 hw [] a2 kb vs h0 n0 Z0 pr0) (by decide) (by decide) (g := (mkF m 2 #[iv 1, rv a2] [(.ref a2), (.int 1)])) rfl (by rw [hml]; rfl) (argsL := [(.ref a2)]) (rest := [(.int 1)]) rfl (lenOf own_pd10 rfl) rfl (by show 2 * 0 + _ ≤ _; exact Nat.le_of_eq rfl) (hb hby od_jdk_52_m_91_2) e0 (by decide) (by decide)
  obtain ⟨rfl, Nq1, e1⟩ := hQ1
  have N1 := Fr.app N0 Nq1
  refine own_s T1 (mkF m 5 #[iv 1, rv a2] [(.int 4), (.int 1)]) st1 ?_
  obtain ⟨v2, T2, L2, X2, hQ2, st2⟩ := own_callS X1 hx hZ (y := own_y12) (W := 0) hown (own_h hw 83 rfl) (own_h hw 84 rfl) (own_h hw 5 rfl) (own_h hw 85 rfl) (by decide) (own_rmciv l Z a0 hw [] (1 : Int32) (4 : Int32) wS h0 n0 Z0 pr1 (by decide) (by decide) rwS) (by decide) (by decide) (g := (mkF m 5 #[iv 1, rv a2] [(.int 4), (.int 1)])) rfl (by rw [hml]; rfl) (argsL := [(.int 1), (.int 4)]) (rest := []) rfl (lenOf own_pd9 rfl) rfl (by show 2 * 0 + _ ≤ _; exact Nat.le_of_eq rfl) (hb hby od_jdk_52_m_91_5) e1 (by decide) (by decide)
  obtain ⟨rfl, Nq2, e2⟩ := hQ2
  have N2 := Fr.app N1 Nq2
  refine own_s T2 (mkF m 8 #[iv 1, rv a2] []) st2 ?_
  exact own_finV X2 hx hret (hb hby od_jdk_52_m_91_8) (own_end (Qv := (own_Quci1 Z a2 kb vs wS h0 n0)) X2 (fun _ => rfl) hlk (by decide) (by decide) e2 ⟨rfl, N2, rfl⟩)
theorem own_pd11 : parseMethodDescriptor "(I[B)V" = some ⟨[.int, (.array .byte)], none⟩ := by decide +kernel
abbrev own_y16 : MethodName := ⟨"java/lang/StringUTF16", "charAt", "([BI)C"⟩
theorem od_jdk_52_m_83_0 : decode jdk_52_method_83_code 0 = .ok (.iload_n 1, 1) := by decide +kernel
theorem od_jdk_52_m_83_1 : decode jdk_52_method_83_code 1 = .ok (.aload_n 0, 1) := by decide +kernel
theorem od_jdk_52_m_83_2 : decode jdk_52_method_83_code 2 = .ok (.invokestatic 67, 3) := by decide +kernel
theorem od_jdk_52_m_83_5 : decode jdk_52_method_83_code 5 = .ok (.aload_n 0, 1) := by decide +kernel
theorem od_jdk_52_m_83_6 : decode jdk_52_method_83_code 6 = .ok (.iload_n 1, 1) := by decide +kernel
theorem od_jdk_52_m_83_7 : decode jdk_52_method_83_code 7 = .ok (.invokestatic 71, 3) := by decide +kernel
theorem od_jdk_52_m_83_10 : decode jdk_52_method_83_code 10 = .ok (.ireturn, 1) := by decide +kernel
theorem own_efuca1 (m : MethodId) (x0 : Addr) (x1 : Int32) : entryFrame m #[(.ref x0), (.int x1)] 2 = mkF m 0 #[rv x0, iv x1] [] := by first | (simp [entryFrame, mkF, argsToLocals, Value.category]; done) | rfl
def own_Quca1 (Z : State) (a1 : Addr) (kb : ClassId) (v0 : Value) (v1 : Value) (x : Int32) (y : Int32) (v4 : Value) (v5 : Value) (v6 : Value) (v7 : Value) (wS : Value) (h0 : Heap) (n0 : Nat) : Option Value → Heap → List Loc → Prop := fun v h L => v = some (.int (nar .char (nar .char ((((x &&& (255 : Int32)) <<< ((0 : Int32) &&& 31)) ||| ((y &&& (255 : Int32)) <<< ((8 : Int32) &&& 31))).toUInt32.toUInt16.toUInt32.toInt32)))) ∧ Fr n0 L ∧ h = h0
def own_Ruca1 : Room := { frames := 3, cells := 0, slots := 0, locals := 40 }
set_option maxRecDepth 65536 in
set_option maxHeartbeats 40000000 in
theorem own_rmuca1 (l : Launch) (Z : State) (a0 : Array Value) (hw : ∀ d ∈ tables_1, d.before a0 Z = true) (ws : List Jvm.Cond) (a1 : Addr) (kb : ClassId) (v0 : Value) (v1 : Value) (x : Int32) (y : Int32) (v4 : Value) (v5 : Value) (v6 : Value) (v7 : Value) (wS : Value) (h0 : Heap) (n0 : Nat) (Z0 : n0 ≤ h0.size) (pr0 : Arv Z h0 a1 kb .byte (8 : Int32) [v0, v1, (.int x), (.int y), v4, v5, v6, v7] (.int 0)) (pr1 : Sta Z h0 "jdk/internal/util/Preconditions" "SIOOBE_FORMATTER" "Ljava/util/function/BiFunction;" wS) (pr2 : Sta Z h0 "java/lang/StringUTF16" "$assertionsDisabled" "Z" (.int 1)) (pr3 : Sta Z h0 "java/lang/StringUTF16" "HI_BYTE_SHIFT" "I" (.int 0)) (pr4 : Sta Z h0 "java/lang/StringUTF16" "LO_BYTE_SHIFT" "I" (.int 8)) (rwS : wS.isRef = true) :
    own_Met l Z own_y16 jdk_52_method_83_code 2 (some .char) ws own_Ruca1 h0 #[(.ref a1), (.int 1)] (own_Quca1 Z a1 kb v0 v1 x y v4 v5 v6 v7 wS h0 n0) own_Ruca1.cells own_Ruca1.slots := by
  refine own_start (plainFor_of_name own_pn0) ?_
  intro p e s m below meth c s₁ X0 hx hZ hby hml hret hlk hown hnm e0
  have hown : s.vm.findClass "java/lang/StringUTF16" = some m.cls := hown
  have hml : c.maxLocals = 2 := hml
  have N0 := Fr.nil n0
  refine own_cast (own_efuca1 m a1 (1 : Int32)) ?_
  refine own_s s₁ (mkF m 2 #[rv a1, iv 1] [(.ref a1), (.int 1)]) (fun _ k => XS.iloadN X0.here hx rfl (hb hby od_jdk_52_m_83_0) rfl  (XS.aloadN X0.here hx rfl (hb hby od_jdk_52_m_83_1) rfl rfl k)) ?_
  obtain ⟨v1, T1, L1, X1, hQ1, st1⟩ := own_callS X0 hx hZ (y := own_y15) (W := 0) hown (own_h hw 77 rfl) (own_h hw 78 rfl) (own_h hw 19 rfl) (own_h hw 79 rfl) (by decide) (own_rmuci1 l Z a0 hw [] a1 kb [v0, v1, (.int x), (.int y), v4, v5, v6, v7] wS h0 n0 Z0 pr0 pr1 rwS) (by decide) (by decide) (g := (mkF m 2 #[rv a1, iv 1] [(.ref a1), (.int 1)])) rfl (by rw [hml]; rfl) (argsL := [(.int 1), (.ref a1)]) (rest := []) rfl (lenOf own_pd11 rfl) rfl (by show 2 * 0 + _ ≤ _; exact Nat.le_of_eq rfl) (hb hby od_jdk_52_m_83_2) e0 (by decide) (by decide)
  obtain ⟨rfl, Nq1, e1⟩ := hQ1
  have N1 := Fr.app N0 Nq1
  refine own_s T1 (mkF m 5 #[rv a1, iv 1] []) st1 ?_
  refine own_s T1 (mkF m 7 #[rv a1, iv 1] [(.int 1), (.ref a1)]) (fun _ k => XS.aloadN X1.here hx rfl (hb hby od_jdk_52_m_83_5) rfl rfl (XS.iloadN X1.here hx rfl (hb hby od_jdk_52_m_83_6) rfl  k)) ?_
  obtain ⟨v2, T2, L2, X2, hQ2, st2⟩ := own_callS X1 hx hZ (y := own_y10) (W := 0) hown (own_h hw 52 rfl) (own_h hw 53 rfl) (own_h hw 19 rfl) (own_h hw 54 rfl) (by decide) (own_rmgc1 l Z a0 hw [] a1 kb v0 v1 x y v4 v5 v6 v7 h0 n0 Z0 pr0 pr2 pr3 pr4) (by decide) (by decide) (g := (mkF m 7 #[rv a1, iv 1] [(.int 1), (.ref a1)])) rfl (by rw [hml]; rfl) (argsL := [(.ref a1), (.int 1)]) (rest := []) rfl (lenOf own_pd7 rfl) rfl (by show 2 * 0 + _ ≤ _; exact Nat.le_of_eq rfl) (hb hby od_jdk_52_m_83_7) e1 (by decide) (by decide)
  obtain ⟨rfl, Nq2, e2⟩ := hQ2
  have N2 := Fr.app N1 Nq2
  refine own_s T2 (mkF m 10 #[rv a1, iv 1] [(.int (nar .char ((((x &&& (255 : Int32)) <<< ((0 : Int32) &&& 31)) ||| ((y &&& (255 : Int32)) <<< ((8 : Int32) &&& 31))).toUInt32.toUInt16.toUInt32.toInt32)))]) st2 ?_
  exact own_finZ X2 hx (t := .char) hret (by simp) (z' := (nar .char (nar .char ((((x &&& (255 : Int32)) <<< ((0 : Int32) &&& 31)) ||| ((y &&& (255 : Int32)) <<< ((8 : Int32) &&& 31))).toUInt32.toUInt16.toUInt32.toInt32)))) rfl (hb hby od_jdk_52_m_83_10) (own_end (Qv := (own_Quca1 Z a1 kb v0 v1 x y v4 v5 v6 v7 wS h0 n0)) X2 (own_some hret) hlk (by decide) (by decide) e2 ⟨rfl, N2, rfl⟩)
theorem own_pd12 : parseMethodDescriptor "()Z" = some ⟨[], some .boolean⟩ := by decide +kernel
abbrev own_y17 : MethodName := ⟨"java/lang/String", "charAt", "(I)C"⟩
theorem od_jdk_42_m_56_0 : decode jdk_42_method_56_code 0 = .ok (.aload_n 0, 1) := by decide +kernel
theorem od_jdk_42_m_56_1 : decode jdk_42_method_56_code 1 = .ok (.invokevirtual 492, 3) := by decide +kernel
theorem od_jdk_42_m_56_4 : decode jdk_42_method_56_code 4 = .ok (.ifCond .eq 12, 3) := by decide +kernel
theorem od_jdk_42_m_56_7 : decode jdk_42_method_56_code 7 = .ok (.aload_n 0, 1) := by decide +kernel
theorem od_jdk_42_m_56_8 : decode jdk_42_method_56_code 8 = .ok (.getfield 9, 3) := by decide +kernel
theorem od_jdk_42_m_56_11 : decode jdk_42_method_56_code 11 = .ok (.iload_n 1, 1) := by decide +kernel
theorem od_jdk_42_m_56_12 : decode jdk_42_method_56_code 12 = .ok (.invokestatic 495, 3) := by decide +kernel
theorem od_jdk_42_m_56_15 : decode jdk_42_method_56_code 15 = .ok (.ireturn, 1) := by decide +kernel
theorem od_jdk_42_m_56_16 : decode jdk_42_method_56_code 16 = .ok (.aload_n 0, 1) := by decide +kernel
theorem od_jdk_42_m_56_17 : decode jdk_42_method_56_code 17 = .ok (.getfield 9, 3) := by decide +kernel
theorem od_jdk_42_m_56_20 : decode jdk_42_method_56_code 20 = .ok (.iload_n 1, 1) := by decide +kernel
theorem od_jdk_42_m_56_21 : decode jdk_42_method_56_code 21 = .ok (.invokestatic 498, 3) := by decide +kernel
theorem od_jdk_42_m_56_24 : decode jdk_42_method_56_code 24 = .ok (.ireturn, 1) := by decide +kernel
theorem own_efca1 (m : MethodId) (x0 : Addr) (x1 : Int32) : entryFrame m #[(.ref x0), (.int x1)] 2 = mkF m 0 #[rv x0, iv x1] [] := by first | (simp [entryFrame, mkF, argsToLocals, Value.category]; done) | rfl
def own_Qca1 (Z : State) (a1 : Addr) (ch0 : Int32) (ch1 : Int32) (ch2 : Int32) (ch3 : Int32) (gC : Int32) (wS : Value) (h0 : Heap) (n0 : Nat) : Option Value → Heap → List Loc → Prop := fun v h L => v = some (.int ch1) ∧ Fr n0 L ∧ h = h0
def own_Rca1 : Room := { frames := 4, cells := 0, slots := 0, locals := 53 }
set_option maxRecDepth 65536 in
set_option maxHeartbeats 40000000 in
theorem own_rmca1 (l : Launch) (Z : State) (a0 : Array Value) (hw : ∀ d ∈ tables_1, d.before a0 Z = true) (ws : List Jvm.Cond) (a1 : Addr) (ch0 : Int32) (ch1 : Int32) (ch2 : Int32) (ch3 : Int32) (gC : Int32) (wS : Value) (h0 : Heap) (n0 : Nat) (Z0 : n0 ≤ h0.size) (hStr : own_Str Z h0 a1 ch0 ch1 ch2 ch3) (hr1 : own_Ch ch1) (pr2 : Sta Z h0 "java/lang/String" "COMPACT_STRINGS" "Z" (.int gC)) (hG : ¬ gC = (0 : Int32)) (pr4 : Sta Z h0 "jdk/internal/util/Preconditions" "SIOOBE_FORMATTER" "Ljava/util/function/BiFunction;" wS) (pr5 : Sta Z h0 "java/lang/StringUTF16" "$assertionsDisabled" "Z" (.int 1)) (pr6 : Sta Z h0 "java/lang/StringUTF16" "HI_BYTE_SHIFT" "I" (.int 0)) (pr7 : Sta Z h0 "java/lang/StringUTF16" "LO_BYTE_SHIFT" "I" (.int 8)) (rwS : wS.isRef = true) :
    own_Met l Z own_y17 jdk_42_method_56_code 2 (some .char) ws own_Rca1 h0 #[(.ref a1), (.int 1)] (own_Qca1 Z a1 ch0 ch1 ch2 ch3 gC wS h0 n0) own_Rca1.cells own_Rca1.slots := by
  refine own_start (plainFor_of_name own_pn1) ?_
  intro p e s m below meth c s₁ X0 hx hZ hby hml hret hlk hown hnm e0
  have hown : s.vm.findClass "java/lang/String" = some m.cls := hown
  have hml : c.maxLocals = 2 := hml
  have N0 := Fr.nil n0
  refine own_cast (own_efca1 m a1 (1 : Int32)) ?_
  obtain ⟨Ea, hStr⟩ := hStr
  rcases hStr with ⟨bb, kbb, Fc, Fv, Av, hl0, hl1, hl2, hl3⟩ | ⟨bb, kbb, Fc, Fv, Av⟩
  · refine own_s s₁ (mkF m 1 #[rv a1, iv 1] [(.ref a1)]) (fun _ k => XS.aloadN X0.here hx rfl (hb hby od_jdk_42_m_56_0) rfl rfl k) ?_
    obtain ⟨v1, T1, L1, X1, hQ1, st1⟩ := own_callV X0 hx hZ (y := own_y13) (z := own_y13) (W := 0) (a := a1) hown (own_h hw 69 rfl) (own_h hw 70 rfl) (notFace_of_selects (args := #[]) (mvT hZ (own_h hw 72 rfl))) (own_h hw 72 rfl) (own_h hw 71 rfl) (own_h hw 5 rfl) (own_h hw 73 rfl) (by decide) (own_rmil0 l Z a0 hw [] a1 gC h0 n0 Z0 Fc pr2 hG) (by decide) (by decide) Ea (g := (mkF m 1 #[rv a1, iv 1] [(.ref a1)])) rfl (by rw [hml]; rfl) (argsL := []) (rest := []) rfl (lenOf own_pd12 rfl) rfl (by show 2 * 0 + _ ≤ _; exact Nat.le_of_eq rfl) (hb hby od_jdk_42_m_56_1) e0 (by decide) (by decide)
    obtain ⟨rfl, Nq1, e1⟩ := hQ1
    have N1 := Fr.app N0 Nq1
    refine own_s T1 (mkF m 4 #[rv a1, iv 1] [(.int 1)]) st1 ?_
    refine own_s T1 (mkF m 8 #[rv a1, iv 1] [(.ref a1)]) (fun _ k => XS.ifNo X1.here hx rfl (hb hby od_jdk_42_m_56_4) rfl ((if0 _ _).trans (feq (by decide : ¬ ((1 : Int32) = (0 : Int32)))).1) (XS.aloadN X1.here hx rfl (hb hby od_jdk_42_m_56_7) rfl rfl k)) ?_
    obtain ⟨T2, X2, e2, st2⟩ := getF X1 hx hZ hown (host := "") (Or.inl (own_h hw 30 rfl)) Via.refl e1 Fv (g := (mkF m 8 #[rv a1, iv 1] [(.ref a1)])) rfl rfl (hb hby od_jdk_42_m_56_8)
    refine own_s T2 (mkF m 11 #[rv a1, iv 1] [(.ref bb)]) st2 ?_
    refine own_s T2 (mkF m 12 #[rv a1, iv 1] [(.int 1), (.ref bb)]) (fun _ k => XS.iloadN X2.here hx rfl (hb hby od_jdk_42_m_56_11) rfl  k) ?_
    obtain ⟨v3, T3, L3, X3, hQ3, st3⟩ := own_callS X2 hx hZ (y := own_y14) (W := 0) hown (own_h hw 91 rfl) (own_h hw 92 rfl) (own_h hw 93 rfl) (own_h hw 94 rfl) (by decide) (own_rmslc1 l Z a0 hw [] bb kbb (own_by ch0) (own_by ch1) (own_by ch2) (own_by ch3) wS h0 n0 Z0 Av pr4 rwS) (by decide) (by decide) (g := (mkF m 12 #[rv a1, iv 1] [(.int 1), (.ref bb)])) rfl (by rw [hml]; rfl) (argsL := [(.ref bb), (.int 1)]) (rest := []) rfl (lenOf own_pd7 rfl) rfl (by show 2 * 0 + _ ≤ _; exact Nat.le_of_eq rfl) (hb hby od_jdk_42_m_56_12) e2 (by decide) (by decide)
    obtain ⟨rfl, Nq3, e3⟩ := hQ3
    have N3 := Fr.app N1 Nq3
    refine own_s T3 (mkF m 15 #[rv a1, iv 1] [(.int (nar .char (((own_by ch1) &&& (255 : Int32)).toUInt32.toUInt16.toUInt32.toInt32)))]) st3 ?_
    exact own_finZ X3 hx (t := .char) hret (by simp) (z' := ch1) (by rw [own_latC hr1 hl1]; exact own_narC hr1) (hb hby od_jdk_42_m_56_15) (own_end (Qv := (own_Qca1 Z a1 ch0 ch1 ch2 ch3 gC wS h0 n0)) X3 (own_some hret) hlk (by decide) (by decide) e3 ⟨rfl, N3, rfl⟩)
  · refine own_s s₁ (mkF m 1 #[rv a1, iv 1] [(.ref a1)]) (fun _ k => XS.aloadN X0.here hx rfl (hb hby od_jdk_42_m_56_0) rfl rfl k) ?_
    obtain ⟨v4, T4, L4, X4, hQ4, st4⟩ := own_callV X0 hx hZ (y := own_y13) (z := own_y13) (W := 0) (a := a1) hown (own_h hw 69 rfl) (own_h hw 70 rfl) (notFace_of_selects (args := #[]) (mvT hZ (own_h hw 72 rfl))) (own_h hw 72 rfl) (own_h hw 71 rfl) (own_h hw 5 rfl) (own_h hw 73 rfl) (by decide) (own_rmil1 l Z a0 hw [] a1 gC h0 n0 Z0 Fc pr2 hG) (by decide) (by decide) Ea (g := (mkF m 1 #[rv a1, iv 1] [(.ref a1)])) rfl (by rw [hml]; rfl) (argsL := []) (rest := []) rfl (lenOf own_pd12 rfl) rfl (by show 2 * 0 + _ ≤ _; exact Nat.le_of_eq rfl) (hb hby od_jdk_42_m_56_1) e0 (by decide) (by decide)
    obtain ⟨rfl, Nq4, e4⟩ := hQ4
    have N4 := Fr.app N0 Nq4
    refine own_s T4 (mkF m 4 #[rv a1, iv 1] [(.int 0)]) st4 ?_
    refine own_s T4 (mkF m 17 #[rv a1, iv 1] [(.ref a1)]) (fun _ k => XS.ifYes X4.here hx rfl (pc0 := 4) (pc' := 16) rfl (hb hby od_jdk_42_m_56_4) rfl ((if0 _ _).trans (teq (by decide : ((0 : Int32) = (0 : Int32)))).1) (by decide) (by decide) (XS.aloadN X4.here hx rfl (hb hby od_jdk_42_m_56_16) rfl rfl k)) ?_
    obtain ⟨T5, X5, e5, st5⟩ := getF X4 hx hZ hown (host := "") (Or.inl (own_h hw 30 rfl)) Via.refl e4 Fv (g := (mkF m 17 #[rv a1, iv 1] [(.ref a1)])) rfl rfl (hb hby od_jdk_42_m_56_17)
    refine own_s T5 (mkF m 20 #[rv a1, iv 1] [(.ref bb)]) st5 ?_
    refine own_s T5 (mkF m 21 #[rv a1, iv 1] [(.int 1), (.ref bb)]) (fun _ k => XS.iloadN X5.here hx rfl (hb hby od_jdk_42_m_56_20) rfl  k) ?_
    obtain ⟨v6, T6, L6, X6, hQ6, st6⟩ := own_callS X5 hx hZ (y := own_y16) (W := 0) hown (own_h hw 74 rfl) (own_h hw 75 rfl) (own_h hw 19 rfl) (own_h hw 76 rfl) (by decide) (own_rmuca1 l Z a0 hw [] bb kbb (.int (own_lo ch0)) (.int (own_hi ch0)) (own_lo ch1) (own_hi ch1) (.int (own_lo ch2)) (.int (own_hi ch2)) (.int (own_lo ch3)) (.int (own_hi ch3)) wS h0 n0 Z0 Av pr4 pr5 pr6 pr7 rwS) (by decide) (by decide) (g := (mkF m 21 #[rv a1, iv 1] [(.int 1), (.ref bb)])) rfl (by rw [hml]; rfl) (argsL := [(.ref bb), (.int 1)]) (rest := []) rfl (lenOf own_pd7 rfl) rfl (by show 2 * 0 + _ ≤ _; exact Nat.le_of_eq rfl) (hb hby od_jdk_42_m_56_21) e5 (by decide) (by decide)
    obtain ⟨rfl, Nq6, e6⟩ := hQ6
    have N6 := Fr.app N4 Nq6
    refine own_s T6 (mkF m 24 #[rv a1, iv 1] [(.int (nar .char (nar .char (((((own_lo ch1) &&& (255 : Int32)) <<< ((0 : Int32) &&& 31)) ||| (((own_hi ch1) &&& (255 : Int32)) <<< ((8 : Int32) &&& 31))).toUInt32.toUInt16.toUInt32.toInt32))))]) st6 ?_
    exact own_finZ X6 hx (t := .char) hret (by simp) (z' := ch1) (by simp only [own_utfC hr1, own_narC hr1]) (hb hby od_jdk_42_m_56_24) (own_end (Qv := (own_Qca1 Z a1 ch0 ch1 ch2 ch3 gC wS h0 n0)) X6 (own_some hret) hlk (by decide) (by decide) e6 ⟨rfl, N6, rfl⟩)
theorem own_efslc2 (m : MethodId) (x0 : Addr) (x1 : Int32) : entryFrame m #[(.ref x0), (.int x1)] 2 = mkF m 0 #[rv x0, iv x1] [] := by first | (simp [entryFrame, mkF, argsToLocals, Value.category]; done) | rfl
def own_Qslc2 (Z : State) (a1 : Addr) (kb : ClassId) (x0 : Int32) (x1 : Int32) (x2 : Int32) (x3 : Int32) (wS : Value) (h0 : Heap) (n0 : Nat) : Option Value → Heap → List Loc → Prop := fun v h L => v = some (.int (nar .char ((x2 &&& (255 : Int32)).toUInt32.toUInt16.toUInt32.toInt32))) ∧ Fr n0 L ∧ h = h0
def own_Rslc2 : Room := { frames := 2, cells := 0, slots := 0, locals := 27 }
set_option maxRecDepth 65536 in
set_option maxHeartbeats 40000000 in
theorem own_rmslc2 (l : Launch) (Z : State) (a0 : Array Value) (hw : ∀ d ∈ tables_1, d.before a0 Z = true) (ws : List Jvm.Cond) (a1 : Addr) (kb : ClassId) (x0 : Int32) (x1 : Int32) (x2 : Int32) (x3 : Int32) (wS : Value) (h0 : Heap) (n0 : Nat) (Z0 : n0 ≤ h0.size) (pr0 : Arv Z h0 a1 kb .byte (4 : Int32) [(.int x0), (.int x1), (.int x2), (.int x3)] (.int 0)) (pr1 : Sta Z h0 "jdk/internal/util/Preconditions" "SIOOBE_FORMATTER" "Ljava/util/function/BiFunction;" wS) (rwS : wS.isRef = true) :
    own_Met l Z own_y14 jdk_43_method_2_code 2 (some .char) ws own_Rslc2 h0 #[(.ref a1), (.int 2)] (own_Qslc2 Z a1 kb x0 x1 x2 x3 wS h0 n0) own_Rslc2.cells own_Rslc2.slots := by
  refine own_start (plainFor_of_name own_pn3) ?_
  intro p e s m below meth c s₁ X0 hx hZ hby hml hret hlk hown hnm e0
  have hown : s.vm.findClass "java/lang/StringLatin1" = some m.cls := hown
  have hml : c.maxLocals = 2 := hml
  have N0 := Fr.nil n0
  refine own_cast (own_efslc2 m a1 (2 : Int32)) ?_
  refine own_s s₁ (mkF m 2 #[rv a1, iv 2] [(.ref a1), (.int 2)]) (fun _ k => XS.iloadN X0.here hx rfl (hb hby od_jdk_43_m_2_0) rfl  (XS.aloadN X0.here hx rfl (hb hby od_jdk_43_m_2_1) rfl rfl k)) ?_
  obtain ⟨cl1, Ar1, q1, S1, Nn1, H1, G1⟩ := id pr0
  refine own_s s₁ (mkF m 3 #[rv a1, iv 2] [(.int 4), (.int 2)]) (fun _ k => own_len X0 hx hZ e0 Ar1 S1 Nn1 (g := (mkF m 2 #[rv a1, iv 2] [(.ref a1), (.int 2)])) rfl rfl (hb hby od_jdk_43_m_2_2) k) ?_
  obtain ⟨v2, T2, L2, X2, hQ2, st2⟩ := own_callS X0 hx hZ (y := own_y12) (W := 0) hown (own_h hw 95 rfl) (own_h hw 84 rfl) (own_h hw 5 rfl) (own_h hw 85 rfl) (by decide) (own_rmciv l Z a0 hw [] (2 : Int32) (4 : Int32) wS h0 n0 Z0 pr1 (by decide) (by decide) rwS) (by decide) (by decide) (g := (mkF m 3 #[rv a1, iv 2] [(.int 4), (.int 2)])) rfl (by rw [hml]; rfl) (argsL := [(.int 2), (.int 4)]) (rest := []) rfl (lenOf own_pd9 rfl) rfl (by show 2 * 0 + _ ≤ _; exact Nat.le_of_eq rfl) (hb hby od_jdk_43_m_2_3) e0 (by decide) (by decide)
  obtain ⟨rfl, Nq2, e2⟩ := hQ2
  have N2 := Fr.app N0 Nq2
  refine own_s T2 (mkF m 6 #[rv a1, iv 2] []) st2 ?_
  refine own_s T2 (mkF m 8 #[rv a1, iv 2] [(.int 2), (.ref a1)]) (fun _ k => XS.aloadN X2.here hx rfl (hb hby od_jdk_43_m_2_6) rfl rfl (XS.iloadN X2.here hx rfl (hb hby od_jdk_43_m_2_7) rfl  k)) ?_
  obtain ⟨cl3, Ar3, q3, S3, Nn3, H3, G3⟩ := id pr0
  have hin3 : ¬ ((2 : Int32) < 0 ∨ cl3.slots.size ≤ ((2 : Int32)).toNatClampNeg) := (inb_of S3 ⟨by decide, by decide⟩)
  refine own_s T2 (mkF m 14 #[rv a1, iv 2] [(.int ((x2 &&& (255 : Int32)).toUInt32.toUInt16.toUInt32.toInt32))]) (fun _ k => X2.baloadBytes hx (j := (2 : Int32)) (v := (.int x2)) (own_at e2 Ar3.1) (State.isArrayOf_alike hZ.alike Ar3.2.1) Ar3.2.2 hin3 (Has.at H3 hin3 rfl) (g := (mkF m 8 #[rv a1, iv 2] [(.int 2), (.ref a1)])) rfl rfl (hb hby od_jdk_43_m_2_8) _ (XS.sipush X2.here hx rfl (hb hby od_jdk_43_m_2_9) (XS.iand X2.here hx rfl (hb hby od_jdk_43_m_2_12) rfl (XS.i2c X2.here hx rfl (hb hby od_jdk_43_m_2_13) rfl k)))) ?_
  exact own_finZ X2 hx (t := .char) hret (by simp) (z' := (nar .char ((x2 &&& (255 : Int32)).toUInt32.toUInt16.toUInt32.toInt32))) rfl (hb hby od_jdk_43_m_2_14) (own_end (Qv := (own_Qslc2 Z a1 kb x0 x1 x2 x3 wS h0 n0)) X2 (own_some hret) hlk (by decide) (by decide) e2 ⟨rfl, N2, rfl⟩)
theorem own_efuci2 (m : MethodId) (x0 : Int32) (x1 : Addr) : entryFrame m #[(.int x0), (.ref x1)] 2 = mkF m 0 #[iv x0, rv x1] [] := by first | (simp [entryFrame, mkF, argsToLocals, Value.category]; done) | rfl
def own_Quci2 (Z : State) (a2 : Addr) (kb : ClassId) (vs : List Value) (wS : Value) (h0 : Heap) (n0 : Nat) : Option Value → Heap → List Loc → Prop := fun v h L => v = none ∧ Fr n0 L ∧ h = h0
def own_Ruci2 : Room := { frames := 2, cells := 0, slots := 0, locals := 27 }
set_option maxRecDepth 65536 in
set_option maxHeartbeats 40000000 in
theorem own_rmuci2 (l : Launch) (Z : State) (a0 : Array Value) (hw : ∀ d ∈ tables_1, d.before a0 Z = true) (ws : List Jvm.Cond) (a2 : Addr) (kb : ClassId) (vs : List Value) (wS : Value) (h0 : Heap) (n0 : Nat) (Z0 : n0 ≤ h0.size) (pr0 : Arv Z h0 a2 kb .byte (8 : Int32) vs (.int 0)) (pr1 : Sta Z h0 "jdk/internal/util/Preconditions" "SIOOBE_FORMATTER" "Ljava/util/function/BiFunction;" wS) (rwS : wS.isRef = true) :
    own_Met l Z own_y15 jdk_52_method_91_code 2 none ws own_Ruci2 h0 #[(.int 2), (.ref a2)] (own_Quci2 Z a2 kb vs wS h0 n0) own_Ruci2.cells own_Ruci2.slots := by
  refine own_start (plainFor_of_name own_pn0) ?_
  intro p e s m below meth c s₁ X0 hx hZ hby hml hret hlk hown hnm e0
  have hown : s.vm.findClass "java/lang/StringUTF16" = some m.cls := hown
  have hml : c.maxLocals = 2 := hml
  have N0 := Fr.nil n0
  refine own_cast (own_efuci2 m (2 : Int32) a2) ?_
  refine own_s s₁ (mkF m 2 #[iv 2, rv a2] [(.ref a2), (.int 2)]) (fun _ k => XS.iloadN X0.here hx rfl (hb hby od_jdk_52_m_91_0) rfl  (XS.aloadN X0.here hx rfl (hb hby od_jdk_52_m_91_1) rfl rfl k)) ?_
  obtain ⟨v1, T1, L1, X1, hQ1, st1⟩ := own_callS X0 hx hZ (y := own_y9) (W := 1) hown (own_h hw 80 rfl) (own_h hw 81 rfl) (own_h hw 19 rfl) (own_h hw 82 rfl) (by decide) (own_rmlen l Z a0 hw [] a2 kb vs h0 n0 Z0 pr0) (by decide) (by decide) (g := (mkF m 2 #[iv 2, rv a2] [(.ref a2), (.int 2)])) rfl (by rw [hml]; rfl) (argsL := [(.ref a2)]) (rest := [(.int 2)]) rfl (lenOf own_pd10 rfl) rfl (by show 2 * 0 + _ ≤ _; exact Nat.le_of_eq rfl) (hb hby od_jdk_52_m_91_2) e0 (by decide) (by decide)
  obtain ⟨rfl, Nq1, e1⟩ := hQ1
  have N1 := Fr.app N0 Nq1
  refine own_s T1 (mkF m 5 #[iv 2, rv a2] [(.int 4), (.int 2)]) st1 ?_
  obtain ⟨v2, T2, L2, X2, hQ2, st2⟩ := own_callS X1 hx hZ (y := own_y12) (W := 0) hown (own_h hw 83 rfl) (own_h hw 84 rfl) (own_h hw 5 rfl) (own_h hw 85 rfl) (by decide) (own_rmciv l Z a0 hw [] (2 : Int32) (4 : Int32) wS h0 n0 Z0 pr1 (by decide) (by decide) rwS) (by decide) (by decide) (g := (mkF m 5 #[iv 2, rv a2] [(.int 4), (.int 2)])) rfl (by rw [hml]; rfl) (argsL := [(.int 2), (.int 4)]) (rest := []) rfl (lenOf own_pd9 rfl) rfl (by show 2 * 0 + _ ≤ _; exact Nat.le_of_eq rfl) (hb hby od_jdk_52_m_91_5) e1 (by decide) (by decide)
  obtain ⟨rfl, Nq2, e2⟩ := hQ2
  have N2 := Fr.app N1 Nq2
  refine own_s T2 (mkF m 8 #[iv 2, rv a2] []) st2 ?_
  exact own_finV X2 hx hret (hb hby od_jdk_52_m_91_8) (own_end (Qv := (own_Quci2 Z a2 kb vs wS h0 n0)) X2 (fun _ => rfl) hlk (by decide) (by decide) e2 ⟨rfl, N2, rfl⟩)
theorem own_efuca2 (m : MethodId) (x0 : Addr) (x1 : Int32) : entryFrame m #[(.ref x0), (.int x1)] 2 = mkF m 0 #[rv x0, iv x1] [] := by first | (simp [entryFrame, mkF, argsToLocals, Value.category]; done) | rfl
def own_Quca2 (Z : State) (a1 : Addr) (kb : ClassId) (v0 : Value) (v1 : Value) (v2 : Value) (v3 : Value) (x : Int32) (y : Int32) (v6 : Value) (v7 : Value) (wS : Value) (h0 : Heap) (n0 : Nat) : Option Value → Heap → List Loc → Prop := fun v h L => v = some (.int (nar .char (nar .char ((((x &&& (255 : Int32)) <<< ((0 : Int32) &&& 31)) ||| ((y &&& (255 : Int32)) <<< ((8 : Int32) &&& 31))).toUInt32.toUInt16.toUInt32.toInt32)))) ∧ Fr n0 L ∧ h = h0
def own_Ruca2 : Room := { frames := 3, cells := 0, slots := 0, locals := 40 }
set_option maxRecDepth 65536 in
set_option maxHeartbeats 40000000 in
theorem own_rmuca2 (l : Launch) (Z : State) (a0 : Array Value) (hw : ∀ d ∈ tables_1, d.before a0 Z = true) (ws : List Jvm.Cond) (a1 : Addr) (kb : ClassId) (v0 : Value) (v1 : Value) (v2 : Value) (v3 : Value) (x : Int32) (y : Int32) (v6 : Value) (v7 : Value) (wS : Value) (h0 : Heap) (n0 : Nat) (Z0 : n0 ≤ h0.size) (pr0 : Arv Z h0 a1 kb .byte (8 : Int32) [v0, v1, v2, v3, (.int x), (.int y), v6, v7] (.int 0)) (pr1 : Sta Z h0 "jdk/internal/util/Preconditions" "SIOOBE_FORMATTER" "Ljava/util/function/BiFunction;" wS) (pr2 : Sta Z h0 "java/lang/StringUTF16" "$assertionsDisabled" "Z" (.int 1)) (pr3 : Sta Z h0 "java/lang/StringUTF16" "HI_BYTE_SHIFT" "I" (.int 0)) (pr4 : Sta Z h0 "java/lang/StringUTF16" "LO_BYTE_SHIFT" "I" (.int 8)) (rwS : wS.isRef = true) :
    own_Met l Z own_y16 jdk_52_method_83_code 2 (some .char) ws own_Ruca2 h0 #[(.ref a1), (.int 2)] (own_Quca2 Z a1 kb v0 v1 v2 v3 x y v6 v7 wS h0 n0) own_Ruca2.cells own_Ruca2.slots := by
  refine own_start (plainFor_of_name own_pn0) ?_
  intro p e s m below meth c s₁ X0 hx hZ hby hml hret hlk hown hnm e0
  have hown : s.vm.findClass "java/lang/StringUTF16" = some m.cls := hown
  have hml : c.maxLocals = 2 := hml
  have N0 := Fr.nil n0
  refine own_cast (own_efuca2 m a1 (2 : Int32)) ?_
  refine own_s s₁ (mkF m 2 #[rv a1, iv 2] [(.ref a1), (.int 2)]) (fun _ k => XS.iloadN X0.here hx rfl (hb hby od_jdk_52_m_83_0) rfl  (XS.aloadN X0.here hx rfl (hb hby od_jdk_52_m_83_1) rfl rfl k)) ?_
  obtain ⟨v1, T1, L1, X1, hQ1, st1⟩ := own_callS X0 hx hZ (y := own_y15) (W := 0) hown (own_h hw 77 rfl) (own_h hw 78 rfl) (own_h hw 19 rfl) (own_h hw 79 rfl) (by decide) (own_rmuci2 l Z a0 hw [] a1 kb [v0, v1, v2, v3, (.int x), (.int y), v6, v7] wS h0 n0 Z0 pr0 pr1 rwS) (by decide) (by decide) (g := (mkF m 2 #[rv a1, iv 2] [(.ref a1), (.int 2)])) rfl (by rw [hml]; rfl) (argsL := [(.int 2), (.ref a1)]) (rest := []) rfl (lenOf own_pd11 rfl) rfl (by show 2 * 0 + _ ≤ _; exact Nat.le_of_eq rfl) (hb hby od_jdk_52_m_83_2) e0 (by decide) (by decide)
  obtain ⟨rfl, Nq1, e1⟩ := hQ1
  have N1 := Fr.app N0 Nq1
  refine own_s T1 (mkF m 5 #[rv a1, iv 2] []) st1 ?_
  refine own_s T1 (mkF m 7 #[rv a1, iv 2] [(.int 2), (.ref a1)]) (fun _ k => XS.aloadN X1.here hx rfl (hb hby od_jdk_52_m_83_5) rfl rfl (XS.iloadN X1.here hx rfl (hb hby od_jdk_52_m_83_6) rfl  k)) ?_
  obtain ⟨v2, T2, L2, X2, hQ2, st2⟩ := own_callS X1 hx hZ (y := own_y10) (W := 0) hown (own_h hw 52 rfl) (own_h hw 53 rfl) (own_h hw 19 rfl) (own_h hw 54 rfl) (by decide) (own_rmgc2 l Z a0 hw [] a1 kb v0 v1 v2 v3 x y v6 v7 h0 n0 Z0 pr0 pr2 pr3 pr4) (by decide) (by decide) (g := (mkF m 7 #[rv a1, iv 2] [(.int 2), (.ref a1)])) rfl (by rw [hml]; rfl) (argsL := [(.ref a1), (.int 2)]) (rest := []) rfl (lenOf own_pd7 rfl) rfl (by show 2 * 0 + _ ≤ _; exact Nat.le_of_eq rfl) (hb hby od_jdk_52_m_83_7) e1 (by decide) (by decide)
  obtain ⟨rfl, Nq2, e2⟩ := hQ2
  have N2 := Fr.app N1 Nq2
  refine own_s T2 (mkF m 10 #[rv a1, iv 2] [(.int (nar .char ((((x &&& (255 : Int32)) <<< ((0 : Int32) &&& 31)) ||| ((y &&& (255 : Int32)) <<< ((8 : Int32) &&& 31))).toUInt32.toUInt16.toUInt32.toInt32)))]) st2 ?_
  exact own_finZ X2 hx (t := .char) hret (by simp) (z' := (nar .char (nar .char ((((x &&& (255 : Int32)) <<< ((0 : Int32) &&& 31)) ||| ((y &&& (255 : Int32)) <<< ((8 : Int32) &&& 31))).toUInt32.toUInt16.toUInt32.toInt32)))) rfl (hb hby od_jdk_52_m_83_10) (own_end (Qv := (own_Quca2 Z a1 kb v0 v1 v2 v3 x y v6 v7 wS h0 n0)) X2 (own_some hret) hlk (by decide) (by decide) e2 ⟨rfl, N2, rfl⟩)
theorem own_efca2 (m : MethodId) (x0 : Addr) (x1 : Int32) : entryFrame m #[(.ref x0), (.int x1)] 2 = mkF m 0 #[rv x0, iv x1] [] := by first | (simp [entryFrame, mkF, argsToLocals, Value.category]; done) | rfl
def own_Qca2 (Z : State) (a1 : Addr) (ch0 : Int32) (ch1 : Int32) (ch2 : Int32) (ch3 : Int32) (gC : Int32) (wS : Value) (h0 : Heap) (n0 : Nat) : Option Value → Heap → List Loc → Prop := fun v h L => v = some (.int ch2) ∧ Fr n0 L ∧ h = h0
def own_Rca2 : Room := { frames := 4, cells := 0, slots := 0, locals := 53 }
set_option maxRecDepth 65536 in
set_option maxHeartbeats 40000000 in
theorem own_rmca2 (l : Launch) (Z : State) (a0 : Array Value) (hw : ∀ d ∈ tables_1, d.before a0 Z = true) (ws : List Jvm.Cond) (a1 : Addr) (ch0 : Int32) (ch1 : Int32) (ch2 : Int32) (ch3 : Int32) (gC : Int32) (wS : Value) (h0 : Heap) (n0 : Nat) (Z0 : n0 ≤ h0.size) (hStr : own_Str Z h0 a1 ch0 ch1 ch2 ch3) (hr2 : own_Ch ch2) (pr2 : Sta Z h0 "java/lang/String" "COMPACT_STRINGS" "Z" (.int gC)) (hG : ¬ gC = (0 : Int32)) (pr4 : Sta Z h0 "jdk/internal/util/Preconditions" "SIOOBE_FORMATTER" "Ljava/util/function/BiFunction;" wS) (pr5 : Sta Z h0 "java/lang/StringUTF16" "$assertionsDisabled" "Z" (.int 1)) (pr6 : Sta Z h0 "java/lang/StringUTF16" "HI_BYTE_SHIFT" "I" (.int 0)) (pr7 : Sta Z h0 "java/lang/StringUTF16" "LO_BYTE_SHIFT" "I" (.int 8)) (rwS : wS.isRef = true) :
    own_Met l Z own_y17 jdk_42_method_56_code 2 (some .char) ws own_Rca2 h0 #[(.ref a1), (.int 2)] (own_Qca2 Z a1 ch0 ch1 ch2 ch3 gC wS h0 n0) own_Rca2.cells own_Rca2.slots := by
  refine own_start (plainFor_of_name own_pn1) ?_
  intro p e s m below meth c s₁ X0 hx hZ hby hml hret hlk hown hnm e0
  have hown : s.vm.findClass "java/lang/String" = some m.cls := hown
  have hml : c.maxLocals = 2 := hml
  have N0 := Fr.nil n0
  refine own_cast (own_efca2 m a1 (2 : Int32)) ?_
  obtain ⟨Ea, hStr⟩ := hStr
  rcases hStr with ⟨bb, kbb, Fc, Fv, Av, hl0, hl1, hl2, hl3⟩ | ⟨bb, kbb, Fc, Fv, Av⟩
  · refine own_s s₁ (mkF m 1 #[rv a1, iv 2] [(.ref a1)]) (fun _ k => XS.aloadN X0.here hx rfl (hb hby od_jdk_42_m_56_0) rfl rfl k) ?_
    obtain ⟨v1, T1, L1, X1, hQ1, st1⟩ := own_callV X0 hx hZ (y := own_y13) (z := own_y13) (W := 0) (a := a1) hown (own_h hw 69 rfl) (own_h hw 70 rfl) (notFace_of_selects (args := #[]) (mvT hZ (own_h hw 72 rfl))) (own_h hw 72 rfl) (own_h hw 71 rfl) (own_h hw 5 rfl) (own_h hw 73 rfl) (by decide) (own_rmil0 l Z a0 hw [] a1 gC h0 n0 Z0 Fc pr2 hG) (by decide) (by decide) Ea (g := (mkF m 1 #[rv a1, iv 2] [(.ref a1)])) rfl (by rw [hml]; rfl) (argsL := []) (rest := []) rfl (lenOf own_pd12 rfl) rfl (by show 2 * 0 + _ ≤ _; exact Nat.le_of_eq rfl) (hb hby od_jdk_42_m_56_1) e0 (by decide) (by decide)
    obtain ⟨rfl, Nq1, e1⟩ := hQ1
    have N1 := Fr.app N0 Nq1
    refine own_s T1 (mkF m 4 #[rv a1, iv 2] [(.int 1)]) st1 ?_
    refine own_s T1 (mkF m 8 #[rv a1, iv 2] [(.ref a1)]) (fun _ k => XS.ifNo X1.here hx rfl (hb hby od_jdk_42_m_56_4) rfl ((if0 _ _).trans (feq (by decide : ¬ ((1 : Int32) = (0 : Int32)))).1) (XS.aloadN X1.here hx rfl (hb hby od_jdk_42_m_56_7) rfl rfl k)) ?_
    obtain ⟨T2, X2, e2, st2⟩ := getF X1 hx hZ hown (host := "") (Or.inl (own_h hw 30 rfl)) Via.refl e1 Fv (g := (mkF m 8 #[rv a1, iv 2] [(.ref a1)])) rfl rfl (hb hby od_jdk_42_m_56_8)
    refine own_s T2 (mkF m 11 #[rv a1, iv 2] [(.ref bb)]) st2 ?_
    refine own_s T2 (mkF m 12 #[rv a1, iv 2] [(.int 2), (.ref bb)]) (fun _ k => XS.iloadN X2.here hx rfl (hb hby od_jdk_42_m_56_11) rfl  k) ?_
    obtain ⟨v3, T3, L3, X3, hQ3, st3⟩ := own_callS X2 hx hZ (y := own_y14) (W := 0) hown (own_h hw 91 rfl) (own_h hw 92 rfl) (own_h hw 93 rfl) (own_h hw 94 rfl) (by decide) (own_rmslc2 l Z a0 hw [] bb kbb (own_by ch0) (own_by ch1) (own_by ch2) (own_by ch3) wS h0 n0 Z0 Av pr4 rwS) (by decide) (by decide) (g := (mkF m 12 #[rv a1, iv 2] [(.int 2), (.ref bb)])) rfl (by rw [hml]; rfl) (argsL := [(.ref bb), (.int 2)]) (rest := []) rfl (lenOf own_pd7 rfl) rfl (by show 2 * 0 + _ ≤ _; exact Nat.le_of_eq rfl) (hb hby od_jdk_42_m_56_12) e2 (by decide) (by decide)
    obtain ⟨rfl, Nq3, e3⟩ := hQ3
    have N3 := Fr.app N1 Nq3
    refine own_s T3 (mkF m 15 #[rv a1, iv 2] [(.int (nar .char (((own_by ch2) &&& (255 : Int32)).toUInt32.toUInt16.toUInt32.toInt32)))]) st3 ?_
    exact own_finZ X3 hx (t := .char) hret (by simp) (z' := ch2) (by rw [own_latC hr2 hl2]; exact own_narC hr2) (hb hby od_jdk_42_m_56_15) (own_end (Qv := (own_Qca2 Z a1 ch0 ch1 ch2 ch3 gC wS h0 n0)) X3 (own_some hret) hlk (by decide) (by decide) e3 ⟨rfl, N3, rfl⟩)
  · refine own_s s₁ (mkF m 1 #[rv a1, iv 2] [(.ref a1)]) (fun _ k => XS.aloadN X0.here hx rfl (hb hby od_jdk_42_m_56_0) rfl rfl k) ?_
    obtain ⟨v4, T4, L4, X4, hQ4, st4⟩ := own_callV X0 hx hZ (y := own_y13) (z := own_y13) (W := 0) (a := a1) hown (own_h hw 69 rfl) (own_h hw 70 rfl) (notFace_of_selects (args := #[]) (mvT hZ (own_h hw 72 rfl))) (own_h hw 72 rfl) (own_h hw 71 rfl) (own_h hw 5 rfl) (own_h hw 73 rfl) (by decide) (own_rmil1 l Z a0 hw [] a1 gC h0 n0 Z0 Fc pr2 hG) (by decide) (by decide) Ea (g := (mkF m 1 #[rv a1, iv 2] [(.ref a1)])) rfl (by rw [hml]; rfl) (argsL := []) (rest := []) rfl (lenOf own_pd12 rfl) rfl (by show 2 * 0 + _ ≤ _; exact Nat.le_of_eq rfl) (hb hby od_jdk_42_m_56_1) e0 (by decide) (by decide)
    obtain ⟨rfl, Nq4, e4⟩ := hQ4
    have N4 := Fr.app N0 Nq4
    refine own_s T4 (mkF m 4 #[rv a1, iv 2] [(.int 0)]) st4 ?_
    refine own_s T4 (mkF m 17 #[rv a1, iv 2] [(.ref a1)]) (fun _ k => XS.ifYes X4.here hx rfl (pc0 := 4) (pc' := 16) rfl (hb hby od_jdk_42_m_56_4) rfl ((if0 _ _).trans (teq (by decide : ((0 : Int32) = (0 : Int32)))).1) (by decide) (by decide) (XS.aloadN X4.here hx rfl (hb hby od_jdk_42_m_56_16) rfl rfl k)) ?_
    obtain ⟨T5, X5, e5, st5⟩ := getF X4 hx hZ hown (host := "") (Or.inl (own_h hw 30 rfl)) Via.refl e4 Fv (g := (mkF m 17 #[rv a1, iv 2] [(.ref a1)])) rfl rfl (hb hby od_jdk_42_m_56_17)
    refine own_s T5 (mkF m 20 #[rv a1, iv 2] [(.ref bb)]) st5 ?_
    refine own_s T5 (mkF m 21 #[rv a1, iv 2] [(.int 2), (.ref bb)]) (fun _ k => XS.iloadN X5.here hx rfl (hb hby od_jdk_42_m_56_20) rfl  k) ?_
    obtain ⟨v6, T6, L6, X6, hQ6, st6⟩ := own_callS X5 hx hZ (y := own_y16) (W := 0) hown (own_h hw 74 rfl) (own_h hw 75 rfl) (own_h hw 19 rfl) (own_h hw 76 rfl) (by decide) (own_rmuca2 l Z a0 hw [] bb kbb (.int (own_lo ch0)) (.int (own_hi ch0)) (.int (own_lo ch1)) (.int (own_hi ch1)) (own_lo ch2) (own_hi ch2) (.int (own_lo ch3)) (.int (own_hi ch3)) wS h0 n0 Z0 Av pr4 pr5 pr6 pr7 rwS) (by decide) (by decide) (g := (mkF m 21 #[rv a1, iv 2] [(.int 2), (.ref bb)])) rfl (by rw [hml]; rfl) (argsL := [(.ref bb), (.int 2)]) (rest := []) rfl (lenOf own_pd7 rfl) rfl (by show 2 * 0 + _ ≤ _; exact Nat.le_of_eq rfl) (hb hby od_jdk_42_m_56_21) e5 (by decide) (by decide)
    obtain ⟨rfl, Nq6, e6⟩ := hQ6
    have N6 := Fr.app N4 Nq6
    refine own_s T6 (mkF m 24 #[rv a1, iv 2] [(.int (nar .char (nar .char (((((own_lo ch2) &&& (255 : Int32)) <<< ((0 : Int32) &&& 31)) ||| (((own_hi ch2) &&& (255 : Int32)) <<< ((8 : Int32) &&& 31))).toUInt32.toUInt16.toUInt32.toInt32))))]) st6 ?_
    exact own_finZ X6 hx (t := .char) hret (by simp) (z' := ch2) (by simp only [own_utfC hr2, own_narC hr2]) (hb hby od_jdk_42_m_56_24) (own_end (Qv := (own_Qca2 Z a1 ch0 ch1 ch2 ch3 gC wS h0 n0)) X6 (own_some hret) hlk (by decide) (by decide) e6 ⟨rfl, N6, rfl⟩)
theorem own_efslc3 (m : MethodId) (x0 : Addr) (x1 : Int32) : entryFrame m #[(.ref x0), (.int x1)] 2 = mkF m 0 #[rv x0, iv x1] [] := by first | (simp [entryFrame, mkF, argsToLocals, Value.category]; done) | rfl
def own_Qslc3 (Z : State) (a1 : Addr) (kb : ClassId) (x0 : Int32) (x1 : Int32) (x2 : Int32) (x3 : Int32) (wS : Value) (h0 : Heap) (n0 : Nat) : Option Value → Heap → List Loc → Prop := fun v h L => v = some (.int (nar .char ((x3 &&& (255 : Int32)).toUInt32.toUInt16.toUInt32.toInt32))) ∧ Fr n0 L ∧ h = h0
def own_Rslc3 : Room := { frames := 2, cells := 0, slots := 0, locals := 27 }
set_option maxRecDepth 65536 in
set_option maxHeartbeats 40000000 in
theorem own_rmslc3 (l : Launch) (Z : State) (a0 : Array Value) (hw : ∀ d ∈ tables_1, d.before a0 Z = true) (ws : List Jvm.Cond) (a1 : Addr) (kb : ClassId) (x0 : Int32) (x1 : Int32) (x2 : Int32) (x3 : Int32) (wS : Value) (h0 : Heap) (n0 : Nat) (Z0 : n0 ≤ h0.size) (pr0 : Arv Z h0 a1 kb .byte (4 : Int32) [(.int x0), (.int x1), (.int x2), (.int x3)] (.int 0)) (pr1 : Sta Z h0 "jdk/internal/util/Preconditions" "SIOOBE_FORMATTER" "Ljava/util/function/BiFunction;" wS) (rwS : wS.isRef = true) :
    own_Met l Z own_y14 jdk_43_method_2_code 2 (some .char) ws own_Rslc3 h0 #[(.ref a1), (.int 3)] (own_Qslc3 Z a1 kb x0 x1 x2 x3 wS h0 n0) own_Rslc3.cells own_Rslc3.slots := by
  refine own_start (plainFor_of_name own_pn3) ?_
  intro p e s m below meth c s₁ X0 hx hZ hby hml hret hlk hown hnm e0
  have hown : s.vm.findClass "java/lang/StringLatin1" = some m.cls := hown
  have hml : c.maxLocals = 2 := hml
  have N0 := Fr.nil n0
  refine own_cast (own_efslc3 m a1 (3 : Int32)) ?_
  refine own_s s₁ (mkF m 2 #[rv a1, iv 3] [(.ref a1), (.int 3)]) (fun _ k => XS.iloadN X0.here hx rfl (hb hby od_jdk_43_m_2_0) rfl  (XS.aloadN X0.here hx rfl (hb hby od_jdk_43_m_2_1) rfl rfl k)) ?_
  obtain ⟨cl1, Ar1, q1, S1, Nn1, H1, G1⟩ := id pr0
  refine own_s s₁ (mkF m 3 #[rv a1, iv 3] [(.int 4), (.int 3)]) (fun _ k => own_len X0 hx hZ e0 Ar1 S1 Nn1 (g := (mkF m 2 #[rv a1, iv 3] [(.ref a1), (.int 3)])) rfl rfl (hb hby od_jdk_43_m_2_2) k) ?_
  obtain ⟨v2, T2, L2, X2, hQ2, st2⟩ := own_callS X0 hx hZ (y := own_y12) (W := 0) hown (own_h hw 95 rfl) (own_h hw 84 rfl) (own_h hw 5 rfl) (own_h hw 85 rfl) (by decide) (own_rmciv l Z a0 hw [] (3 : Int32) (4 : Int32) wS h0 n0 Z0 pr1 (by decide) (by decide) rwS) (by decide) (by decide) (g := (mkF m 3 #[rv a1, iv 3] [(.int 4), (.int 3)])) rfl (by rw [hml]; rfl) (argsL := [(.int 3), (.int 4)]) (rest := []) rfl (lenOf own_pd9 rfl) rfl (by show 2 * 0 + _ ≤ _; exact Nat.le_of_eq rfl) (hb hby od_jdk_43_m_2_3) e0 (by decide) (by decide)
  obtain ⟨rfl, Nq2, e2⟩ := hQ2
  have N2 := Fr.app N0 Nq2
  refine own_s T2 (mkF m 6 #[rv a1, iv 3] []) st2 ?_
  refine own_s T2 (mkF m 8 #[rv a1, iv 3] [(.int 3), (.ref a1)]) (fun _ k => XS.aloadN X2.here hx rfl (hb hby od_jdk_43_m_2_6) rfl rfl (XS.iloadN X2.here hx rfl (hb hby od_jdk_43_m_2_7) rfl  k)) ?_
  obtain ⟨cl3, Ar3, q3, S3, Nn3, H3, G3⟩ := id pr0
  have hin3 : ¬ ((3 : Int32) < 0 ∨ cl3.slots.size ≤ ((3 : Int32)).toNatClampNeg) := (inb_of S3 ⟨by decide, by decide⟩)
  refine own_s T2 (mkF m 14 #[rv a1, iv 3] [(.int ((x3 &&& (255 : Int32)).toUInt32.toUInt16.toUInt32.toInt32))]) (fun _ k => X2.baloadBytes hx (j := (3 : Int32)) (v := (.int x3)) (own_at e2 Ar3.1) (State.isArrayOf_alike hZ.alike Ar3.2.1) Ar3.2.2 hin3 (Has.at H3 hin3 rfl) (g := (mkF m 8 #[rv a1, iv 3] [(.int 3), (.ref a1)])) rfl rfl (hb hby od_jdk_43_m_2_8) _ (XS.sipush X2.here hx rfl (hb hby od_jdk_43_m_2_9) (XS.iand X2.here hx rfl (hb hby od_jdk_43_m_2_12) rfl (XS.i2c X2.here hx rfl (hb hby od_jdk_43_m_2_13) rfl k)))) ?_
  exact own_finZ X2 hx (t := .char) hret (by simp) (z' := (nar .char ((x3 &&& (255 : Int32)).toUInt32.toUInt16.toUInt32.toInt32))) rfl (hb hby od_jdk_43_m_2_14) (own_end (Qv := (own_Qslc3 Z a1 kb x0 x1 x2 x3 wS h0 n0)) X2 (own_some hret) hlk (by decide) (by decide) e2 ⟨rfl, N2, rfl⟩)
theorem own_efuci3 (m : MethodId) (x0 : Int32) (x1 : Addr) : entryFrame m #[(.int x0), (.ref x1)] 2 = mkF m 0 #[iv x0, rv x1] [] := by first | (simp [entryFrame, mkF, argsToLocals, Value.category]; done) | rfl
def own_Quci3 (Z : State) (a2 : Addr) (kb : ClassId) (vs : List Value) (wS : Value) (h0 : Heap) (n0 : Nat) : Option Value → Heap → List Loc → Prop := fun v h L => v = none ∧ Fr n0 L ∧ h = h0
def own_Ruci3 : Room := { frames := 2, cells := 0, slots := 0, locals := 27 }
set_option maxRecDepth 65536 in
set_option maxHeartbeats 40000000 in
theorem own_rmuci3 (l : Launch) (Z : State) (a0 : Array Value) (hw : ∀ d ∈ tables_1, d.before a0 Z = true) (ws : List Jvm.Cond) (a2 : Addr) (kb : ClassId) (vs : List Value) (wS : Value) (h0 : Heap) (n0 : Nat) (Z0 : n0 ≤ h0.size) (pr0 : Arv Z h0 a2 kb .byte (8 : Int32) vs (.int 0)) (pr1 : Sta Z h0 "jdk/internal/util/Preconditions" "SIOOBE_FORMATTER" "Ljava/util/function/BiFunction;" wS) (rwS : wS.isRef = true) :
    own_Met l Z own_y15 jdk_52_method_91_code 2 none ws own_Ruci3 h0 #[(.int 3), (.ref a2)] (own_Quci3 Z a2 kb vs wS h0 n0) own_Ruci3.cells own_Ruci3.slots := by
  refine own_start (plainFor_of_name own_pn0) ?_
  intro p e s m below meth c s₁ X0 hx hZ hby hml hret hlk hown hnm e0
  have hown : s.vm.findClass "java/lang/StringUTF16" = some m.cls := hown
  have hml : c.maxLocals = 2 := hml
  have N0 := Fr.nil n0
  refine own_cast (own_efuci3 m (3 : Int32) a2) ?_
  refine own_s s₁ (mkF m 2 #[iv 3, rv a2] [(.ref a2), (.int 3)]) (fun _ k => XS.iloadN X0.here hx rfl (hb hby od_jdk_52_m_91_0) rfl  (XS.aloadN X0.here hx rfl (hb hby od_jdk_52_m_91_1) rfl rfl k)) ?_
  obtain ⟨v1, T1, L1, X1, hQ1, st1⟩ := own_callS X0 hx hZ (y := own_y9) (W := 1) hown (own_h hw 80 rfl) (own_h hw 81 rfl) (own_h hw 19 rfl) (own_h hw 82 rfl) (by decide) (own_rmlen l Z a0 hw [] a2 kb vs h0 n0 Z0 pr0) (by decide) (by decide) (g := (mkF m 2 #[iv 3, rv a2] [(.ref a2), (.int 3)])) rfl (by rw [hml]; rfl) (argsL := [(.ref a2)]) (rest := [(.int 3)]) rfl (lenOf own_pd10 rfl) rfl (by show 2 * 0 + _ ≤ _; exact Nat.le_of_eq rfl) (hb hby od_jdk_52_m_91_2) e0 (by decide) (by decide)
  obtain ⟨rfl, Nq1, e1⟩ := hQ1
  have N1 := Fr.app N0 Nq1
  refine own_s T1 (mkF m 5 #[iv 3, rv a2] [(.int 4), (.int 3)]) st1 ?_
  obtain ⟨v2, T2, L2, X2, hQ2, st2⟩ := own_callS X1 hx hZ (y := own_y12) (W := 0) hown (own_h hw 83 rfl) (own_h hw 84 rfl) (own_h hw 5 rfl) (own_h hw 85 rfl) (by decide) (own_rmciv l Z a0 hw [] (3 : Int32) (4 : Int32) wS h0 n0 Z0 pr1 (by decide) (by decide) rwS) (by decide) (by decide) (g := (mkF m 5 #[iv 3, rv a2] [(.int 4), (.int 3)])) rfl (by rw [hml]; rfl) (argsL := [(.int 3), (.int 4)]) (rest := []) rfl (lenOf own_pd9 rfl) rfl (by show 2 * 0 + _ ≤ _; exact Nat.le_of_eq rfl) (hb hby od_jdk_52_m_91_5) e1 (by decide) (by decide)
  obtain ⟨rfl, Nq2, e2⟩ := hQ2
  have N2 := Fr.app N1 Nq2
  refine own_s T2 (mkF m 8 #[iv 3, rv a2] []) st2 ?_
  exact own_finV X2 hx hret (hb hby od_jdk_52_m_91_8) (own_end (Qv := (own_Quci3 Z a2 kb vs wS h0 n0)) X2 (fun _ => rfl) hlk (by decide) (by decide) e2 ⟨rfl, N2, rfl⟩)
theorem own_efuca3 (m : MethodId) (x0 : Addr) (x1 : Int32) : entryFrame m #[(.ref x0), (.int x1)] 2 = mkF m 0 #[rv x0, iv x1] [] := by first | (simp [entryFrame, mkF, argsToLocals, Value.category]; done) | rfl
def own_Quca3 (Z : State) (a1 : Addr) (kb : ClassId) (v0 : Value) (v1 : Value) (v2 : Value) (v3 : Value) (v4 : Value) (v5 : Value) (x : Int32) (y : Int32) (wS : Value) (h0 : Heap) (n0 : Nat) : Option Value → Heap → List Loc → Prop := fun v h L => v = some (.int (nar .char (nar .char ((((x &&& (255 : Int32)) <<< ((0 : Int32) &&& 31)) ||| ((y &&& (255 : Int32)) <<< ((8 : Int32) &&& 31))).toUInt32.toUInt16.toUInt32.toInt32)))) ∧ Fr n0 L ∧ h = h0
def own_Ruca3 : Room := { frames := 3, cells := 0, slots := 0, locals := 40 }
set_option maxRecDepth 65536 in
set_option maxHeartbeats 40000000 in
theorem own_rmuca3 (l : Launch) (Z : State) (a0 : Array Value) (hw : ∀ d ∈ tables_1, d.before a0 Z = true) (ws : List Jvm.Cond) (a1 : Addr) (kb : ClassId) (v0 : Value) (v1 : Value) (v2 : Value) (v3 : Value) (v4 : Value) (v5 : Value) (x : Int32) (y : Int32) (wS : Value) (h0 : Heap) (n0 : Nat) (Z0 : n0 ≤ h0.size) (pr0 : Arv Z h0 a1 kb .byte (8 : Int32) [v0, v1, v2, v3, v4, v5, (.int x), (.int y)] (.int 0)) (pr1 : Sta Z h0 "jdk/internal/util/Preconditions" "SIOOBE_FORMATTER" "Ljava/util/function/BiFunction;" wS) (pr2 : Sta Z h0 "java/lang/StringUTF16" "$assertionsDisabled" "Z" (.int 1)) (pr3 : Sta Z h0 "java/lang/StringUTF16" "HI_BYTE_SHIFT" "I" (.int 0)) (pr4 : Sta Z h0 "java/lang/StringUTF16" "LO_BYTE_SHIFT" "I" (.int 8)) (rwS : wS.isRef = true) :
    own_Met l Z own_y16 jdk_52_method_83_code 2 (some .char) ws own_Ruca3 h0 #[(.ref a1), (.int 3)] (own_Quca3 Z a1 kb v0 v1 v2 v3 v4 v5 x y wS h0 n0) own_Ruca3.cells own_Ruca3.slots := by
  refine own_start (plainFor_of_name own_pn0) ?_
  intro p e s m below meth c s₁ X0 hx hZ hby hml hret hlk hown hnm e0
  have hown : s.vm.findClass "java/lang/StringUTF16" = some m.cls := hown
  have hml : c.maxLocals = 2 := hml
  have N0 := Fr.nil n0
  refine own_cast (own_efuca3 m a1 (3 : Int32)) ?_
  refine own_s s₁ (mkF m 2 #[rv a1, iv 3] [(.ref a1), (.int 3)]) (fun _ k => XS.iloadN X0.here hx rfl (hb hby od_jdk_52_m_83_0) rfl  (XS.aloadN X0.here hx rfl (hb hby od_jdk_52_m_83_1) rfl rfl k)) ?_
  obtain ⟨v1, T1, L1, X1, hQ1, st1⟩ := own_callS X0 hx hZ (y := own_y15) (W := 0) hown (own_h hw 77 rfl) (own_h hw 78 rfl) (own_h hw 19 rfl) (own_h hw 79 rfl) (by decide) (own_rmuci3 l Z a0 hw [] a1 kb [v0, v1, v2, v3, v4, v5, (.int x), (.int y)] wS h0 n0 Z0 pr0 pr1 rwS) (by decide) (by decide) (g := (mkF m 2 #[rv a1, iv 3] [(.ref a1), (.int 3)])) rfl (by rw [hml]; rfl) (argsL := [(.int 3), (.ref a1)]) (rest := []) rfl (lenOf own_pd11 rfl) rfl (by show 2 * 0 + _ ≤ _; exact Nat.le_of_eq rfl) (hb hby od_jdk_52_m_83_2) e0 (by decide) (by decide)
  obtain ⟨rfl, Nq1, e1⟩ := hQ1
  have N1 := Fr.app N0 Nq1
  refine own_s T1 (mkF m 5 #[rv a1, iv 3] []) st1 ?_
  refine own_s T1 (mkF m 7 #[rv a1, iv 3] [(.int 3), (.ref a1)]) (fun _ k => XS.aloadN X1.here hx rfl (hb hby od_jdk_52_m_83_5) rfl rfl (XS.iloadN X1.here hx rfl (hb hby od_jdk_52_m_83_6) rfl  k)) ?_
  obtain ⟨v2, T2, L2, X2, hQ2, st2⟩ := own_callS X1 hx hZ (y := own_y10) (W := 0) hown (own_h hw 52 rfl) (own_h hw 53 rfl) (own_h hw 19 rfl) (own_h hw 54 rfl) (by decide) (own_rmgc3 l Z a0 hw [] a1 kb v0 v1 v2 v3 v4 v5 x y h0 n0 Z0 pr0 pr2 pr3 pr4) (by decide) (by decide) (g := (mkF m 7 #[rv a1, iv 3] [(.int 3), (.ref a1)])) rfl (by rw [hml]; rfl) (argsL := [(.ref a1), (.int 3)]) (rest := []) rfl (lenOf own_pd7 rfl) rfl (by show 2 * 0 + _ ≤ _; exact Nat.le_of_eq rfl) (hb hby od_jdk_52_m_83_7) e1 (by decide) (by decide)
  obtain ⟨rfl, Nq2, e2⟩ := hQ2
  have N2 := Fr.app N1 Nq2
  refine own_s T2 (mkF m 10 #[rv a1, iv 3] [(.int (nar .char ((((x &&& (255 : Int32)) <<< ((0 : Int32) &&& 31)) ||| ((y &&& (255 : Int32)) <<< ((8 : Int32) &&& 31))).toUInt32.toUInt16.toUInt32.toInt32)))]) st2 ?_
  exact own_finZ X2 hx (t := .char) hret (by simp) (z' := (nar .char (nar .char ((((x &&& (255 : Int32)) <<< ((0 : Int32) &&& 31)) ||| ((y &&& (255 : Int32)) <<< ((8 : Int32) &&& 31))).toUInt32.toUInt16.toUInt32.toInt32)))) rfl (hb hby od_jdk_52_m_83_10) (own_end (Qv := (own_Quca3 Z a1 kb v0 v1 v2 v3 v4 v5 x y wS h0 n0)) X2 (own_some hret) hlk (by decide) (by decide) e2 ⟨rfl, N2, rfl⟩)
theorem own_efca3 (m : MethodId) (x0 : Addr) (x1 : Int32) : entryFrame m #[(.ref x0), (.int x1)] 2 = mkF m 0 #[rv x0, iv x1] [] := by first | (simp [entryFrame, mkF, argsToLocals, Value.category]; done) | rfl
def own_Qca3 (Z : State) (a1 : Addr) (ch0 : Int32) (ch1 : Int32) (ch2 : Int32) (ch3 : Int32) (gC : Int32) (wS : Value) (h0 : Heap) (n0 : Nat) : Option Value → Heap → List Loc → Prop := fun v h L => v = some (.int ch3) ∧ Fr n0 L ∧ h = h0
def own_Rca3 : Room := { frames := 4, cells := 0, slots := 0, locals := 53 }
set_option maxRecDepth 65536 in
set_option maxHeartbeats 40000000 in
theorem own_rmca3 (l : Launch) (Z : State) (a0 : Array Value) (hw : ∀ d ∈ tables_1, d.before a0 Z = true) (ws : List Jvm.Cond) (a1 : Addr) (ch0 : Int32) (ch1 : Int32) (ch2 : Int32) (ch3 : Int32) (gC : Int32) (wS : Value) (h0 : Heap) (n0 : Nat) (Z0 : n0 ≤ h0.size) (hStr : own_Str Z h0 a1 ch0 ch1 ch2 ch3) (hr3 : own_Ch ch3) (pr2 : Sta Z h0 "java/lang/String" "COMPACT_STRINGS" "Z" (.int gC)) (hG : ¬ gC = (0 : Int32)) (pr4 : Sta Z h0 "jdk/internal/util/Preconditions" "SIOOBE_FORMATTER" "Ljava/util/function/BiFunction;" wS) (pr5 : Sta Z h0 "java/lang/StringUTF16" "$assertionsDisabled" "Z" (.int 1)) (pr6 : Sta Z h0 "java/lang/StringUTF16" "HI_BYTE_SHIFT" "I" (.int 0)) (pr7 : Sta Z h0 "java/lang/StringUTF16" "LO_BYTE_SHIFT" "I" (.int 8)) (rwS : wS.isRef = true) :
    own_Met l Z own_y17 jdk_42_method_56_code 2 (some .char) ws own_Rca3 h0 #[(.ref a1), (.int 3)] (own_Qca3 Z a1 ch0 ch1 ch2 ch3 gC wS h0 n0) own_Rca3.cells own_Rca3.slots := by
  refine own_start (plainFor_of_name own_pn1) ?_
  intro p e s m below meth c s₁ X0 hx hZ hby hml hret hlk hown hnm e0
  have hown : s.vm.findClass "java/lang/String" = some m.cls := hown
  have hml : c.maxLocals = 2 := hml
  have N0 := Fr.nil n0
  refine own_cast (own_efca3 m a1 (3 : Int32)) ?_
  obtain ⟨Ea, hStr⟩ := hStr
  rcases hStr with ⟨bb, kbb, Fc, Fv, Av, hl0, hl1, hl2, hl3⟩ | ⟨bb, kbb, Fc, Fv, Av⟩
  · refine own_s s₁ (mkF m 1 #[rv a1, iv 3] [(.ref a1)]) (fun _ k => XS.aloadN X0.here hx rfl (hb hby od_jdk_42_m_56_0) rfl rfl k) ?_
    obtain ⟨v1, T1, L1, X1, hQ1, st1⟩ := own_callV X0 hx hZ (y := own_y13) (z := own_y13) (W := 0) (a := a1) hown (own_h hw 69 rfl) (own_h hw 70 rfl) (notFace_of_selects (args := #[]) (mvT hZ (own_h hw 72 rfl))) (own_h hw 72 rfl) (own_h hw 71 rfl) (own_h hw 5 rfl) (own_h hw 73 rfl) (by decide) (own_rmil0 l Z a0 hw [] a1 gC h0 n0 Z0 Fc pr2 hG) (by decide) (by decide) Ea (g := (mkF m 1 #[rv a1, iv 3] [(.ref a1)])) rfl (by rw [hml]; rfl) (argsL := []) (rest := []) rfl (lenOf own_pd12 rfl) rfl (by show 2 * 0 + _ ≤ _; exact Nat.le_of_eq rfl) (hb hby od_jdk_42_m_56_1) e0 (by decide) (by decide)
    obtain ⟨rfl, Nq1, e1⟩ := hQ1
    have N1 := Fr.app N0 Nq1
    refine own_s T1 (mkF m 4 #[rv a1, iv 3] [(.int 1)]) st1 ?_
    refine own_s T1 (mkF m 8 #[rv a1, iv 3] [(.ref a1)]) (fun _ k => XS.ifNo X1.here hx rfl (hb hby od_jdk_42_m_56_4) rfl ((if0 _ _).trans (feq (by decide : ¬ ((1 : Int32) = (0 : Int32)))).1) (XS.aloadN X1.here hx rfl (hb hby od_jdk_42_m_56_7) rfl rfl k)) ?_
    obtain ⟨T2, X2, e2, st2⟩ := getF X1 hx hZ hown (host := "") (Or.inl (own_h hw 30 rfl)) Via.refl e1 Fv (g := (mkF m 8 #[rv a1, iv 3] [(.ref a1)])) rfl rfl (hb hby od_jdk_42_m_56_8)
    refine own_s T2 (mkF m 11 #[rv a1, iv 3] [(.ref bb)]) st2 ?_
    refine own_s T2 (mkF m 12 #[rv a1, iv 3] [(.int 3), (.ref bb)]) (fun _ k => XS.iloadN X2.here hx rfl (hb hby od_jdk_42_m_56_11) rfl  k) ?_
    obtain ⟨v3, T3, L3, X3, hQ3, st3⟩ := own_callS X2 hx hZ (y := own_y14) (W := 0) hown (own_h hw 91 rfl) (own_h hw 92 rfl) (own_h hw 93 rfl) (own_h hw 94 rfl) (by decide) (own_rmslc3 l Z a0 hw [] bb kbb (own_by ch0) (own_by ch1) (own_by ch2) (own_by ch3) wS h0 n0 Z0 Av pr4 rwS) (by decide) (by decide) (g := (mkF m 12 #[rv a1, iv 3] [(.int 3), (.ref bb)])) rfl (by rw [hml]; rfl) (argsL := [(.ref bb), (.int 3)]) (rest := []) rfl (lenOf own_pd7 rfl) rfl (by show 2 * 0 + _ ≤ _; exact Nat.le_of_eq rfl) (hb hby od_jdk_42_m_56_12) e2 (by decide) (by decide)
    obtain ⟨rfl, Nq3, e3⟩ := hQ3
    have N3 := Fr.app N1 Nq3
    refine own_s T3 (mkF m 15 #[rv a1, iv 3] [(.int (nar .char (((own_by ch3) &&& (255 : Int32)).toUInt32.toUInt16.toUInt32.toInt32)))]) st3 ?_
    exact own_finZ X3 hx (t := .char) hret (by simp) (z' := ch3) (by rw [own_latC hr3 hl3]; exact own_narC hr3) (hb hby od_jdk_42_m_56_15) (own_end (Qv := (own_Qca3 Z a1 ch0 ch1 ch2 ch3 gC wS h0 n0)) X3 (own_some hret) hlk (by decide) (by decide) e3 ⟨rfl, N3, rfl⟩)
  · refine own_s s₁ (mkF m 1 #[rv a1, iv 3] [(.ref a1)]) (fun _ k => XS.aloadN X0.here hx rfl (hb hby od_jdk_42_m_56_0) rfl rfl k) ?_
    obtain ⟨v4, T4, L4, X4, hQ4, st4⟩ := own_callV X0 hx hZ (y := own_y13) (z := own_y13) (W := 0) (a := a1) hown (own_h hw 69 rfl) (own_h hw 70 rfl) (notFace_of_selects (args := #[]) (mvT hZ (own_h hw 72 rfl))) (own_h hw 72 rfl) (own_h hw 71 rfl) (own_h hw 5 rfl) (own_h hw 73 rfl) (by decide) (own_rmil1 l Z a0 hw [] a1 gC h0 n0 Z0 Fc pr2 hG) (by decide) (by decide) Ea (g := (mkF m 1 #[rv a1, iv 3] [(.ref a1)])) rfl (by rw [hml]; rfl) (argsL := []) (rest := []) rfl (lenOf own_pd12 rfl) rfl (by show 2 * 0 + _ ≤ _; exact Nat.le_of_eq rfl) (hb hby od_jdk_42_m_56_1) e0 (by decide) (by decide)
    obtain ⟨rfl, Nq4, e4⟩ := hQ4
    have N4 := Fr.app N0 Nq4
    refine own_s T4 (mkF m 4 #[rv a1, iv 3] [(.int 0)]) st4 ?_
    refine own_s T4 (mkF m 17 #[rv a1, iv 3] [(.ref a1)]) (fun _ k => XS.ifYes X4.here hx rfl (pc0 := 4) (pc' := 16) rfl (hb hby od_jdk_42_m_56_4) rfl ((if0 _ _).trans (teq (by decide : ((0 : Int32) = (0 : Int32)))).1) (by decide) (by decide) (XS.aloadN X4.here hx rfl (hb hby od_jdk_42_m_56_16) rfl rfl k)) ?_
    obtain ⟨T5, X5, e5, st5⟩ := getF X4 hx hZ hown (host := "") (Or.inl (own_h hw 30 rfl)) Via.refl e4 Fv (g := (mkF m 17 #[rv a1, iv 3] [(.ref a1)])) rfl rfl (hb hby od_jdk_42_m_56_17)
    refine own_s T5 (mkF m 20 #[rv a1, iv 3] [(.ref bb)]) st5 ?_
    refine own_s T5 (mkF m 21 #[rv a1, iv 3] [(.int 3), (.ref bb)]) (fun _ k => XS.iloadN X5.here hx rfl (hb hby od_jdk_42_m_56_20) rfl  k) ?_
    obtain ⟨v6, T6, L6, X6, hQ6, st6⟩ := own_callS X5 hx hZ (y := own_y16) (W := 0) hown (own_h hw 74 rfl) (own_h hw 75 rfl) (own_h hw 19 rfl) (own_h hw 76 rfl) (by decide) (own_rmuca3 l Z a0 hw [] bb kbb (.int (own_lo ch0)) (.int (own_hi ch0)) (.int (own_lo ch1)) (.int (own_hi ch1)) (.int (own_lo ch2)) (.int (own_hi ch2)) (own_lo ch3) (own_hi ch3) wS h0 n0 Z0 Av pr4 pr5 pr6 pr7 rwS) (by decide) (by decide) (g := (mkF m 21 #[rv a1, iv 3] [(.int 3), (.ref bb)])) rfl (by rw [hml]; rfl) (argsL := [(.ref bb), (.int 3)]) (rest := []) rfl (lenOf own_pd7 rfl) rfl (by show 2 * 0 + _ ≤ _; exact Nat.le_of_eq rfl) (hb hby od_jdk_42_m_56_21) e5 (by decide) (by decide)
    obtain ⟨rfl, Nq6, e6⟩ := hQ6
    have N6 := Fr.app N4 Nq6
    refine own_s T6 (mkF m 24 #[rv a1, iv 3] [(.int (nar .char (nar .char (((((own_lo ch3) &&& (255 : Int32)) <<< ((0 : Int32) &&& 31)) ||| (((own_hi ch3) &&& (255 : Int32)) <<< ((8 : Int32) &&& 31))).toUInt32.toUInt16.toUInt32.toInt32))))]) st6 ?_
    exact own_finZ X6 hx (t := .char) hret (by simp) (z' := ch3) (by simp only [own_utfC hr3, own_narC hr3]) (hb hby od_jdk_42_m_56_24) (own_end (Qv := (own_Qca3 Z a1 ch0 ch1 ch2 ch3 gC wS h0 n0)) X6 (own_some hret) hlk (by decide) (by decide) e6 ⟨rfl, N6, rfl⟩)
theorem own_pd13 : parseMethodDescriptor "(I)C" = some ⟨[.int], some .char⟩ := by decide +kernel
abbrev own_y18 : MethodName := ⟨"com/example/gazetteer/gazetteer/model/Locations", "holdsOnly", "(Ljava/lang/String;II[Z)Z"⟩
theorem own_pn4 : plainName "com/example/gazetteer/gazetteer/model/Locations" = true := by first | (simp [plainName, overriddenIn]; done) | decide +kernel
theorem od_prog_59_m_20_0 : decode prog_59_method_20_code 0 = .ok (.iload_n 1, 1) := by decide +kernel
theorem od_prog_59_m_20_1 : decode prog_59_method_20_code 1 = .ok (.istore 4, 2) := by decide +kernel
theorem od_prog_59_m_20_3 : decode prog_59_method_20_code 3 = .ok (.iload 4, 2) := by decide +kernel
theorem od_prog_59_m_20_5 : decode prog_59_method_20_code 5 = .ok (.iload_n 2, 1) := by decide +kernel
theorem od_prog_59_m_20_6 : decode prog_59_method_20_code 6 = .ok (.if_icmp .ge 34, 3) := by decide +kernel
theorem od_prog_59_m_20_9 : decode prog_59_method_20_code 9 = .ok (.aload_n 0, 1) := by decide +kernel
theorem od_prog_59_m_20_10 : decode prog_59_method_20_code 10 = .ok (.iload 4, 2) := by decide +kernel
theorem od_prog_59_m_20_12 : decode prog_59_method_20_code 12 = .ok (.invokevirtual 99, 3) := by decide +kernel
theorem od_prog_59_m_20_15 : decode prog_59_method_20_code 15 = .ok (.istore 5, 2) := by decide +kernel
theorem od_prog_59_m_20_17 : decode prog_59_method_20_code 17 = .ok (.iload 5, 2) := by decide +kernel
theorem od_prog_59_m_20_19 : decode prog_59_method_20_code 19 = .ok (.sipush 128, 3) := by decide +kernel
theorem od_prog_59_m_20_22 : decode prog_59_method_20_code 22 = .ok (.if_icmp .ge 10, 3) := by decide +kernel
theorem od_prog_59_m_20_25 : decode prog_59_method_20_code 25 = .ok (.aload_n 3, 1) := by decide +kernel
theorem od_prog_59_m_20_26 : decode prog_59_method_20_code 26 = .ok (.iload 5, 2) := by decide +kernel
theorem od_prog_59_m_20_28 : decode prog_59_method_20_code 28 = .ok (.baload, 1) := by decide +kernel
theorem od_prog_59_m_20_29 : decode prog_59_method_20_code 29 = .ok (.ifCond .ne 5, 3) := by decide +kernel
theorem od_prog_59_m_20_32 : decode prog_59_method_20_code 32 = .ok (.iconst 0, 1) := by decide +kernel
theorem od_prog_59_m_20_33 : decode prog_59_method_20_code 33 = .ok (.ireturn, 1) := by decide +kernel
theorem od_prog_59_m_20_34 : decode prog_59_method_20_code 34 = .ok (.iinc 4 1, 3) := by decide +kernel
theorem od_prog_59_m_20_37 : decode prog_59_method_20_code 37 = .ok (.goto (-34), 3) := by decide +kernel
theorem od_prog_59_m_20_40 : decode prog_59_method_20_code 40 = .ok (.iconst 1, 1) := by decide +kernel
theorem od_prog_59_m_20_41 : decode prog_59_method_20_code 41 = .ok (.ireturn, 1) := by decide +kernel
theorem own_efho0 (m : MethodId) (x0 : Addr) (x1 : Int32) (x2 : Int32) (x3 : Addr) : entryFrame m #[(.ref x0), (.int x1), (.int x2), (.ref x3)] 6 = mkF m 0 #[rv x0, iv x1, iv x2, rv x3, u_, u_] [] := by first | (simp [entryFrame, mkF, argsToLocals, Value.category]; done) | rfl
def own_Qho0 (Z : State) (a1 : Addr) (a4 : Addr) (ch0 : Int32) (ch1 : Int32) (ch2 : Int32) (ch3 : Int32) (gC : Int32) (wS : Value) (kt : ClassId) (h0 : Heap) (n0 : Nat) : Option Value → Heap → List Loc → Prop := fun v h L => v = some (.int (own_ri ch1 ch2)) ∧ Fr n0 L ∧ h = h0
def own_Rho0 : Room := { frames := 5, cells := 0, slots := 0, locals := 66 }
set_option maxRecDepth 65536 in
set_option maxHeartbeats 40000000 in
theorem own_rmho0 (l : Launch) (Z : State) (a0 : Array Value) (hw : ∀ d ∈ tables_1, d.before a0 Z = true) (ws : List Jvm.Cond) (a1 : Addr) (a4 : Addr) (ch0 : Int32) (ch1 : Int32) (ch2 : Int32) (ch3 : Int32) (gC : Int32) (wS : Value) (kt : ClassId) (h0 : Heap) (n0 : Nat) (Z0 : n0 ≤ h0.size) (hStr : own_Str Z h0 a1 ch0 ch1 ch2 ch3) (hr1 : own_Ch ch1) (hr2 : own_Ch ch2) (pr3 : Sta Z h0 "java/lang/String" "COMPACT_STRINGS" "Z" (.int gC)) (hG : ¬ gC = (0 : Int32)) (pr5 : Sta Z h0 "jdk/internal/util/Preconditions" "SIOOBE_FORMATTER" "Ljava/util/function/BiFunction;" wS) (pr6 : Exa Z h0 a1 "java/lang/String") (pr7 : Arv Z h0 a4 kt .boolean (128 : Int32) (own_tab) (.int 0)) (pr8 : Sta Z h0 "java/lang/StringUTF16" "$assertionsDisabled" "Z" (.int 1)) (pr9 : Sta Z h0 "java/lang/StringUTF16" "HI_BYTE_SHIFT" "I" (.int 0)) (pr10 : Sta Z h0 "java/lang/StringUTF16" "LO_BYTE_SHIFT" "I" (.int 8)) (rwS : wS.isRef = true) :
    own_Met l Z own_y18 prog_59_method_20_code 6 (some .boolean) ws own_Rho0 h0 #[(.ref a1), (.int 1), (.int 3), (.ref a4)] (own_Qho0 Z a1 a4 ch0 ch1 ch2 ch3 gC wS kt h0 n0) own_Rho0.cells own_Rho0.slots := by
  refine own_start (plainFor_of_name own_pn4) ?_
  intro p e s m below meth c s₁ X0 hx hZ hby hml hret hlk hown hnm e0
  have hown : s.vm.findClass "com/example/gazetteer/gazetteer/model/Locations" = some m.cls := hown
  have hml : c.maxLocals = 6 := hml
  have N0 := Fr.nil n0
  refine own_cast (own_efho0 m a1 (1 : Int32) (3 : Int32) a4) ?_
  refine own_s s₁ (mkF m 12 #[rv a1, iv 1, iv 3, rv a4, iv 1, u_] [(.int 1), (.ref a1)]) (fun _ k => XS.iloadN X0.here hx rfl (hb hby od_prog_59_m_20_0) rfl  (XS.istore X0.here hx rfl (hb hby od_prog_59_m_20_1) rfl (l' := #[rv a1, iv 1, iv 3, rv a4, iv 1, u_]) rfl (XS.iload X0.here hx rfl (hb hby od_prog_59_m_20_3) rfl  (XS.iloadN X0.here hx rfl (hb hby od_prog_59_m_20_5) rfl  (XS.icmpNo X0.here hx rfl (hb hby od_prog_59_m_20_6) rfl (tlt (by decide : ((1 : Int32) < (3 : Int32)))).2.1 (XS.aloadN X0.here hx rfl (hb hby od_prog_59_m_20_9) rfl rfl (XS.iload X0.here hx rfl (hb hby od_prog_59_m_20_10) rfl  k))))))) ?_
  obtain ⟨v1, T1, L1, X1, hQ1, st1⟩ := own_callV X0 hx hZ (y := own_y17) (z := own_y17) (W := 0) (a := a1) hown (own_h hw 64 rfl) (own_h hw 65 rfl) (notFace_of_selects (args := #[]) (mvT hZ (own_h hw 67 rfl))) (own_h hw 67 rfl) (own_h hw 66 rfl) (own_h hw 5 rfl) (own_h hw 68 rfl) (by decide) (own_rmca1 l Z a0 hw [] a1 ch0 ch1 ch2 ch3 gC wS h0 n0 Z0 hStr hr1 pr3 hG pr5 pr8 pr9 pr10 rwS) (by decide) (by decide) pr6 (g := (mkF m 12 #[rv a1, iv 1, iv 3, rv a4, iv 1, u_] [(.int 1), (.ref a1)])) rfl (by rw [hml]; rfl) (argsL := [(.int 1)]) (rest := []) rfl (lenOf own_pd13 rfl) rfl (by show 2 * 0 + _ ≤ _; exact Nat.le_of_eq rfl) (hb hby od_prog_59_m_20_12) e0 (by decide) (by decide)
  obtain ⟨rfl, Nq1, e1⟩ := hQ1
  have N1 := Fr.app N0 Nq1
  refine own_s T1 (mkF m 15 #[rv a1, iv 1, iv 3, rv a4, iv 1, u_] [(.int ch1)]) st1 ?_
  refine own_s T1 (mkF m 22 #[rv a1, iv 1, iv 3, rv a4, iv 1, iv ch1] [(.int 128), (.int ch1)]) (fun _ k => XS.istore X1.here hx rfl (hb hby od_prog_59_m_20_15) rfl (l' := #[rv a1, iv 1, iv 3, rv a4, iv 1, iv ch1]) rfl (XS.iload X1.here hx rfl (hb hby od_prog_59_m_20_17) rfl  (XS.sipush X1.here hx rfl (hb hby od_prog_59_m_20_19) k))) ?_
  by_cases c22 : ch1 < (128 : Int32)
  · refine own_s T1 (mkF m 28 #[rv a1, iv 1, iv 3, rv a4, iv 1, iv ch1] [(.int ch1), (.ref a4)]) (fun _ k => XS.icmpNo X1.here hx rfl (hb hby od_prog_59_m_20_22) rfl (tlt c22).2.1 (XS.aloadN X1.here hx rfl (hb hby od_prog_59_m_20_25) rfl rfl (XS.iload X1.here hx rfl (hb hby od_prog_59_m_20_26) rfl  k))) ?_
    obtain ⟨cl2, Ar2, q2, S2, Nn2, H2, G2⟩ := id pr7
    have hin2 : ¬ (ch1 < 0 ∨ cl2.slots.size ≤ (ch1).toNatClampNeg) := (inb_of S2 ⟨own_ch0 hr1, c22⟩)
    refine own_s T1 (mkF m 29 #[rv a1, iv 1, iv 3, rv a4, iv 1, iv ch1] [(.int (own_hv ch1))]) (fun _ k => X1.baloadBooleans hx (j := ch1) (v := (.int (own_hv ch1))) (own_at e1 Ar2.1) (State.isArrayOf_alike hZ.alike Ar2.2.1) Ar2.2.2 hin2 (Has.at H2 hin2 (own_tabAt (own_ch128 hr1 c22))) (g := (mkF m 28 #[rv a1, iv 1, iv 3, rv a4, iv 1, iv ch1] [(.int ch1), (.ref a4)])) rfl rfl (hb hby od_prog_59_m_20_28) _ k) ?_
    by_cases c29 : (own_hv ch1) = (0 : Int32)
    · refine own_s T1 (mkF m 33 #[rv a1, iv 1, iv 3, rv a4, iv 1, iv ch1] [(.int 0)]) (fun _ k => XS.ifNo X1.here hx rfl (hb hby od_prog_59_m_20_29) rfl ((if0 _ _).trans (teq c29).2) (XS.iconst X1.here hx rfl (hb hby od_prog_59_m_20_32) k)) ?_
      exact own_finZ X1 hx (t := .boolean) hret (by simp) (z' := (0 : Int32)) rfl (hb hby od_prog_59_m_20_33) (own_end (Qv := (own_Qho0 Z a1 a4 ch0 ch1 ch2 ch3 gC wS kt h0 n0)) X1 (own_some hret) hlk (by decide) (by decide) e1 ⟨(by simp [own_ri, own_hx, c22, c29]), N1, rfl⟩)
    · refine own_s T1 (mkF m 12 #[rv a1, iv 1, iv 3, rv a4, iv 2, iv ch1] [(.int 2), (.ref a1)]) (fun _ k => XS.ifYes X1.here hx rfl (pc0 := 29) (pc' := 34) rfl (hb hby od_prog_59_m_20_29) rfl ((if0 _ _).trans (feq c29).2) (by decide) (by decide) (XS.iinc X1.here hx rfl (hb hby od_prog_59_m_20_34) rfl (l' := #[rv a1, iv 1, iv 3, rv a4, iv 2, iv ch1]) rfl (XS.goto X1.here hx rfl (pc0 := 37) (pc' := 3) rfl (hb hby od_prog_59_m_20_37) (by decide) (by decide) (XS.iload X1.here hx rfl (hb hby od_prog_59_m_20_3) rfl  (XS.iloadN X1.here hx rfl (hb hby od_prog_59_m_20_5) rfl  (XS.icmpNo X1.here hx rfl (hb hby od_prog_59_m_20_6) rfl (tlt (by decide : ((2 : Int32) < (3 : Int32)))).2.1 (XS.aloadN X1.here hx rfl (hb hby od_prog_59_m_20_9) rfl rfl (XS.iload X1.here hx rfl (hb hby od_prog_59_m_20_10) rfl  k)))))))) ?_
      obtain ⟨v3, T3, L3, X3, hQ3, st3⟩ := own_callV X1 hx hZ (y := own_y17) (z := own_y17) (W := 0) (a := a1) hown (own_h hw 64 rfl) (own_h hw 65 rfl) (notFace_of_selects (args := #[]) (mvT hZ (own_h hw 67 rfl))) (own_h hw 67 rfl) (own_h hw 66 rfl) (own_h hw 5 rfl) (own_h hw 68 rfl) (by decide) (own_rmca2 l Z a0 hw [] a1 ch0 ch1 ch2 ch3 gC wS h0 n0 Z0 hStr hr2 pr3 hG pr5 pr8 pr9 pr10 rwS) (by decide) (by decide) pr6 (g := (mkF m 12 #[rv a1, iv 1, iv 3, rv a4, iv 2, iv ch1] [(.int 2), (.ref a1)])) rfl (by rw [hml]; rfl) (argsL := [(.int 2)]) (rest := []) rfl (lenOf own_pd13 rfl) rfl (by show 2 * 0 + _ ≤ _; exact Nat.le_of_eq rfl) (hb hby od_prog_59_m_20_12) e1 (by decide) (by decide)
      obtain ⟨rfl, Nq3, e3⟩ := hQ3
      have N3 := Fr.app N1 Nq3
      refine own_s T3 (mkF m 15 #[rv a1, iv 1, iv 3, rv a4, iv 2, iv ch1] [(.int ch2)]) st3 ?_
      refine own_s T3 (mkF m 22 #[rv a1, iv 1, iv 3, rv a4, iv 2, iv ch2] [(.int 128), (.int ch2)]) (fun _ k => XS.istore X3.here hx rfl (hb hby od_prog_59_m_20_15) rfl (l' := #[rv a1, iv 1, iv 3, rv a4, iv 2, iv ch2]) rfl (XS.iload X3.here hx rfl (hb hby od_prog_59_m_20_17) rfl  (XS.sipush X3.here hx rfl (hb hby od_prog_59_m_20_19) k))) ?_
      by_cases c22_2 : ch2 < (128 : Int32)
      · refine own_s T3 (mkF m 28 #[rv a1, iv 1, iv 3, rv a4, iv 2, iv ch2] [(.int ch2), (.ref a4)]) (fun _ k => XS.icmpNo X3.here hx rfl (hb hby od_prog_59_m_20_22) rfl (tlt c22_2).2.1 (XS.aloadN X3.here hx rfl (hb hby od_prog_59_m_20_25) rfl rfl (XS.iload X3.here hx rfl (hb hby od_prog_59_m_20_26) rfl  k))) ?_
        obtain ⟨cl4, Ar4, q4, S4, Nn4, H4, G4⟩ := id pr7
        have hin4 : ¬ (ch2 < 0 ∨ cl4.slots.size ≤ (ch2).toNatClampNeg) := (inb_of S4 ⟨own_ch0 hr2, c22_2⟩)
        refine own_s T3 (mkF m 29 #[rv a1, iv 1, iv 3, rv a4, iv 2, iv ch2] [(.int (own_hv ch2))]) (fun _ k => X3.baloadBooleans hx (j := ch2) (v := (.int (own_hv ch2))) (own_at e3 Ar4.1) (State.isArrayOf_alike hZ.alike Ar4.2.1) Ar4.2.2 hin4 (Has.at H4 hin4 (own_tabAt (own_ch128 hr2 c22_2))) (g := (mkF m 28 #[rv a1, iv 1, iv 3, rv a4, iv 2, iv ch2] [(.int ch2), (.ref a4)])) rfl rfl (hb hby od_prog_59_m_20_28) _ k) ?_
        by_cases c29_2 : (own_hv ch2) = (0 : Int32)
        · refine own_s T3 (mkF m 33 #[rv a1, iv 1, iv 3, rv a4, iv 2, iv ch2] [(.int 0)]) (fun _ k => XS.ifNo X3.here hx rfl (hb hby od_prog_59_m_20_29) rfl ((if0 _ _).trans (teq c29_2).2) (XS.iconst X3.here hx rfl (hb hby od_prog_59_m_20_32) k)) ?_
          exact own_finZ X3 hx (t := .boolean) hret (by simp) (z' := (0 : Int32)) rfl (hb hby od_prog_59_m_20_33) (own_end (Qv := (own_Qho0 Z a1 a4 ch0 ch1 ch2 ch3 gC wS kt h0 n0)) X3 (own_some hret) hlk (by decide) (by decide) e3 ⟨(by simp [own_ri, own_hx, c22, c29, c22_2, c29_2]), N3, rfl⟩)
        · refine own_s T3 (mkF m 41 #[rv a1, iv 1, iv 3, rv a4, iv 3, iv ch2] [(.int 1)]) (fun _ k => XS.ifYes X3.here hx rfl (pc0 := 29) (pc' := 34) rfl (hb hby od_prog_59_m_20_29) rfl ((if0 _ _).trans (feq c29_2).2) (by decide) (by decide) (XS.iinc X3.here hx rfl (hb hby od_prog_59_m_20_34) rfl (l' := #[rv a1, iv 1, iv 3, rv a4, iv 3, iv ch2]) rfl (XS.goto X3.here hx rfl (pc0 := 37) (pc' := 3) rfl (hb hby od_prog_59_m_20_37) (by decide) (by decide) (XS.iload X3.here hx rfl (hb hby od_prog_59_m_20_3) rfl  (XS.iloadN X3.here hx rfl (hb hby od_prog_59_m_20_5) rfl  (XS.icmpYes X3.here hx rfl (pc0 := 6) (pc' := 40) rfl (hb hby od_prog_59_m_20_6) rfl (flt (by decide : ¬ ((3 : Int32) < (3 : Int32)))).2.1 (by decide) (by decide) (XS.iconst X3.here hx rfl (hb hby od_prog_59_m_20_40) k))))))) ?_
          exact own_finZ X3 hx (t := .boolean) hret (by simp) (z' := (1 : Int32)) rfl (hb hby od_prog_59_m_20_41) (own_end (Qv := (own_Qho0 Z a1 a4 ch0 ch1 ch2 ch3 gC wS kt h0 n0)) X3 (own_some hret) hlk (by decide) (by decide) e3 ⟨(by simp [own_ri, own_hx, c22, c29, c22_2, c29_2]), N3, rfl⟩)
      · refine own_s T3 (mkF m 33 #[rv a1, iv 1, iv 3, rv a4, iv 2, iv ch2] [(.int 0)]) (fun _ k => XS.icmpYes X3.here hx rfl (pc0 := 22) (pc' := 32) rfl (hb hby od_prog_59_m_20_22) rfl (flt c22_2).2.1 (by decide) (by decide) (XS.iconst X3.here hx rfl (hb hby od_prog_59_m_20_32) k)) ?_
        exact own_finZ X3 hx (t := .boolean) hret (by simp) (z' := (0 : Int32)) rfl (hb hby od_prog_59_m_20_33) (own_end (Qv := (own_Qho0 Z a1 a4 ch0 ch1 ch2 ch3 gC wS kt h0 n0)) X3 (own_some hret) hlk (by decide) (by decide) e3 ⟨(by simp [own_ri, own_hx, c22, c29, c22_2]), N3, rfl⟩)
  · refine own_s T1 (mkF m 33 #[rv a1, iv 1, iv 3, rv a4, iv 1, iv ch1] [(.int 0)]) (fun _ k => XS.icmpYes X1.here hx rfl (pc0 := 22) (pc' := 32) rfl (hb hby od_prog_59_m_20_22) rfl (flt c22).2.1 (by decide) (by decide) (XS.iconst X1.here hx rfl (hb hby od_prog_59_m_20_32) k)) ?_
    exact own_finZ X1 hx (t := .boolean) hret (by simp) (z' := (0 : Int32)) rfl (hb hby od_prog_59_m_20_33) (own_end (Qv := (own_Qho0 Z a1 a4 ch0 ch1 ch2 ch3 gC wS kt h0 n0)) X1 (own_some hret) hlk (by decide) (by decide) e1 ⟨(by simp [own_ri, own_hx, c22]), N1, rfl⟩)
theorem own_pd14 : parseMethodDescriptor "(Ljava/lang/String;II[Z)Z" = some ⟨[(.object "java/lang/String"), .int, .int, (.array .boolean)], some .boolean⟩ := by decide +kernel
abbrev own_y19 : MethodName := ⟨"com/example/gazetteer/gazetteer/model/Locations", "isEscape", "(Ljava/lang/String;II)Z"⟩
theorem od_prog_59_m_23_0 : decode prog_59_method_23_code 0 = .ok (.iload_n 1, 1) := by decide +kernel
theorem od_prog_59_m_23_1 : decode prog_59_method_23_code 1 = .ok (.iconst 2, 1) := by decide +kernel
theorem od_prog_59_m_23_2 : decode prog_59_method_23_code 2 = .ok (.iadd, 1) := by decide +kernel
theorem od_prog_59_m_23_3 : decode prog_59_method_23_code 3 = .ok (.iload_n 2, 1) := by decide +kernel
theorem od_prog_59_m_23_4 : decode prog_59_method_23_code 4 = .ok (.if_icmp .ge 23, 3) := by decide +kernel
theorem od_prog_59_m_23_7 : decode prog_59_method_23_code 7 = .ok (.aload_n 0, 1) := by decide +kernel
theorem od_prog_59_m_23_8 : decode prog_59_method_23_code 8 = .ok (.iload_n 1, 1) := by decide +kernel
theorem od_prog_59_m_23_9 : decode prog_59_method_23_code 9 = .ok (.iconst 1, 1) := by decide +kernel
theorem od_prog_59_m_23_10 : decode prog_59_method_23_code 10 = .ok (.iadd, 1) := by decide +kernel
theorem od_prog_59_m_23_11 : decode prog_59_method_23_code 11 = .ok (.iload_n 1, 1) := by decide +kernel
theorem od_prog_59_m_23_12 : decode prog_59_method_23_code 12 = .ok (.iconst 3, 1) := by decide +kernel
theorem od_prog_59_m_23_13 : decode prog_59_method_23_code 13 = .ok (.iadd, 1) := by decide +kernel
theorem od_prog_59_m_23_14 : decode prog_59_method_23_code 14 = .ok (.getstatic 200, 3) := by decide +kernel
theorem od_prog_59_m_23_17 : decode prog_59_method_23_code 17 = .ok (.invokestatic 203, 3) := by decide +kernel
theorem od_prog_59_m_23_20 : decode prog_59_method_23_code 20 = .ok (.ifCond .eq 7, 3) := by decide +kernel
theorem od_prog_59_m_23_23 : decode prog_59_method_23_code 23 = .ok (.iconst 1, 1) := by decide +kernel
theorem od_prog_59_m_23_24 : decode prog_59_method_23_code 24 = .ok (.goto 4, 3) := by decide +kernel
theorem od_prog_59_m_23_27 : decode prog_59_method_23_code 27 = .ok (.iconst 0, 1) := by decide +kernel
theorem od_prog_59_m_23_28 : decode prog_59_method_23_code 28 = .ok (.ireturn, 1) := by decide +kernel
theorem own_efiey0 (m : MethodId) (x0 : Addr) (x1 : Int32) (x2 : Int32) : entryFrame m #[(.ref x0), (.int x1), (.int x2)] 3 = mkF m 0 #[rv x0, iv x1, iv x2] [] := by first | (simp [entryFrame, mkF, argsToLocals, Value.category]; done) | rfl
def own_Qiey0 (Z : State) (a1 : Addr) (p3 : Int32) (ch0 : Int32) (ch1 : Int32) (ch2 : Int32) (ch3 : Int32) (gC : Int32) (wS : Value) (tb : Addr) (kt : ClassId) (h0 : Heap) (n0 : Nat) : Option Value → Heap → List Loc → Prop := fun v h L => v = some (.int (own_ri ch1 ch2)) ∧ Fr n0 L ∧ h = h0
def own_Riey0 : Room := { frames := 6, cells := 0, slots := 0, locals := 83 }
set_option maxRecDepth 65536 in
set_option maxHeartbeats 40000000 in
theorem own_rmiey0 (l : Launch) (Z : State) (a0 : Array Value) (hw : ∀ d ∈ tables_1, d.before a0 Z = true) (ws : List Jvm.Cond) (a1 : Addr) (p3 : Int32) (ch0 : Int32) (ch1 : Int32) (ch2 : Int32) (ch3 : Int32) (gC : Int32) (wS : Value) (tb : Addr) (kt : ClassId) (h0 : Heap) (n0 : Nat) (Z0 : n0 ≤ h0.size) (hStr : own_Str Z h0 a1 ch0 ch1 ch2 ch3) (hr1 : own_Ch ch1) (hr2 : own_Ch ch2) (pr3 : Sta Z h0 "java/lang/String" "COMPACT_STRINGS" "Z" (.int gC)) (hG : ¬ gC = (0 : Int32)) (pr5 : Sta Z h0 "jdk/internal/util/Preconditions" "SIOOBE_FORMATTER" "Ljava/util/function/BiFunction;" wS) (pr6 : Exa Z h0 a1 "java/lang/String") (pr7 : Sta Z h0 "com/example/gazetteer/gazetteer/model/Locations" "HEX_DIGIT" "[Z" (.ref tb)) (pr8 : Arv Z h0 tb kt .boolean (128 : Int32) (own_tab) (.int 0)) (hn : (2 : Int32) < p3) (pr10 : Sta Z h0 "java/lang/StringUTF16" "$assertionsDisabled" "Z" (.int 1)) (pr11 : Sta Z h0 "java/lang/StringUTF16" "HI_BYTE_SHIFT" "I" (.int 0)) (pr12 : Sta Z h0 "java/lang/StringUTF16" "LO_BYTE_SHIFT" "I" (.int 8)) (rwS : wS.isRef = true) :
    own_Met l Z own_y19 prog_59_method_23_code 3 (some .boolean) ws own_Riey0 h0 #[(.ref a1), (.int 0), (.int p3)] (own_Qiey0 Z a1 p3 ch0 ch1 ch2 ch3 gC wS tb kt h0 n0) own_Riey0.cells own_Riey0.slots := by
  refine own_start (plainFor_of_name own_pn4) ?_
  intro p e s m below meth c s₁ X0 hx hZ hby hml hret hlk hown hnm e0
  have hown : s.vm.findClass "com/example/gazetteer/gazetteer/model/Locations" = some m.cls := hown
  have hml : c.maxLocals = 3 := hml
  have N0 := Fr.nil n0
  refine own_cast (own_efiey0 m a1 (0 : Int32) p3) ?_
  refine own_s s₁ (mkF m 10 #[rv a1, iv 0, iv p3] [(.int 1), (.int 0), (.ref a1)]) (fun _ k => XS.iloadN X0.here hx rfl (hb hby od_prog_59_m_23_0) rfl  (XS.iconst X0.here hx rfl (hb hby od_prog_59_m_23_1) (XS.iadd X0.here hx rfl (hb hby od_prog_59_m_23_2) rfl (XS.iloadN X0.here hx rfl (hb hby od_prog_59_m_23_3) rfl  (XS.icmpNo X0.here hx rfl (hb hby od_prog_59_m_23_4) rfl (tlt hn).2.1 (XS.aloadN X0.here hx rfl (hb hby od_prog_59_m_23_7) rfl rfl (XS.iloadN X0.here hx rfl (hb hby od_prog_59_m_23_8) rfl  (XS.iconst X0.here hx rfl (hb hby od_prog_59_m_23_9) k)))))))) ?_
  refine own_s s₁ (mkF m 14 #[rv a1, iv 0, iv p3] [(.int 3), (.int 1), (.ref a1)]) (fun _ k => XS.iadd X0.here hx rfl (hb hby od_prog_59_m_23_10) rfl (XS.iloadN X0.here hx rfl (hb hby od_prog_59_m_23_11) rfl  (XS.iconst X0.here hx rfl (hb hby od_prog_59_m_23_12) (XS.iadd X0.here hx rfl (hb hby od_prog_59_m_23_13) rfl k)))) ?_
  obtain ⟨T1, X1, e1, st1⟩ := getS2 X0 hx hZ hown (host := "") (Or.inl (own_h hw 59 rfl)) Via.refl e0 pr7 (g := (mkF m 14 #[rv a1, iv 0, iv p3] [(.int 3), (.int 1), (.ref a1)])) rfl (hb hby od_prog_59_m_23_14)
  refine own_s T1 (mkF m 17 #[rv a1, iv 0, iv p3] [(.ref tb), (.int 3), (.int 1), (.ref a1)]) st1 ?_
  obtain ⟨v2, T2, L2, X2, hQ2, st2⟩ := own_callS X1 hx hZ (y := own_y18) (W := 0) hown (own_h hw 61 rfl) (own_h hw 62 rfl) (own_h hw 34 rfl) (own_h hw 63 rfl) (by decide) (own_rmho0 l Z a0 hw [] a1 tb ch0 ch1 ch2 ch3 gC wS kt h0 n0 Z0 hStr hr1 hr2 pr3 hG pr5 pr6 pr8 pr10 pr11 pr12 rwS) (by decide) (by decide) (g := (mkF m 17 #[rv a1, iv 0, iv p3] [(.ref tb), (.int 3), (.int 1), (.ref a1)])) rfl (by rw [hml]; rfl) (argsL := [(.ref a1), (.int 1), (.int 3), (.ref tb)]) (rest := []) rfl (lenOf own_pd14 rfl) rfl (by show 2 * 0 + _ ≤ _; exact Nat.le_of_eq rfl) (hb hby od_prog_59_m_23_17) e1 (by decide) (by decide)
  obtain ⟨rfl, Nq2, e2⟩ := hQ2
  have N2 := Fr.app N0 Nq2
  refine own_s T2 (mkF m 20 #[rv a1, iv 0, iv p3] [(.int (own_ri ch1 ch2))]) st2 ?_
  by_cases c20 : (own_ri ch1 ch2) = (0 : Int32)
  · refine own_s T2 (mkF m 28 #[rv a1, iv 0, iv p3] [(.int 0)]) (fun _ k => XS.ifYes X2.here hx rfl (pc0 := 20) (pc' := 27) rfl (hb hby od_prog_59_m_23_20) rfl ((if0 _ _).trans (teq c20).1) (by decide) (by decide) (XS.iconst X2.here hx rfl (hb hby od_prog_59_m_23_27) k)) ?_
    exact own_finZ X2 hx (t := .boolean) hret (by simp) (z' := (0 : Int32)) rfl (hb hby od_prog_59_m_23_28) (own_end (Qv := (own_Qiey0 Z a1 p3 ch0 ch1 ch2 ch3 gC wS tb kt h0 n0)) X2 (own_some hret) hlk (by decide) (by decide) e2 ⟨(by rw [c20]), N2, rfl⟩)
  · refine own_s T2 (mkF m 28 #[rv a1, iv 0, iv p3] [(.int 1)]) (fun _ k => XS.ifNo X2.here hx rfl (hb hby od_prog_59_m_23_20) rfl ((if0 _ _).trans (feq c20).1) (XS.iconst X2.here hx rfl (hb hby od_prog_59_m_23_23) (XS.goto X2.here hx rfl (pc0 := 24) (pc' := 28) rfl (hb hby od_prog_59_m_23_24) (by decide) (by decide) k))) ?_
    exact own_finZ X2 hx (t := .boolean) hret (by simp) (z' := (1 : Int32)) rfl (hb hby od_prog_59_m_23_28) (own_end (Qv := (own_Qiey0 Z a1 p3 ch0 ch1 ch2 ch3 gC wS tb kt h0 n0)) X2 (own_some hret) hlk (by decide) (by decide) e2 ⟨(by rw [own_riN c20]), N2, rfl⟩)
theorem own_efho1 (m : MethodId) (x0 : Addr) (x1 : Int32) (x2 : Int32) (x3 : Addr) : entryFrame m #[(.ref x0), (.int x1), (.int x2), (.ref x3)] 6 = mkF m 0 #[rv x0, iv x1, iv x2, rv x3, u_, u_] [] := by first | (simp [entryFrame, mkF, argsToLocals, Value.category]; done) | rfl
def own_Qho1 (Z : State) (a1 : Addr) (a4 : Addr) (ch0 : Int32) (ch1 : Int32) (ch2 : Int32) (ch3 : Int32) (gC : Int32) (wS : Value) (kt : ClassId) (h0 : Heap) (n0 : Nat) : Option Value → Heap → List Loc → Prop := fun v h L => v = some (.int (own_ri ch2 ch3)) ∧ Fr n0 L ∧ h = h0
def own_Rho1 : Room := { frames := 5, cells := 0, slots := 0, locals := 66 }
set_option maxRecDepth 65536 in
set_option maxHeartbeats 40000000 in
theorem own_rmho1 (l : Launch) (Z : State) (a0 : Array Value) (hw : ∀ d ∈ tables_1, d.before a0 Z = true) (ws : List Jvm.Cond) (a1 : Addr) (a4 : Addr) (ch0 : Int32) (ch1 : Int32) (ch2 : Int32) (ch3 : Int32) (gC : Int32) (wS : Value) (kt : ClassId) (h0 : Heap) (n0 : Nat) (Z0 : n0 ≤ h0.size) (hStr : own_Str Z h0 a1 ch0 ch1 ch2 ch3) (hr2 : own_Ch ch2) (hr3 : own_Ch ch3) (pr3 : Sta Z h0 "java/lang/String" "COMPACT_STRINGS" "Z" (.int gC)) (hG : ¬ gC = (0 : Int32)) (pr5 : Sta Z h0 "jdk/internal/util/Preconditions" "SIOOBE_FORMATTER" "Ljava/util/function/BiFunction;" wS) (pr6 : Exa Z h0 a1 "java/lang/String") (pr7 : Arv Z h0 a4 kt .boolean (128 : Int32) (own_tab) (.int 0)) (pr8 : Sta Z h0 "java/lang/StringUTF16" "$assertionsDisabled" "Z" (.int 1)) (pr9 : Sta Z h0 "java/lang/StringUTF16" "HI_BYTE_SHIFT" "I" (.int 0)) (pr10 : Sta Z h0 "java/lang/StringUTF16" "LO_BYTE_SHIFT" "I" (.int 8)) (rwS : wS.isRef = true) :
    own_Met l Z own_y18 prog_59_method_20_code 6 (some .boolean) ws own_Rho1 h0 #[(.ref a1), (.int 2), (.int 4), (.ref a4)] (own_Qho1 Z a1 a4 ch0 ch1 ch2 ch3 gC wS kt h0 n0) own_Rho1.cells own_Rho1.slots := by
  refine own_start (plainFor_of_name own_pn4) ?_
  intro p e s m below meth c s₁ X0 hx hZ hby hml hret hlk hown hnm e0
  have hown : s.vm.findClass "com/example/gazetteer/gazetteer/model/Locations" = some m.cls := hown
  have hml : c.maxLocals = 6 := hml
  have N0 := Fr.nil n0
  refine own_cast (own_efho1 m a1 (2 : Int32) (4 : Int32) a4) ?_
  refine own_s s₁ (mkF m 12 #[rv a1, iv 2, iv 4, rv a4, iv 2, u_] [(.int 2), (.ref a1)]) (fun _ k => XS.iloadN X0.here hx rfl (hb hby od_prog_59_m_20_0) rfl  (XS.istore X0.here hx rfl (hb hby od_prog_59_m_20_1) rfl (l' := #[rv a1, iv 2, iv 4, rv a4, iv 2, u_]) rfl (XS.iload X0.here hx rfl (hb hby od_prog_59_m_20_3) rfl  (XS.iloadN X0.here hx rfl (hb hby od_prog_59_m_20_5) rfl  (XS.icmpNo X0.here hx rfl (hb hby od_prog_59_m_20_6) rfl (tlt (by decide : ((2 : Int32) < (4 : Int32)))).2.1 (XS.aloadN X0.here hx rfl (hb hby od_prog_59_m_20_9) rfl rfl (XS.iload X0.here hx rfl (hb hby od_prog_59_m_20_10) rfl  k))))))) ?_
  obtain ⟨v1, T1, L1, X1, hQ1, st1⟩ := own_callV X0 hx hZ (y := own_y17) (z := own_y17) (W := 0) (a := a1) hown (own_h hw 64 rfl) (own_h hw 65 rfl) (notFace_of_selects (args := #[]) (mvT hZ (own_h hw 67 rfl))) (own_h hw 67 rfl) (own_h hw 66 rfl) (own_h hw 5 rfl) (own_h hw 68 rfl) (by decide) (own_rmca2 l Z a0 hw [] a1 ch0 ch1 ch2 ch3 gC wS h0 n0 Z0 hStr hr2 pr3 hG pr5 pr8 pr9 pr10 rwS) (by decide) (by decide) pr6 (g := (mkF m 12 #[rv a1, iv 2, iv 4, rv a4, iv 2, u_] [(.int 2), (.ref a1)])) rfl (by rw [hml]; rfl) (argsL := [(.int 2)]) (rest := []) rfl (lenOf own_pd13 rfl) rfl (by show 2 * 0 + _ ≤ _; exact Nat.le_of_eq rfl) (hb hby od_prog_59_m_20_12) e0 (by decide) (by decide)
  obtain ⟨rfl, Nq1, e1⟩ := hQ1
  have N1 := Fr.app N0 Nq1
  refine own_s T1 (mkF m 15 #[rv a1, iv 2, iv 4, rv a4, iv 2, u_] [(.int ch2)]) st1 ?_
  refine own_s T1 (mkF m 22 #[rv a1, iv 2, iv 4, rv a4, iv 2, iv ch2] [(.int 128), (.int ch2)]) (fun _ k => XS.istore X1.here hx rfl (hb hby od_prog_59_m_20_15) rfl (l' := #[rv a1, iv 2, iv 4, rv a4, iv 2, iv ch2]) rfl (XS.iload X1.here hx rfl (hb hby od_prog_59_m_20_17) rfl  (XS.sipush X1.here hx rfl (hb hby od_prog_59_m_20_19) k))) ?_
  by_cases c22 : ch2 < (128 : Int32)
  · refine own_s T1 (mkF m 28 #[rv a1, iv 2, iv 4, rv a4, iv 2, iv ch2] [(.int ch2), (.ref a4)]) (fun _ k => XS.icmpNo X1.here hx rfl (hb hby od_prog_59_m_20_22) rfl (tlt c22).2.1 (XS.aloadN X1.here hx rfl (hb hby od_prog_59_m_20_25) rfl rfl (XS.iload X1.here hx rfl (hb hby od_prog_59_m_20_26) rfl  k))) ?_
    obtain ⟨cl2, Ar2, q2, S2, Nn2, H2, G2⟩ := id pr7
    have hin2 : ¬ (ch2 < 0 ∨ cl2.slots.size ≤ (ch2).toNatClampNeg) := (inb_of S2 ⟨own_ch0 hr2, c22⟩)
    refine own_s T1 (mkF m 29 #[rv a1, iv 2, iv 4, rv a4, iv 2, iv ch2] [(.int (own_hv ch2))]) (fun _ k => X1.baloadBooleans hx (j := ch2) (v := (.int (own_hv ch2))) (own_at e1 Ar2.1) (State.isArrayOf_alike hZ.alike Ar2.2.1) Ar2.2.2 hin2 (Has.at H2 hin2 (own_tabAt (own_ch128 hr2 c22))) (g := (mkF m 28 #[rv a1, iv 2, iv 4, rv a4, iv 2, iv ch2] [(.int ch2), (.ref a4)])) rfl rfl (hb hby od_prog_59_m_20_28) _ k) ?_
    by_cases c29 : (own_hv ch2) = (0 : Int32)
    · refine own_s T1 (mkF m 33 #[rv a1, iv 2, iv 4, rv a4, iv 2, iv ch2] [(.int 0)]) (fun _ k => XS.ifNo X1.here hx rfl (hb hby od_prog_59_m_20_29) rfl ((if0 _ _).trans (teq c29).2) (XS.iconst X1.here hx rfl (hb hby od_prog_59_m_20_32) k)) ?_
      exact own_finZ X1 hx (t := .boolean) hret (by simp) (z' := (0 : Int32)) rfl (hb hby od_prog_59_m_20_33) (own_end (Qv := (own_Qho1 Z a1 a4 ch0 ch1 ch2 ch3 gC wS kt h0 n0)) X1 (own_some hret) hlk (by decide) (by decide) e1 ⟨(by simp [own_ri, own_hx, c22, c29]), N1, rfl⟩)
    · refine own_s T1 (mkF m 12 #[rv a1, iv 2, iv 4, rv a4, iv 3, iv ch2] [(.int 3), (.ref a1)]) (fun _ k => XS.ifYes X1.here hx rfl (pc0 := 29) (pc' := 34) rfl (hb hby od_prog_59_m_20_29) rfl ((if0 _ _).trans (feq c29).2) (by decide) (by decide) (XS.iinc X1.here hx rfl (hb hby od_prog_59_m_20_34) rfl (l' := #[rv a1, iv 2, iv 4, rv a4, iv 3, iv ch2]) rfl (XS.goto X1.here hx rfl (pc0 := 37) (pc' := 3) rfl (hb hby od_prog_59_m_20_37) (by decide) (by decide) (XS.iload X1.here hx rfl (hb hby od_prog_59_m_20_3) rfl  (XS.iloadN X1.here hx rfl (hb hby od_prog_59_m_20_5) rfl  (XS.icmpNo X1.here hx rfl (hb hby od_prog_59_m_20_6) rfl (tlt (by decide : ((3 : Int32) < (4 : Int32)))).2.1 (XS.aloadN X1.here hx rfl (hb hby od_prog_59_m_20_9) rfl rfl (XS.iload X1.here hx rfl (hb hby od_prog_59_m_20_10) rfl  k)))))))) ?_
      obtain ⟨v3, T3, L3, X3, hQ3, st3⟩ := own_callV X1 hx hZ (y := own_y17) (z := own_y17) (W := 0) (a := a1) hown (own_h hw 64 rfl) (own_h hw 65 rfl) (notFace_of_selects (args := #[]) (mvT hZ (own_h hw 67 rfl))) (own_h hw 67 rfl) (own_h hw 66 rfl) (own_h hw 5 rfl) (own_h hw 68 rfl) (by decide) (own_rmca3 l Z a0 hw [] a1 ch0 ch1 ch2 ch3 gC wS h0 n0 Z0 hStr hr3 pr3 hG pr5 pr8 pr9 pr10 rwS) (by decide) (by decide) pr6 (g := (mkF m 12 #[rv a1, iv 2, iv 4, rv a4, iv 3, iv ch2] [(.int 3), (.ref a1)])) rfl (by rw [hml]; rfl) (argsL := [(.int 3)]) (rest := []) rfl (lenOf own_pd13 rfl) rfl (by show 2 * 0 + _ ≤ _; exact Nat.le_of_eq rfl) (hb hby od_prog_59_m_20_12) e1 (by decide) (by decide)
      obtain ⟨rfl, Nq3, e3⟩ := hQ3
      have N3 := Fr.app N1 Nq3
      refine own_s T3 (mkF m 15 #[rv a1, iv 2, iv 4, rv a4, iv 3, iv ch2] [(.int ch3)]) st3 ?_
      refine own_s T3 (mkF m 22 #[rv a1, iv 2, iv 4, rv a4, iv 3, iv ch3] [(.int 128), (.int ch3)]) (fun _ k => XS.istore X3.here hx rfl (hb hby od_prog_59_m_20_15) rfl (l' := #[rv a1, iv 2, iv 4, rv a4, iv 3, iv ch3]) rfl (XS.iload X3.here hx rfl (hb hby od_prog_59_m_20_17) rfl  (XS.sipush X3.here hx rfl (hb hby od_prog_59_m_20_19) k))) ?_
      by_cases c22_2 : ch3 < (128 : Int32)
      · refine own_s T3 (mkF m 28 #[rv a1, iv 2, iv 4, rv a4, iv 3, iv ch3] [(.int ch3), (.ref a4)]) (fun _ k => XS.icmpNo X3.here hx rfl (hb hby od_prog_59_m_20_22) rfl (tlt c22_2).2.1 (XS.aloadN X3.here hx rfl (hb hby od_prog_59_m_20_25) rfl rfl (XS.iload X3.here hx rfl (hb hby od_prog_59_m_20_26) rfl  k))) ?_
        obtain ⟨cl4, Ar4, q4, S4, Nn4, H4, G4⟩ := id pr7
        have hin4 : ¬ (ch3 < 0 ∨ cl4.slots.size ≤ (ch3).toNatClampNeg) := (inb_of S4 ⟨own_ch0 hr3, c22_2⟩)
        refine own_s T3 (mkF m 29 #[rv a1, iv 2, iv 4, rv a4, iv 3, iv ch3] [(.int (own_hv ch3))]) (fun _ k => X3.baloadBooleans hx (j := ch3) (v := (.int (own_hv ch3))) (own_at e3 Ar4.1) (State.isArrayOf_alike hZ.alike Ar4.2.1) Ar4.2.2 hin4 (Has.at H4 hin4 (own_tabAt (own_ch128 hr3 c22_2))) (g := (mkF m 28 #[rv a1, iv 2, iv 4, rv a4, iv 3, iv ch3] [(.int ch3), (.ref a4)])) rfl rfl (hb hby od_prog_59_m_20_28) _ k) ?_
        by_cases c29_2 : (own_hv ch3) = (0 : Int32)
        · refine own_s T3 (mkF m 33 #[rv a1, iv 2, iv 4, rv a4, iv 3, iv ch3] [(.int 0)]) (fun _ k => XS.ifNo X3.here hx rfl (hb hby od_prog_59_m_20_29) rfl ((if0 _ _).trans (teq c29_2).2) (XS.iconst X3.here hx rfl (hb hby od_prog_59_m_20_32) k)) ?_
          exact own_finZ X3 hx (t := .boolean) hret (by simp) (z' := (0 : Int32)) rfl (hb hby od_prog_59_m_20_33) (own_end (Qv := (own_Qho1 Z a1 a4 ch0 ch1 ch2 ch3 gC wS kt h0 n0)) X3 (own_some hret) hlk (by decide) (by decide) e3 ⟨(by simp [own_ri, own_hx, c22, c29, c22_2, c29_2]), N3, rfl⟩)
        · refine own_s T3 (mkF m 41 #[rv a1, iv 2, iv 4, rv a4, iv 4, iv ch3] [(.int 1)]) (fun _ k => XS.ifYes X3.here hx rfl (pc0 := 29) (pc' := 34) rfl (hb hby od_prog_59_m_20_29) rfl ((if0 _ _).trans (feq c29_2).2) (by decide) (by decide) (XS.iinc X3.here hx rfl (hb hby od_prog_59_m_20_34) rfl (l' := #[rv a1, iv 2, iv 4, rv a4, iv 4, iv ch3]) rfl (XS.goto X3.here hx rfl (pc0 := 37) (pc' := 3) rfl (hb hby od_prog_59_m_20_37) (by decide) (by decide) (XS.iload X3.here hx rfl (hb hby od_prog_59_m_20_3) rfl  (XS.iloadN X3.here hx rfl (hb hby od_prog_59_m_20_5) rfl  (XS.icmpYes X3.here hx rfl (pc0 := 6) (pc' := 40) rfl (hb hby od_prog_59_m_20_6) rfl (flt (by decide : ¬ ((4 : Int32) < (4 : Int32)))).2.1 (by decide) (by decide) (XS.iconst X3.here hx rfl (hb hby od_prog_59_m_20_40) k))))))) ?_
          exact own_finZ X3 hx (t := .boolean) hret (by simp) (z' := (1 : Int32)) rfl (hb hby od_prog_59_m_20_41) (own_end (Qv := (own_Qho1 Z a1 a4 ch0 ch1 ch2 ch3 gC wS kt h0 n0)) X3 (own_some hret) hlk (by decide) (by decide) e3 ⟨(by simp [own_ri, own_hx, c22, c29, c22_2, c29_2]), N3, rfl⟩)
      · refine own_s T3 (mkF m 33 #[rv a1, iv 2, iv 4, rv a4, iv 3, iv ch3] [(.int 0)]) (fun _ k => XS.icmpYes X3.here hx rfl (pc0 := 22) (pc' := 32) rfl (hb hby od_prog_59_m_20_22) rfl (flt c22_2).2.1 (by decide) (by decide) (XS.iconst X3.here hx rfl (hb hby od_prog_59_m_20_32) k)) ?_
        exact own_finZ X3 hx (t := .boolean) hret (by simp) (z' := (0 : Int32)) rfl (hb hby od_prog_59_m_20_33) (own_end (Qv := (own_Qho1 Z a1 a4 ch0 ch1 ch2 ch3 gC wS kt h0 n0)) X3 (own_some hret) hlk (by decide) (by decide) e3 ⟨(by simp [own_ri, own_hx, c22, c29, c22_2]), N3, rfl⟩)
  · refine own_s T1 (mkF m 33 #[rv a1, iv 2, iv 4, rv a4, iv 2, iv ch2] [(.int 0)]) (fun _ k => XS.icmpYes X1.here hx rfl (pc0 := 22) (pc' := 32) rfl (hb hby od_prog_59_m_20_22) rfl (flt c22).2.1 (by decide) (by decide) (XS.iconst X1.here hx rfl (hb hby od_prog_59_m_20_32) k)) ?_
    exact own_finZ X1 hx (t := .boolean) hret (by simp) (z' := (0 : Int32)) rfl (hb hby od_prog_59_m_20_33) (own_end (Qv := (own_Qho1 Z a1 a4 ch0 ch1 ch2 ch3 gC wS kt h0 n0)) X1 (own_some hret) hlk (by decide) (by decide) e1 ⟨(by simp [own_ri, own_hx, c22]), N1, rfl⟩)
theorem own_efiey1 (m : MethodId) (x0 : Addr) (x1 : Int32) (x2 : Int32) : entryFrame m #[(.ref x0), (.int x1), (.int x2)] 3 = mkF m 0 #[rv x0, iv x1, iv x2] [] := by first | (simp [entryFrame, mkF, argsToLocals, Value.category]; done) | rfl
def own_Qiey1 (Z : State) (a1 : Addr) (p3 : Int32) (ch0 : Int32) (ch1 : Int32) (ch2 : Int32) (ch3 : Int32) (gC : Int32) (wS : Value) (tb : Addr) (kt : ClassId) (h0 : Heap) (n0 : Nat) : Option Value → Heap → List Loc → Prop := fun v h L => v = some (.int (own_ri ch2 ch3)) ∧ Fr n0 L ∧ h = h0
def own_Riey1 : Room := { frames := 6, cells := 0, slots := 0, locals := 83 }
set_option maxRecDepth 65536 in
set_option maxHeartbeats 40000000 in
theorem own_rmiey1 (l : Launch) (Z : State) (a0 : Array Value) (hw : ∀ d ∈ tables_1, d.before a0 Z = true) (ws : List Jvm.Cond) (a1 : Addr) (p3 : Int32) (ch0 : Int32) (ch1 : Int32) (ch2 : Int32) (ch3 : Int32) (gC : Int32) (wS : Value) (tb : Addr) (kt : ClassId) (h0 : Heap) (n0 : Nat) (Z0 : n0 ≤ h0.size) (hStr : own_Str Z h0 a1 ch0 ch1 ch2 ch3) (hr2 : own_Ch ch2) (hr3 : own_Ch ch3) (pr3 : Sta Z h0 "java/lang/String" "COMPACT_STRINGS" "Z" (.int gC)) (hG : ¬ gC = (0 : Int32)) (pr5 : Sta Z h0 "jdk/internal/util/Preconditions" "SIOOBE_FORMATTER" "Ljava/util/function/BiFunction;" wS) (pr6 : Exa Z h0 a1 "java/lang/String") (pr7 : Sta Z h0 "com/example/gazetteer/gazetteer/model/Locations" "HEX_DIGIT" "[Z" (.ref tb)) (pr8 : Arv Z h0 tb kt .boolean (128 : Int32) (own_tab) (.int 0)) (hn : (3 : Int32) < p3) (pr10 : Sta Z h0 "java/lang/StringUTF16" "$assertionsDisabled" "Z" (.int 1)) (pr11 : Sta Z h0 "java/lang/StringUTF16" "HI_BYTE_SHIFT" "I" (.int 0)) (pr12 : Sta Z h0 "java/lang/StringUTF16" "LO_BYTE_SHIFT" "I" (.int 8)) (rwS : wS.isRef = true) :
    own_Met l Z own_y19 prog_59_method_23_code 3 (some .boolean) ws own_Riey1 h0 #[(.ref a1), (.int 1), (.int p3)] (own_Qiey1 Z a1 p3 ch0 ch1 ch2 ch3 gC wS tb kt h0 n0) own_Riey1.cells own_Riey1.slots := by
  refine own_start (plainFor_of_name own_pn4) ?_
  intro p e s m below meth c s₁ X0 hx hZ hby hml hret hlk hown hnm e0
  have hown : s.vm.findClass "com/example/gazetteer/gazetteer/model/Locations" = some m.cls := hown
  have hml : c.maxLocals = 3 := hml
  have N0 := Fr.nil n0
  refine own_cast (own_efiey1 m a1 (1 : Int32) p3) ?_
  refine own_s s₁ (mkF m 10 #[rv a1, iv 1, iv p3] [(.int 1), (.int 1), (.ref a1)]) (fun _ k => XS.iloadN X0.here hx rfl (hb hby od_prog_59_m_23_0) rfl  (XS.iconst X0.here hx rfl (hb hby od_prog_59_m_23_1) (XS.iadd X0.here hx rfl (hb hby od_prog_59_m_23_2) rfl (XS.iloadN X0.here hx rfl (hb hby od_prog_59_m_23_3) rfl  (XS.icmpNo X0.here hx rfl (hb hby od_prog_59_m_23_4) rfl (tlt hn).2.1 (XS.aloadN X0.here hx rfl (hb hby od_prog_59_m_23_7) rfl rfl (XS.iloadN X0.here hx rfl (hb hby od_prog_59_m_23_8) rfl  (XS.iconst X0.here hx rfl (hb hby od_prog_59_m_23_9) k)))))))) ?_
  refine own_s s₁ (mkF m 14 #[rv a1, iv 1, iv p3] [(.int 4), (.int 2), (.ref a1)]) (fun _ k => XS.iadd X0.here hx rfl (hb hby od_prog_59_m_23_10) rfl (XS.iloadN X0.here hx rfl (hb hby od_prog_59_m_23_11) rfl  (XS.iconst X0.here hx rfl (hb hby od_prog_59_m_23_12) (XS.iadd X0.here hx rfl (hb hby od_prog_59_m_23_13) rfl k)))) ?_
  obtain ⟨T1, X1, e1, st1⟩ := getS2 X0 hx hZ hown (host := "") (Or.inl (own_h hw 59 rfl)) Via.refl e0 pr7 (g := (mkF m 14 #[rv a1, iv 1, iv p3] [(.int 4), (.int 2), (.ref a1)])) rfl (hb hby od_prog_59_m_23_14)
  refine own_s T1 (mkF m 17 #[rv a1, iv 1, iv p3] [(.ref tb), (.int 4), (.int 2), (.ref a1)]) st1 ?_
  obtain ⟨v2, T2, L2, X2, hQ2, st2⟩ := own_callS X1 hx hZ (y := own_y18) (W := 0) hown (own_h hw 61 rfl) (own_h hw 62 rfl) (own_h hw 34 rfl) (own_h hw 63 rfl) (by decide) (own_rmho1 l Z a0 hw [] a1 tb ch0 ch1 ch2 ch3 gC wS kt h0 n0 Z0 hStr hr2 hr3 pr3 hG pr5 pr6 pr8 pr10 pr11 pr12 rwS) (by decide) (by decide) (g := (mkF m 17 #[rv a1, iv 1, iv p3] [(.ref tb), (.int 4), (.int 2), (.ref a1)])) rfl (by rw [hml]; rfl) (argsL := [(.ref a1), (.int 2), (.int 4), (.ref tb)]) (rest := []) rfl (lenOf own_pd14 rfl) rfl (by show 2 * 0 + _ ≤ _; exact Nat.le_of_eq rfl) (hb hby od_prog_59_m_23_17) e1 (by decide) (by decide)
  obtain ⟨rfl, Nq2, e2⟩ := hQ2
  have N2 := Fr.app N0 Nq2
  refine own_s T2 (mkF m 20 #[rv a1, iv 1, iv p3] [(.int (own_ri ch2 ch3))]) st2 ?_
  by_cases c20 : (own_ri ch2 ch3) = (0 : Int32)
  · refine own_s T2 (mkF m 28 #[rv a1, iv 1, iv p3] [(.int 0)]) (fun _ k => XS.ifYes X2.here hx rfl (pc0 := 20) (pc' := 27) rfl (hb hby od_prog_59_m_23_20) rfl ((if0 _ _).trans (teq c20).1) (by decide) (by decide) (XS.iconst X2.here hx rfl (hb hby od_prog_59_m_23_27) k)) ?_
    exact own_finZ X2 hx (t := .boolean) hret (by simp) (z' := (0 : Int32)) rfl (hb hby od_prog_59_m_23_28) (own_end (Qv := (own_Qiey1 Z a1 p3 ch0 ch1 ch2 ch3 gC wS tb kt h0 n0)) X2 (own_some hret) hlk (by decide) (by decide) e2 ⟨(by rw [c20]), N2, rfl⟩)
  · refine own_s T2 (mkF m 28 #[rv a1, iv 1, iv p3] [(.int 1)]) (fun _ k => XS.ifNo X2.here hx rfl (hb hby od_prog_59_m_23_20) rfl ((if0 _ _).trans (feq c20).1) (XS.iconst X2.here hx rfl (hb hby od_prog_59_m_23_23) (XS.goto X2.here hx rfl (pc0 := 24) (pc' := 28) rfl (hb hby od_prog_59_m_23_24) (by decide) (by decide) k))) ?_
    exact own_finZ X2 hx (t := .boolean) hret (by simp) (z' := (1 : Int32)) rfl (hb hby od_prog_59_m_23_28) (own_end (Qv := (own_Qiey1 Z a1 p3 ch0 ch1 ch2 ch3 gC wS tb kt h0 n0)) X2 (own_some hret) hlk (by decide) (by decide) e2 ⟨(by rw [own_riN c20]), N2, rfl⟩)
theorem own_efien0 (m : MethodId) (x0 : Addr) (x1 : Int32) (x2 : Int32) : entryFrame m #[(.ref x0), (.int x1), (.int x2)] 3 = mkF m 0 #[rv x0, iv x1, iv x2] [] := by first | (simp [entryFrame, mkF, argsToLocals, Value.category]; done) | rfl
def own_Qien0 (Z : State) (a1 : Addr) (p3 : Int32) (h0 : Heap) (n0 : Nat) : Option Value → Heap → List Loc → Prop := fun v h L => v = some (.int 0) ∧ Fr n0 L ∧ h = h0
def own_Rien0 : Room := { frames := 0, cells := 0, slots := 0, locals := 0 }
set_option maxRecDepth 65536 in
set_option maxHeartbeats 40000000 in
theorem own_rmien0 (l : Launch) (Z : State) (a0 : Array Value) (hw : ∀ d ∈ tables_1, d.before a0 Z = true) (ws : List Jvm.Cond) (a1 : Addr) (p3 : Int32) (h0 : Heap) (n0 : Nat) (Z0 : n0 ≤ h0.size) (hn : ¬ (2 : Int32) < p3) :
    own_Met l Z own_y19 prog_59_method_23_code 3 (some .boolean) ws own_Rien0 h0 #[(.ref a1), (.int 0), (.int p3)] (own_Qien0 Z a1 p3 h0 n0) own_Rien0.cells own_Rien0.slots := by
  refine own_start (plainFor_of_name own_pn4) ?_
  intro p e s m below meth c s₁ X0 hx hZ hby hml hret hlk hown hnm e0
  have hown : s.vm.findClass "com/example/gazetteer/gazetteer/model/Locations" = some m.cls := hown
  have hml : c.maxLocals = 3 := hml
  have N0 := Fr.nil n0
  refine own_cast (own_efien0 m a1 (0 : Int32) p3) ?_
  refine own_s s₁ (mkF m 28 #[rv a1, iv 0, iv p3] [(.int 0)]) (fun _ k => XS.iloadN X0.here hx rfl (hb hby od_prog_59_m_23_0) rfl  (XS.iconst X0.here hx rfl (hb hby od_prog_59_m_23_1) (XS.iadd X0.here hx rfl (hb hby od_prog_59_m_23_2) rfl (XS.iloadN X0.here hx rfl (hb hby od_prog_59_m_23_3) rfl  (XS.icmpYes X0.here hx rfl (pc0 := 4) (pc' := 27) rfl (hb hby od_prog_59_m_23_4) rfl (flt hn).2.1 (by decide) (by decide) (XS.iconst X0.here hx rfl (hb hby od_prog_59_m_23_27) k)))))) ?_
  exact own_finZ X0 hx (t := .boolean) hret (by simp) (z' := (0 : Int32)) rfl (hb hby od_prog_59_m_23_28) (own_end (Qv := (own_Qien0 Z a1 p3 h0 n0)) X0 (own_some hret) hlk (by decide) (by decide) e0 ⟨rfl, N0, rfl⟩)
theorem own_efien1 (m : MethodId) (x0 : Addr) (x1 : Int32) (x2 : Int32) : entryFrame m #[(.ref x0), (.int x1), (.int x2)] 3 = mkF m 0 #[rv x0, iv x1, iv x2] [] := by first | (simp [entryFrame, mkF, argsToLocals, Value.category]; done) | rfl
def own_Qien1 (Z : State) (a1 : Addr) (p3 : Int32) (h0 : Heap) (n0 : Nat) : Option Value → Heap → List Loc → Prop := fun v h L => v = some (.int 0) ∧ Fr n0 L ∧ h = h0
def own_Rien1 : Room := { frames := 0, cells := 0, slots := 0, locals := 0 }
set_option maxRecDepth 65536 in
set_option maxHeartbeats 40000000 in
theorem own_rmien1 (l : Launch) (Z : State) (a0 : Array Value) (hw : ∀ d ∈ tables_1, d.before a0 Z = true) (ws : List Jvm.Cond) (a1 : Addr) (p3 : Int32) (h0 : Heap) (n0 : Nat) (Z0 : n0 ≤ h0.size) (hn : ¬ (3 : Int32) < p3) :
    own_Met l Z own_y19 prog_59_method_23_code 3 (some .boolean) ws own_Rien1 h0 #[(.ref a1), (.int 1), (.int p3)] (own_Qien1 Z a1 p3 h0 n0) own_Rien1.cells own_Rien1.slots := by
  refine own_start (plainFor_of_name own_pn4) ?_
  intro p e s m below meth c s₁ X0 hx hZ hby hml hret hlk hown hnm e0
  have hown : s.vm.findClass "com/example/gazetteer/gazetteer/model/Locations" = some m.cls := hown
  have hml : c.maxLocals = 3 := hml
  have N0 := Fr.nil n0
  refine own_cast (own_efien1 m a1 (1 : Int32) p3) ?_
  refine own_s s₁ (mkF m 28 #[rv a1, iv 1, iv p3] [(.int 0)]) (fun _ k => XS.iloadN X0.here hx rfl (hb hby od_prog_59_m_23_0) rfl  (XS.iconst X0.here hx rfl (hb hby od_prog_59_m_23_1) (XS.iadd X0.here hx rfl (hb hby od_prog_59_m_23_2) rfl (XS.iloadN X0.here hx rfl (hb hby od_prog_59_m_23_3) rfl  (XS.icmpYes X0.here hx rfl (pc0 := 4) (pc' := 27) rfl (hb hby od_prog_59_m_23_4) rfl (flt hn).2.1 (by decide) (by decide) (XS.iconst X0.here hx rfl (hb hby od_prog_59_m_23_27) k)))))) ?_
  exact own_finZ X0 hx (t := .boolean) hret (by simp) (z' := (0 : Int32)) rfl (hb hby od_prog_59_m_23_28) (own_end (Qv := (own_Qien1 Z a1 p3 h0 n0)) X0 (own_some hret) hlk (by decide) (by decide) e0 ⟨rfl, N0, rfl⟩)
theorem own_efien2 (m : MethodId) (x0 : Addr) (x1 : Int32) (x2 : Int32) : entryFrame m #[(.ref x0), (.int x1), (.int x2)] 3 = mkF m 0 #[rv x0, iv x1, iv x2] [] := by first | (simp [entryFrame, mkF, argsToLocals, Value.category]; done) | rfl
def own_Qien2 (Z : State) (a1 : Addr) (p3 : Int32) (h0 : Heap) (n0 : Nat) : Option Value → Heap → List Loc → Prop := fun v h L => v = some (.int 0) ∧ Fr n0 L ∧ h = h0
def own_Rien2 : Room := { frames := 0, cells := 0, slots := 0, locals := 0 }
set_option maxRecDepth 65536 in
set_option maxHeartbeats 40000000 in
theorem own_rmien2 (l : Launch) (Z : State) (a0 : Array Value) (hw : ∀ d ∈ tables_1, d.before a0 Z = true) (ws : List Jvm.Cond) (a1 : Addr) (p3 : Int32) (h0 : Heap) (n0 : Nat) (Z0 : n0 ≤ h0.size) (hn : ¬ (4 : Int32) < p3) :
    own_Met l Z own_y19 prog_59_method_23_code 3 (some .boolean) ws own_Rien2 h0 #[(.ref a1), (.int 2), (.int p3)] (own_Qien2 Z a1 p3 h0 n0) own_Rien2.cells own_Rien2.slots := by
  refine own_start (plainFor_of_name own_pn4) ?_
  intro p e s m below meth c s₁ X0 hx hZ hby hml hret hlk hown hnm e0
  have hown : s.vm.findClass "com/example/gazetteer/gazetteer/model/Locations" = some m.cls := hown
  have hml : c.maxLocals = 3 := hml
  have N0 := Fr.nil n0
  refine own_cast (own_efien2 m a1 (2 : Int32) p3) ?_
  refine own_s s₁ (mkF m 28 #[rv a1, iv 2, iv p3] [(.int 0)]) (fun _ k => XS.iloadN X0.here hx rfl (hb hby od_prog_59_m_23_0) rfl  (XS.iconst X0.here hx rfl (hb hby od_prog_59_m_23_1) (XS.iadd X0.here hx rfl (hb hby od_prog_59_m_23_2) rfl (XS.iloadN X0.here hx rfl (hb hby od_prog_59_m_23_3) rfl  (XS.icmpYes X0.here hx rfl (pc0 := 4) (pc' := 27) rfl (hb hby od_prog_59_m_23_4) rfl (flt hn).2.1 (by decide) (by decide) (XS.iconst X0.here hx rfl (hb hby od_prog_59_m_23_27) k)))))) ?_
  exact own_finZ X0 hx (t := .boolean) hret (by simp) (z' := (0 : Int32)) rfl (hb hby od_prog_59_m_23_28) (own_end (Qv := (own_Qien2 Z a1 p3 h0 n0)) X0 (own_some hret) hlk (by decide) (by decide) e0 ⟨rfl, N0, rfl⟩)
theorem own_efien3 (m : MethodId) (x0 : Addr) (x1 : Int32) (x2 : Int32) : entryFrame m #[(.ref x0), (.int x1), (.int x2)] 3 = mkF m 0 #[rv x0, iv x1, iv x2] [] := by first | (simp [entryFrame, mkF, argsToLocals, Value.category]; done) | rfl
def own_Qien3 (Z : State) (a1 : Addr) (p3 : Int32) (h0 : Heap) (n0 : Nat) : Option Value → Heap → List Loc → Prop := fun v h L => v = some (.int 0) ∧ Fr n0 L ∧ h = h0
def own_Rien3 : Room := { frames := 0, cells := 0, slots := 0, locals := 0 }
set_option maxRecDepth 65536 in
set_option maxHeartbeats 40000000 in
theorem own_rmien3 (l : Launch) (Z : State) (a0 : Array Value) (hw : ∀ d ∈ tables_1, d.before a0 Z = true) (ws : List Jvm.Cond) (a1 : Addr) (p3 : Int32) (h0 : Heap) (n0 : Nat) (Z0 : n0 ≤ h0.size) (hn : ¬ (5 : Int32) < p3) :
    own_Met l Z own_y19 prog_59_method_23_code 3 (some .boolean) ws own_Rien3 h0 #[(.ref a1), (.int 3), (.int p3)] (own_Qien3 Z a1 p3 h0 n0) own_Rien3.cells own_Rien3.slots := by
  refine own_start (plainFor_of_name own_pn4) ?_
  intro p e s m below meth c s₁ X0 hx hZ hby hml hret hlk hown hnm e0
  have hown : s.vm.findClass "com/example/gazetteer/gazetteer/model/Locations" = some m.cls := hown
  have hml : c.maxLocals = 3 := hml
  have N0 := Fr.nil n0
  refine own_cast (own_efien3 m a1 (3 : Int32) p3) ?_
  refine own_s s₁ (mkF m 28 #[rv a1, iv 3, iv p3] [(.int 0)]) (fun _ k => XS.iloadN X0.here hx rfl (hb hby od_prog_59_m_23_0) rfl  (XS.iconst X0.here hx rfl (hb hby od_prog_59_m_23_1) (XS.iadd X0.here hx rfl (hb hby od_prog_59_m_23_2) rfl (XS.iloadN X0.here hx rfl (hb hby od_prog_59_m_23_3) rfl  (XS.icmpYes X0.here hx rfl (pc0 := 4) (pc' := 27) rfl (hb hby od_prog_59_m_23_4) rfl (flt hn).2.1 (by decide) (by decide) (XS.iconst X0.here hx rfl (hb hby od_prog_59_m_23_27) k)))))) ?_
  exact own_finZ X0 hx (t := .boolean) hret (by simp) (z' := (0 : Int32)) rfl (hb hby od_prog_59_m_23_28) (own_end (Qv := (own_Qien3 Z a1 p3 h0 n0)) X0 (own_some hret) hlk (by decide) (by decide) e0 ⟨rfl, N0, rfl⟩)
abbrev own_y20 : MethodName := ⟨"com/example/gazetteer/gazetteer/model/LocationsIsEscapePinLaw", "isHex", "(C)Z"⟩
theorem own_pn5 : plainName "com/example/gazetteer/gazetteer/model/LocationsIsEscapePinLaw" = true := by first | (simp [plainName, overriddenIn]; done) | decide +kernel
theorem od_m_3_0 : decode method_3_code 0 = .ok (.iload_n 0, 1) := by decide +kernel
theorem od_m_3_1 : decode method_3_code 1 = .ok (.bipush 48, 2) := by decide +kernel
theorem od_m_3_3 : decode method_3_code 3 = .ok (.if_icmp .lt 11, 3) := by decide +kernel
theorem od_m_3_6 : decode method_3_code 6 = .ok (.iload_n 0, 1) := by decide +kernel
theorem od_m_3_7 : decode method_3_code 7 = .ok (.bipush 57, 2) := by decide +kernel
theorem od_m_3_9 : decode method_3_code 9 = .ok (.if_icmp .gt 5, 3) := by decide +kernel
theorem od_m_3_12 : decode method_3_code 12 = .ok (.iconst 1, 1) := by decide +kernel
theorem od_m_3_13 : decode method_3_code 13 = .ok (.ireturn, 1) := by decide +kernel
theorem od_m_3_14 : decode method_3_code 14 = .ok (.iload_n 0, 1) := by decide +kernel
theorem od_m_3_15 : decode method_3_code 15 = .ok (.bipush 65, 2) := by decide +kernel
theorem od_m_3_17 : decode method_3_code 17 = .ok (.if_icmp .lt 11, 3) := by decide +kernel
theorem od_m_3_20 : decode method_3_code 20 = .ok (.iload_n 0, 1) := by decide +kernel
theorem od_m_3_21 : decode method_3_code 21 = .ok (.bipush 70, 2) := by decide +kernel
theorem od_m_3_23 : decode method_3_code 23 = .ok (.if_icmp .gt 5, 3) := by decide +kernel
theorem od_m_3_26 : decode method_3_code 26 = .ok (.iconst 1, 1) := by decide +kernel
theorem od_m_3_27 : decode method_3_code 27 = .ok (.ireturn, 1) := by decide +kernel
theorem od_m_3_28 : decode method_3_code 28 = .ok (.iload_n 0, 1) := by decide +kernel
theorem od_m_3_29 : decode method_3_code 29 = .ok (.bipush 97, 2) := by decide +kernel
theorem od_m_3_31 : decode method_3_code 31 = .ok (.if_icmp .lt 13, 3) := by decide +kernel
theorem od_m_3_34 : decode method_3_code 34 = .ok (.iload_n 0, 1) := by decide +kernel
theorem od_m_3_35 : decode method_3_code 35 = .ok (.bipush 102, 2) := by decide +kernel
theorem od_m_3_37 : decode method_3_code 37 = .ok (.if_icmp .gt 7, 3) := by decide +kernel
theorem od_m_3_40 : decode method_3_code 40 = .ok (.iconst 1, 1) := by decide +kernel
theorem od_m_3_41 : decode method_3_code 41 = .ok (.goto 4, 3) := by decide +kernel
theorem od_m_3_44 : decode method_3_code 44 = .ok (.iconst 0, 1) := by decide +kernel
theorem od_m_3_45 : decode method_3_code 45 = .ok (.ireturn, 1) := by decide +kernel
theorem own_efih (m : MethodId) (x0 : Int32) : entryFrame m #[(.int x0)] 1 = mkF m 0 #[iv x0] [] := by first | (simp [entryFrame, mkF, argsToLocals, Value.category]; done) | rfl
def own_Qih (Z : State) (p1 : Int32) (h0 : Heap) (n0 : Nat) : Option Value → Heap → List Loc → Prop := fun v h L => v = some (.int (own_b (own_isx p1))) ∧ Fr n0 L ∧ h = h0
def own_Rih : Room := { frames := 0, cells := 0, slots := 0, locals := 0 }
set_option maxRecDepth 65536 in
set_option maxHeartbeats 40000000 in
theorem own_rmih (l : Launch) (Z : State) (a0 : Array Value) (hw : ∀ d ∈ tables_1, d.before a0 Z = true) (ws : List Jvm.Cond) (p1 : Int32) (h0 : Heap) (n0 : Nat) (Z0 : n0 ≤ h0.size) :
    own_Met l Z own_y20 method_3_code 1 (some .boolean) ws own_Rih h0 #[(.int p1)] (own_Qih Z p1 h0 n0) own_Rih.cells own_Rih.slots := by
  refine own_start (plainFor_of_name own_pn5) ?_
  intro p e s m below meth c s₁ X0 hx hZ hby hml hret hlk hown hnm e0
  have hown : s.vm.findClass "com/example/gazetteer/gazetteer/model/LocationsIsEscapePinLaw" = some m.cls := hown
  have hml : c.maxLocals = 1 := hml
  have N0 := Fr.nil n0
  refine own_cast (own_efih m p1) ?_
  refine own_s s₁ (mkF m 3 #[iv p1] [(.int 48), (.int p1)]) (fun _ k => XS.iloadN X0.here hx rfl (hb hby od_m_3_0) rfl  (XS.bipush X0.here hx rfl (hb hby od_m_3_1) k)) ?_
  by_cases c3 : p1 < (48 : Int32)
  · refine own_s s₁ (mkF m 17 #[iv p1] [(.int 65), (.int p1)]) (fun _ k => XS.icmpYes X0.here hx rfl (pc0 := 3) (pc' := 14) rfl (hb hby od_m_3_3) rfl (tlt c3).1 (by decide) (by decide) (XS.iloadN X0.here hx rfl (hb hby od_m_3_14) rfl  (XS.bipush X0.here hx rfl (hb hby od_m_3_15) k))) ?_
    by_cases c17 : p1 < (65 : Int32)
    · refine own_s s₁ (mkF m 31 #[iv p1] [(.int 97), (.int p1)]) (fun _ k => XS.icmpYes X0.here hx rfl (pc0 := 17) (pc' := 28) rfl (hb hby od_m_3_17) rfl (tlt c17).1 (by decide) (by decide) (XS.iloadN X0.here hx rfl (hb hby od_m_3_28) rfl  (XS.bipush X0.here hx rfl (hb hby od_m_3_29) k))) ?_
      by_cases c31 : p1 < (97 : Int32)
      · refine own_s s₁ (mkF m 45 #[iv p1] [(.int 0)]) (fun _ k => XS.icmpYes X0.here hx rfl (pc0 := 31) (pc' := 44) rfl (hb hby od_m_3_31) rfl (tlt c31).1 (by decide) (by decide) (XS.iconst X0.here hx rfl (hb hby od_m_3_44) k)) ?_
        exact own_finZ X0 hx (t := .boolean) hret (by simp) (z' := (0 : Int32)) rfl (hb hby od_m_3_45) (own_end (Qv := (own_Qih Z p1 h0 n0)) X0 (own_some hret) hlk (by decide) (by decide) e0 ⟨(by simp [own_b, own_isx, c3, c17, c31]), N0, rfl⟩)
      · refine own_s s₁ (mkF m 37 #[iv p1] [(.int 102), (.int p1)]) (fun _ k => XS.icmpNo X0.here hx rfl (hb hby od_m_3_31) rfl (flt c31).1 (XS.iloadN X0.here hx rfl (hb hby od_m_3_34) rfl  (XS.bipush X0.here hx rfl (hb hby od_m_3_35) k))) ?_
        by_cases c37 : (102 : Int32) < p1
        · refine own_s s₁ (mkF m 45 #[iv p1] [(.int 0)]) (fun _ k => XS.icmpYes X0.here hx rfl (pc0 := 37) (pc' := 44) rfl (hb hby od_m_3_37) rfl (tlt c37).2.2.1 (by decide) (by decide) (XS.iconst X0.here hx rfl (hb hby od_m_3_44) k)) ?_
          exact own_finZ X0 hx (t := .boolean) hret (by simp) (z' := (0 : Int32)) rfl (hb hby od_m_3_45) (own_end (Qv := (own_Qih Z p1 h0 n0)) X0 (own_some hret) hlk (by decide) (by decide) e0 ⟨(by simp [own_b, own_isx, c3, c17, c31, c37]), N0, rfl⟩)
        · refine own_s s₁ (mkF m 45 #[iv p1] [(.int 1)]) (fun _ k => XS.icmpNo X0.here hx rfl (hb hby od_m_3_37) rfl (flt c37).2.2.1 (XS.iconst X0.here hx rfl (hb hby od_m_3_40) (XS.goto X0.here hx rfl (pc0 := 41) (pc' := 45) rfl (hb hby od_m_3_41) (by decide) (by decide) k))) ?_
          exact own_finZ X0 hx (t := .boolean) hret (by simp) (z' := (1 : Int32)) rfl (hb hby od_m_3_45) (own_end (Qv := (own_Qih Z p1 h0 n0)) X0 (own_some hret) hlk (by decide) (by decide) e0 ⟨(by simp [own_b, own_isx, c3, c17, c31, c37]), N0, rfl⟩)
    · refine own_s s₁ (mkF m 23 #[iv p1] [(.int 70), (.int p1)]) (fun _ k => XS.icmpNo X0.here hx rfl (hb hby od_m_3_17) rfl (flt c17).1 (XS.iloadN X0.here hx rfl (hb hby od_m_3_20) rfl  (XS.bipush X0.here hx rfl (hb hby od_m_3_21) k))) ?_
      by_cases c23 : (70 : Int32) < p1
      · refine own_s s₁ (mkF m 31 #[iv p1] [(.int 97), (.int p1)]) (fun _ k => XS.icmpYes X0.here hx rfl (pc0 := 23) (pc' := 28) rfl (hb hby od_m_3_23) rfl (tlt c23).2.2.1 (by decide) (by decide) (XS.iloadN X0.here hx rfl (hb hby od_m_3_28) rfl  (XS.bipush X0.here hx rfl (hb hby od_m_3_29) k))) ?_
        by_cases c31 : p1 < (97 : Int32)
        · refine own_s s₁ (mkF m 45 #[iv p1] [(.int 0)]) (fun _ k => XS.icmpYes X0.here hx rfl (pc0 := 31) (pc' := 44) rfl (hb hby od_m_3_31) rfl (tlt c31).1 (by decide) (by decide) (XS.iconst X0.here hx rfl (hb hby od_m_3_44) k)) ?_
          exact own_finZ X0 hx (t := .boolean) hret (by simp) (z' := (0 : Int32)) rfl (hb hby od_m_3_45) (own_end (Qv := (own_Qih Z p1 h0 n0)) X0 (own_some hret) hlk (by decide) (by decide) e0 ⟨(by simp [own_b, own_isx, c3, c17, c23, c31]), N0, rfl⟩)
        · refine own_s s₁ (mkF m 37 #[iv p1] [(.int 102), (.int p1)]) (fun _ k => XS.icmpNo X0.here hx rfl (hb hby od_m_3_31) rfl (flt c31).1 (XS.iloadN X0.here hx rfl (hb hby od_m_3_34) rfl  (XS.bipush X0.here hx rfl (hb hby od_m_3_35) k))) ?_
          by_cases c37 : (102 : Int32) < p1
          · refine own_s s₁ (mkF m 45 #[iv p1] [(.int 0)]) (fun _ k => XS.icmpYes X0.here hx rfl (pc0 := 37) (pc' := 44) rfl (hb hby od_m_3_37) rfl (tlt c37).2.2.1 (by decide) (by decide) (XS.iconst X0.here hx rfl (hb hby od_m_3_44) k)) ?_
            exact own_finZ X0 hx (t := .boolean) hret (by simp) (z' := (0 : Int32)) rfl (hb hby od_m_3_45) (own_end (Qv := (own_Qih Z p1 h0 n0)) X0 (own_some hret) hlk (by decide) (by decide) e0 ⟨(by simp [own_b, own_isx, c3, c17, c23, c31, c37]), N0, rfl⟩)
          · refine own_s s₁ (mkF m 45 #[iv p1] [(.int 1)]) (fun _ k => XS.icmpNo X0.here hx rfl (hb hby od_m_3_37) rfl (flt c37).2.2.1 (XS.iconst X0.here hx rfl (hb hby od_m_3_40) (XS.goto X0.here hx rfl (pc0 := 41) (pc' := 45) rfl (hb hby od_m_3_41) (by decide) (by decide) k))) ?_
            exact own_finZ X0 hx (t := .boolean) hret (by simp) (z' := (1 : Int32)) rfl (hb hby od_m_3_45) (own_end (Qv := (own_Qih Z p1 h0 n0)) X0 (own_some hret) hlk (by decide) (by decide) e0 ⟨(by simp [own_b, own_isx, c3, c17, c23, c31, c37]), N0, rfl⟩)
      · refine own_s s₁ (mkF m 27 #[iv p1] [(.int 1)]) (fun _ k => XS.icmpNo X0.here hx rfl (hb hby od_m_3_23) rfl (flt c23).2.2.1 (XS.iconst X0.here hx rfl (hb hby od_m_3_26) k)) ?_
        exact own_finZ X0 hx (t := .boolean) hret (by simp) (z' := (1 : Int32)) rfl (hb hby od_m_3_27) (own_end (Qv := (own_Qih Z p1 h0 n0)) X0 (own_some hret) hlk (by decide) (by decide) e0 ⟨(by simp [own_b, own_isx, c3, c17, c23]), N0, rfl⟩)
  · refine own_s s₁ (mkF m 9 #[iv p1] [(.int 57), (.int p1)]) (fun _ k => XS.icmpNo X0.here hx rfl (hb hby od_m_3_3) rfl (flt c3).1 (XS.iloadN X0.here hx rfl (hb hby od_m_3_6) rfl  (XS.bipush X0.here hx rfl (hb hby od_m_3_7) k))) ?_
    by_cases c9 : (57 : Int32) < p1
    · refine own_s s₁ (mkF m 17 #[iv p1] [(.int 65), (.int p1)]) (fun _ k => XS.icmpYes X0.here hx rfl (pc0 := 9) (pc' := 14) rfl (hb hby od_m_3_9) rfl (tlt c9).2.2.1 (by decide) (by decide) (XS.iloadN X0.here hx rfl (hb hby od_m_3_14) rfl  (XS.bipush X0.here hx rfl (hb hby od_m_3_15) k))) ?_
      by_cases c17 : p1 < (65 : Int32)
      · refine own_s s₁ (mkF m 31 #[iv p1] [(.int 97), (.int p1)]) (fun _ k => XS.icmpYes X0.here hx rfl (pc0 := 17) (pc' := 28) rfl (hb hby od_m_3_17) rfl (tlt c17).1 (by decide) (by decide) (XS.iloadN X0.here hx rfl (hb hby od_m_3_28) rfl  (XS.bipush X0.here hx rfl (hb hby od_m_3_29) k))) ?_
        by_cases c31 : p1 < (97 : Int32)
        · refine own_s s₁ (mkF m 45 #[iv p1] [(.int 0)]) (fun _ k => XS.icmpYes X0.here hx rfl (pc0 := 31) (pc' := 44) rfl (hb hby od_m_3_31) rfl (tlt c31).1 (by decide) (by decide) (XS.iconst X0.here hx rfl (hb hby od_m_3_44) k)) ?_
          exact own_finZ X0 hx (t := .boolean) hret (by simp) (z' := (0 : Int32)) rfl (hb hby od_m_3_45) (own_end (Qv := (own_Qih Z p1 h0 n0)) X0 (own_some hret) hlk (by decide) (by decide) e0 ⟨(by simp [own_b, own_isx, c3, c9, c17, c31]), N0, rfl⟩)
        · refine own_s s₁ (mkF m 37 #[iv p1] [(.int 102), (.int p1)]) (fun _ k => XS.icmpNo X0.here hx rfl (hb hby od_m_3_31) rfl (flt c31).1 (XS.iloadN X0.here hx rfl (hb hby od_m_3_34) rfl  (XS.bipush X0.here hx rfl (hb hby od_m_3_35) k))) ?_
          by_cases c37 : (102 : Int32) < p1
          · refine own_s s₁ (mkF m 45 #[iv p1] [(.int 0)]) (fun _ k => XS.icmpYes X0.here hx rfl (pc0 := 37) (pc' := 44) rfl (hb hby od_m_3_37) rfl (tlt c37).2.2.1 (by decide) (by decide) (XS.iconst X0.here hx rfl (hb hby od_m_3_44) k)) ?_
            exact own_finZ X0 hx (t := .boolean) hret (by simp) (z' := (0 : Int32)) rfl (hb hby od_m_3_45) (own_end (Qv := (own_Qih Z p1 h0 n0)) X0 (own_some hret) hlk (by decide) (by decide) e0 ⟨(by simp [own_b, own_isx, c3, c9, c17, c31, c37]), N0, rfl⟩)
          · refine own_s s₁ (mkF m 45 #[iv p1] [(.int 1)]) (fun _ k => XS.icmpNo X0.here hx rfl (hb hby od_m_3_37) rfl (flt c37).2.2.1 (XS.iconst X0.here hx rfl (hb hby od_m_3_40) (XS.goto X0.here hx rfl (pc0 := 41) (pc' := 45) rfl (hb hby od_m_3_41) (by decide) (by decide) k))) ?_
            exact own_finZ X0 hx (t := .boolean) hret (by simp) (z' := (1 : Int32)) rfl (hb hby od_m_3_45) (own_end (Qv := (own_Qih Z p1 h0 n0)) X0 (own_some hret) hlk (by decide) (by decide) e0 ⟨(by simp [own_b, own_isx, c3, c9, c17, c31, c37]), N0, rfl⟩)
      · refine own_s s₁ (mkF m 23 #[iv p1] [(.int 70), (.int p1)]) (fun _ k => XS.icmpNo X0.here hx rfl (hb hby od_m_3_17) rfl (flt c17).1 (XS.iloadN X0.here hx rfl (hb hby od_m_3_20) rfl  (XS.bipush X0.here hx rfl (hb hby od_m_3_21) k))) ?_
        by_cases c23 : (70 : Int32) < p1
        · refine own_s s₁ (mkF m 31 #[iv p1] [(.int 97), (.int p1)]) (fun _ k => XS.icmpYes X0.here hx rfl (pc0 := 23) (pc' := 28) rfl (hb hby od_m_3_23) rfl (tlt c23).2.2.1 (by decide) (by decide) (XS.iloadN X0.here hx rfl (hb hby od_m_3_28) rfl  (XS.bipush X0.here hx rfl (hb hby od_m_3_29) k))) ?_
          by_cases c31 : p1 < (97 : Int32)
          · refine own_s s₁ (mkF m 45 #[iv p1] [(.int 0)]) (fun _ k => XS.icmpYes X0.here hx rfl (pc0 := 31) (pc' := 44) rfl (hb hby od_m_3_31) rfl (tlt c31).1 (by decide) (by decide) (XS.iconst X0.here hx rfl (hb hby od_m_3_44) k)) ?_
            exact own_finZ X0 hx (t := .boolean) hret (by simp) (z' := (0 : Int32)) rfl (hb hby od_m_3_45) (own_end (Qv := (own_Qih Z p1 h0 n0)) X0 (own_some hret) hlk (by decide) (by decide) e0 ⟨(by simp [own_b, own_isx, c3, c9, c17, c23, c31]), N0, rfl⟩)
          · refine own_s s₁ (mkF m 37 #[iv p1] [(.int 102), (.int p1)]) (fun _ k => XS.icmpNo X0.here hx rfl (hb hby od_m_3_31) rfl (flt c31).1 (XS.iloadN X0.here hx rfl (hb hby od_m_3_34) rfl  (XS.bipush X0.here hx rfl (hb hby od_m_3_35) k))) ?_
            by_cases c37 : (102 : Int32) < p1
            · refine own_s s₁ (mkF m 45 #[iv p1] [(.int 0)]) (fun _ k => XS.icmpYes X0.here hx rfl (pc0 := 37) (pc' := 44) rfl (hb hby od_m_3_37) rfl (tlt c37).2.2.1 (by decide) (by decide) (XS.iconst X0.here hx rfl (hb hby od_m_3_44) k)) ?_
              exact own_finZ X0 hx (t := .boolean) hret (by simp) (z' := (0 : Int32)) rfl (hb hby od_m_3_45) (own_end (Qv := (own_Qih Z p1 h0 n0)) X0 (own_some hret) hlk (by decide) (by decide) e0 ⟨(by simp [own_b, own_isx, c3, c9, c17, c23, c31, c37]), N0, rfl⟩)
            · refine own_s s₁ (mkF m 45 #[iv p1] [(.int 1)]) (fun _ k => XS.icmpNo X0.here hx rfl (hb hby od_m_3_37) rfl (flt c37).2.2.1 (XS.iconst X0.here hx rfl (hb hby od_m_3_40) (XS.goto X0.here hx rfl (pc0 := 41) (pc' := 45) rfl (hb hby od_m_3_41) (by decide) (by decide) k))) ?_
              exact own_finZ X0 hx (t := .boolean) hret (by simp) (z' := (1 : Int32)) rfl (hb hby od_m_3_45) (own_end (Qv := (own_Qih Z p1 h0 n0)) X0 (own_some hret) hlk (by decide) (by decide) e0 ⟨(by simp [own_b, own_isx, c3, c9, c17, c23, c31, c37]), N0, rfl⟩)
        · refine own_s s₁ (mkF m 27 #[iv p1] [(.int 1)]) (fun _ k => XS.icmpNo X0.here hx rfl (hb hby od_m_3_23) rfl (flt c23).2.2.1 (XS.iconst X0.here hx rfl (hb hby od_m_3_26) k)) ?_
          exact own_finZ X0 hx (t := .boolean) hret (by simp) (z' := (1 : Int32)) rfl (hb hby od_m_3_27) (own_end (Qv := (own_Qih Z p1 h0 n0)) X0 (own_some hret) hlk (by decide) (by decide) e0 ⟨(by simp [own_b, own_isx, c3, c9, c17, c23]), N0, rfl⟩)
    · refine own_s s₁ (mkF m 13 #[iv p1] [(.int 1)]) (fun _ k => XS.icmpNo X0.here hx rfl (hb hby od_m_3_9) rfl (flt c9).2.2.1 (XS.iconst X0.here hx rfl (hb hby od_m_3_12) k)) ?_
      exact own_finZ X0 hx (t := .boolean) hret (by simp) (z' := (1 : Int32)) rfl (hb hby od_m_3_13) (own_end (Qv := (own_Qih Z p1 h0 n0)) X0 (own_some hret) hlk (by decide) (by decide) e0 ⟨(by simp [own_b, own_isx, c3, c9]), N0, rfl⟩)
theorem own_pd15 : parseMethodDescriptor "([C)V" = some ⟨[(.array .char)], none⟩ := by decide +kernel
theorem own_pd16 : parseMethodDescriptor "(C)Z" = some ⟨[.char], some .boolean⟩ := by decide +kernel
theorem own_pd17 : parseMethodDescriptor "(Ljava/lang/String;II)Z" = some ⟨[(.object "java/lang/String"), .int, .int], some .boolean⟩ := by decide +kernel
theorem own_ef0 (m : MethodId) (x0 : Int32) (x1 : Int32) (x2 : Int32) (x3 : Int32) : entryFrame m #[(.int x0), (.int x1), (.int x2), (.int x3)] maxLocals = mkF m 0 #[iv x0, iv x1, iv x2, iv x3, u_, u_, u_, u_, u_] [] := by first | (simp [entryFrame, mkF, argsToLocals, Value.category, maxLocals]; done) | rfl
def own_Q0 (Z : State) (p1 : Int32) (p2 : Int32) (p3 : Int32) (p4 : Int32) (gC : Int32) (wS : Value) (tb : Addr) (kt : ClassId) (h0 : Heap) (n0 : Nat) : Option Value → Heap → List Loc → Prop := fun v h L => v = some (.int 1) ∧ Fr n0 L
set_option maxRecDepth 65536 in
set_option maxHeartbeats 40000000 in
theorem own_rm0 (l : Launch) (Z : State) (a0 : Array Value) (hw : ∀ d ∈ tables_1, d.before a0 Z = true) (ws : List Jvm.Cond) (p1 : Int32) (p2 : Int32) (p3 : Int32) (p4 : Int32) (gC : Int32) (wS : Value) (tb : Addr) (kt : ClassId) (h0 : Heap) (n0 : Nat) (Z0 : n0 ≤ h0.size) (pr0 : Sta Z h0 "java/lang/String" "COMPACT_STRINGS" "Z" (.int gC)) (pr1 : Sta Z h0 "jdk/internal/util/Preconditions" "SIOOBE_FORMATTER" "Ljava/util/function/BiFunction;" wS) (pr2 : Sta Z h0 "java/lang/StringUTF16" "$assertionsDisabled" "Z" (.int 1)) (pr3 : Sta Z h0 "java/lang/StringUTF16" "HI_BYTE_SHIFT" "I" (.int 0)) (pr4 : Sta Z h0 "java/lang/StringUTF16" "LO_BYTE_SHIFT" "I" (.int 8)) (pr5 : Sta Z h0 "com/example/gazetteer/gazetteer/model/Locations" "HEX_DIGIT" "[Z" (.ref tb)) (pr6 : Arv Z h0 tb kt .boolean (128 : Int32) (own_tab) (.int 0)) (hG : ¬ gC = (0 : Int32)) (rwS : wS.isRef = true) :
    own_Met l Z x code maxLocals ret ws room_1 h0 #[(.int p1), (.int p2), (.int p3), (.int p4)] (own_Q0 Z p1 p2 p3 p4 gC wS tb kt h0 n0) 16 128 := by
  refine own_start (plainFor_of_name own_pn5) ?_
  intro p e s m below meth c s₁ X0 hx hZ hby hml hret hlk hown hnm e0
  have hown : s.vm.findClass "com/example/gazetteer/gazetteer/model/LocationsIsEscapePinLaw" = some m.cls := hown
  have hml : c.maxLocals = 9 := hml
  have N0 := Fr.nil n0
  refine own_cast (own_ef0 m p1 p2 p3 p4) ?_
  refine own_s s₁ (mkF m 1 #[iv p1, iv p2, iv p3, iv p4, u_, u_, u_, u_, u_] [(.int 4)]) (fun _ k => XS.iconst X0.here hx rfl (hb hby at_0) k) ?_
  obtain ⟨T1, h1, k1, X1, e1, E1, A1, st1⟩ := newP X0 hx hZ (own_h hw 0 rfl) e0 (g := (mkF m 1 #[iv p1, iv p2, iv p3, iv p4, u_, u_, u_, u_, u_] [(.int 4)])) rfl (hb hby at_1) rfl (by decide) (cap := 4) (by decide) (by decide) (by decide) (by decide)
  obtain ⟨b1, g1⟩ : ∃ z, z = h0.size := ⟨_, rfl⟩
  have g_b1 : n0 ≤ b1 := Nat.le_trans Z0 (Nat.le_of_eq g1.symm)
  rw [← g1] at A1 st1
  have f2 := Sta.ext E1 pr0
  have f3 := Sta.ext E1 pr1
  have f4 := Sta.ext E1 pr2
  have f5 := Sta.ext E1 pr3
  have f6 := Sta.ext E1 pr4
  have f7 := Sta.ext E1 pr5
  have f8 := pr6.ext E1
  have Z1 := Nat.le_trans Z0 E1.1
  have f1 : Arv Z h1 b1 k1 .char 4 [(.int 0), (.int 0), (.int 0), (.int 0)] (.int 0) := (Arv.new A1 (by decide)).pad (pad_rep [] (.int 0) 4)
  refine own_s T1 (mkF m 3 #[iv p1, iv p2, iv p3, iv p4, u_, u_, u_, u_, u_] [(.ref b1)]) st1 ?_
  refine own_s T1 (mkF m 9 #[iv p1, iv p2, iv p3, iv p4, rv b1, u_, u_, u_, u_] [(.int p1), (.int 0), (.ref b1)]) (fun _ k => XS.astore X1.here hx rfl (hb hby at_3) rfl rfl (l' := #[iv p1, iv p2, iv p3, iv p4, rv b1, u_, u_, u_, u_]) rfl (XS.aload X1.here hx rfl (hb hby at_5) rfl rfl (XS.iconst X1.here hx rfl (hb hby at_7) (XS.iloadN X1.here hx rfl (hb hby at_8) rfl  k)))) ?_
  refine own_s T1 (mkF m 11 #[iv p1, iv p2, iv p3, iv p4, rv b1, u_, u_, u_, u_] [(.int 65535), (.int p1), (.int 0), (.ref b1)]) (X1.ldcInt hx hown (mvT hZ (own_h hw 1 rfl)) (g := (mkF m 9 #[iv p1, iv p2, iv p3, iv p4, rv b1, u_, u_, u_, u_] [(.int p1), (.int 0), (.ref b1)])) rfl (hb hby at_9)) ?_
  refine own_s T1 (mkF m 13 #[iv p1, iv p2, iv p3, iv p4, rv b1, u_, u_, u_, u_] [(.int ((p1 &&& (65535 : Int32)).toUInt32.toUInt16.toUInt32.toInt32)), (.int 0), (.ref b1)]) (fun _ k => XS.iand X1.here hx rfl (hb hby at_11) rfl (XS.i2c X1.here hx rfl (hb hby at_12) rfl k)) ?_
  obtain ⟨cl9, Ar9, q9, S9, Nn9, H9, G9⟩ := id f1
  have hin9 : ¬ ((0 : Int32) < 0 ∨ cl9.slots.size ≤ ((0 : Int32)).toNatClampNeg) := (inb_of S9 ⟨by decide, by decide⟩)
  obtain ⟨T9, h9, X9, e9, W9, st9⟩ := stC X1 hx hZ e1 Ar9 (j := (0 : Int32)) hin9 (g := (mkF m 13 #[iv p1, iv p2, iv p3, iv p4, rv b1, u_, u_, u_, u_] [(.int ((p1 &&& (65535 : Int32)).toUInt32.toUInt16.toUInt32.toInt32)), (.int 0), (.ref b1)])) rfl rfl (hb hby at_13)
  have f9 : Arv Z h9 b1 k1 .char (4 : Int32) [(.int (nar .char ((p1 &&& (65535 : Int32)).toUInt32.toUInt16.toUInt32.toInt32))), (.int 0), (.int 0), (.int 0)] (.int 0) := Arv.set Ar9 q9 S9 Nn9 H9 G9 (fits_nar_char _) W9 0 rfl (Nat.le_of_ble_eq_true rfl)
  have f10 := Sta.wr W9 f2
  have f11 := Sta.wr W9 f3
  have f12 := Sta.wr W9 f4
  have f13 := Sta.wr W9 f5
  have f14 := Sta.wr W9 f6
  have f15 := Sta.wr W9 f7
  have f16 := f8.other W9 (own_nf pr6.lt g1)
  have Z9 := Nat.le_trans Z1 (Nat.le_of_eq W9.size.symm)
  have N9 := Fr.snoc X9 N0 g_b1
  refine own_s T9 (mkF m 14 #[iv p1, iv p2, iv p3, iv p4, rv b1, u_, u_, u_, u_] []) st9 ?_
  refine own_s T9 (mkF m 22 #[iv p1, iv p2, iv p3, iv p4, rv b1, u_, u_, u_, u_] [(.int (((p1.toUInt32 >>> ((16 : Int32) &&& 31).toUInt32).toInt32).toUInt32.toUInt16.toUInt32.toInt32)), (.int 1), (.ref b1)]) (fun _ k => XS.aload X9.here hx rfl (hb hby at_14) rfl rfl (XS.iconst X9.here hx rfl (hb hby at_16) (XS.iloadN X9.here hx rfl (hb hby at_17) rfl  (XS.bipush X9.here hx rfl (hb hby at_18) (XS.iushr X9.here hx rfl (hb hby at_20) rfl (XS.i2c X9.here hx rfl (hb hby at_21) rfl k)))))) ?_
  obtain ⟨cl17, Ar17, q17, S17, Nn17, H17, G17⟩ := id f9
  have hin17 : ¬ ((1 : Int32) < 0 ∨ cl17.slots.size ≤ ((1 : Int32)).toNatClampNeg) := (inb_of S17 ⟨by decide, by decide⟩)
  obtain ⟨T17, h17, X17, e17, W17, st17⟩ := stC X9 hx hZ e9 Ar17 (j := (1 : Int32)) hin17 (g := (mkF m 22 #[iv p1, iv p2, iv p3, iv p4, rv b1, u_, u_, u_, u_] [(.int (((p1.toUInt32 >>> ((16 : Int32) &&& 31).toUInt32).toInt32).toUInt32.toUInt16.toUInt32.toInt32)), (.int 1), (.ref b1)])) rfl rfl (hb hby at_22)
  have f17 : Arv Z h17 b1 k1 .char (4 : Int32) [(.int (nar .char ((p1 &&& (65535 : Int32)).toUInt32.toUInt16.toUInt32.toInt32))), (.int (nar .char (((p1.toUInt32 >>> ((16 : Int32) &&& 31).toUInt32).toInt32).toUInt32.toUInt16.toUInt32.toInt32))), (.int 0), (.int 0)] (.int 0) := Arv.set Ar17 q17 S17 Nn17 H17 G17 (fits_nar_char _) W17 1 rfl (Nat.le_of_ble_eq_true rfl)
  have f18 := Sta.wr W17 f10
  have f19 := Sta.wr W17 f11
  have f20 := Sta.wr W17 f12
  have f21 := Sta.wr W17 f13
  have f22 := Sta.wr W17 f14
  have f23 := Sta.wr W17 f15
  have f24 := f16.other W17 (own_nf pr6.lt g1)
  have Z17 := Nat.le_trans Z9 (Nat.le_of_eq W17.size.symm)
  have N17 := Fr.snoc X17 N9 g_b1
  refine own_s T17 (mkF m 23 #[iv p1, iv p2, iv p3, iv p4, rv b1, u_, u_, u_, u_] []) st17 ?_
  refine own_s T17 (mkF m 27 #[iv p1, iv p2, iv p3, iv p4, rv b1, u_, u_, u_, u_] [(.int p2), (.int 2), (.ref b1)]) (fun _ k => XS.aload X17.here hx rfl (hb hby at_23) rfl rfl (XS.iconst X17.here hx rfl (hb hby at_25) (XS.iloadN X17.here hx rfl (hb hby at_26) rfl  k))) ?_
  refine own_s T17 (mkF m 29 #[iv p1, iv p2, iv p3, iv p4, rv b1, u_, u_, u_, u_] [(.int 65535), (.int p2), (.int 2), (.ref b1)]) (X17.ldcInt hx hown (mvT hZ (own_h hw 1 rfl)) (g := (mkF m 27 #[iv p1, iv p2, iv p3, iv p4, rv b1, u_, u_, u_, u_] [(.int p2), (.int 2), (.ref b1)])) rfl (hb hby at_27)) ?_
  refine own_s T17 (mkF m 31 #[iv p1, iv p2, iv p3, iv p4, rv b1, u_, u_, u_, u_] [(.int ((p2 &&& (65535 : Int32)).toUInt32.toUInt16.toUInt32.toInt32)), (.int 2), (.ref b1)]) (fun _ k => XS.iand X17.here hx rfl (hb hby at_29) rfl (XS.i2c X17.here hx rfl (hb hby at_30) rfl k)) ?_
  obtain ⟨cl25, Ar25, q25, S25, Nn25, H25, G25⟩ := id f17
  have hin25 : ¬ ((2 : Int32) < 0 ∨ cl25.slots.size ≤ ((2 : Int32)).toNatClampNeg) := (inb_of S25 ⟨by decide, by decide⟩)
  obtain ⟨T25, h25, X25, e25, W25, st25⟩ := stC X17 hx hZ e17 Ar25 (j := (2 : Int32)) hin25 (g := (mkF m 31 #[iv p1, iv p2, iv p3, iv p4, rv b1, u_, u_, u_, u_] [(.int ((p2 &&& (65535 : Int32)).toUInt32.toUInt16.toUInt32.toInt32)), (.int 2), (.ref b1)])) rfl rfl (hb hby at_31)
  have f25 : Arv Z h25 b1 k1 .char (4 : Int32) [(.int (nar .char ((p1 &&& (65535 : Int32)).toUInt32.toUInt16.toUInt32.toInt32))), (.int (nar .char (((p1.toUInt32 >>> ((16 : Int32) &&& 31).toUInt32).toInt32).toUInt32.toUInt16.toUInt32.toInt32))), (.int (nar .char ((p2 &&& (65535 : Int32)).toUInt32.toUInt16.toUInt32.toInt32))), (.int 0)] (.int 0) := Arv.set Ar25 q25 S25 Nn25 H25 G25 (fits_nar_char _) W25 2 rfl (Nat.le_of_ble_eq_true rfl)
  have f26 := Sta.wr W25 f18
  have f27 := Sta.wr W25 f19
  have f28 := Sta.wr W25 f20
  have f29 := Sta.wr W25 f21
  have f30 := Sta.wr W25 f22
  have f31 := Sta.wr W25 f23
  have f32 := f24.other W25 (own_nf pr6.lt g1)
  have Z25 := Nat.le_trans Z17 (Nat.le_of_eq W25.size.symm)
  have N25 := Fr.snoc X25 N17 g_b1
  refine own_s T25 (mkF m 32 #[iv p1, iv p2, iv p3, iv p4, rv b1, u_, u_, u_, u_] []) st25 ?_
  refine own_s T25 (mkF m 40 #[iv p1, iv p2, iv p3, iv p4, rv b1, u_, u_, u_, u_] [(.int (((p2.toUInt32 >>> ((16 : Int32) &&& 31).toUInt32).toInt32).toUInt32.toUInt16.toUInt32.toInt32)), (.int 3), (.ref b1)]) (fun _ k => XS.aload X25.here hx rfl (hb hby at_32) rfl rfl (XS.iconst X25.here hx rfl (hb hby at_34) (XS.iloadN X25.here hx rfl (hb hby at_35) rfl  (XS.bipush X25.here hx rfl (hb hby at_36) (XS.iushr X25.here hx rfl (hb hby at_38) rfl (XS.i2c X25.here hx rfl (hb hby at_39) rfl k)))))) ?_
  obtain ⟨cl33, Ar33, q33, S33, Nn33, H33, G33⟩ := id f25
  have hin33 : ¬ ((3 : Int32) < 0 ∨ cl33.slots.size ≤ ((3 : Int32)).toNatClampNeg) := (inb_of S33 ⟨by decide, by decide⟩)
  obtain ⟨T33, h33, X33, e33, W33, st33⟩ := stC X25 hx hZ e25 Ar33 (j := (3 : Int32)) hin33 (g := (mkF m 40 #[iv p1, iv p2, iv p3, iv p4, rv b1, u_, u_, u_, u_] [(.int (((p2.toUInt32 >>> ((16 : Int32) &&& 31).toUInt32).toInt32).toUInt32.toUInt16.toUInt32.toInt32)), (.int 3), (.ref b1)])) rfl rfl (hb hby at_40)
  have f33 : Arv Z h33 b1 k1 .char (4 : Int32) [(.int (nar .char ((p1 &&& (65535 : Int32)).toUInt32.toUInt16.toUInt32.toInt32))), (.int (nar .char (((p1.toUInt32 >>> ((16 : Int32) &&& 31).toUInt32).toInt32).toUInt32.toUInt16.toUInt32.toInt32))), (.int (nar .char ((p2 &&& (65535 : Int32)).toUInt32.toUInt16.toUInt32.toInt32))), (.int (nar .char (((p2.toUInt32 >>> ((16 : Int32) &&& 31).toUInt32).toInt32).toUInt32.toUInt16.toUInt32.toInt32)))] (.int 0) := Arv.set Ar33 q33 S33 Nn33 H33 G33 (fits_nar_char _) W33 3 rfl (Nat.le_of_ble_eq_true rfl)
  have f34 := Sta.wr W33 f26
  have f35 := Sta.wr W33 f27
  have f36 := Sta.wr W33 f28
  have f37 := Sta.wr W33 f29
  have f38 := Sta.wr W33 f30
  have f39 := Sta.wr W33 f31
  have f40 := f32.other W33 (own_nf pr6.lt g1)
  have Z33 := Nat.le_trans Z25 (Nat.le_of_eq W33.size.symm)
  have N33 := Fr.snoc X33 N25 g_b1
  refine own_s T33 (mkF m 41 #[iv p1, iv p2, iv p3, iv p4, rv b1, u_, u_, u_, u_] []) st33 ?_
  refine own_s T33 (mkF m 46 #[iv p1, iv p2, iv p3, iv p4, rv b1, iv (p3 &&& (3 : Int32)), u_, u_, u_] []) (fun _ k => XS.iloadN X33.here hx rfl (hb hby at_41) rfl  (XS.iconst X33.here hx rfl (hb hby at_42) (XS.iand X33.here hx rfl (hb hby at_43) rfl (XS.istore X33.here hx rfl (hb hby at_44) rfl (l' := #[iv p1, iv p2, iv p3, iv p4, rv b1, iv (p3 &&& (3 : Int32)), u_, u_, u_]) rfl k)))) ?_
  rcases own_and3 p3 with hn | hn | hn | hn
  · refine own_cast (g' := (mkF m 46 #[iv p1, iv p2, iv p3, iv p4, rv b1, iv 0, u_, u_, u_] [])) (by rw [hn]) ?_
    refine own_s T33 (mkF m 47 #[iv p1, iv p2, iv p3, iv p4, rv b1, iv 0, u_, u_, u_] [(.int p4)]) (fun _ k => XS.iloadN X33.here hx rfl (hb hby at_46) rfl  k) ?_
    refine own_s T33 (mkF m 49 #[iv p1, iv p2, iv p3, iv p4, rv b1, iv 0, u_, u_, u_] [(.int 2147483647), (.int p4)]) (X33.ldcInt hx hown (mvT hZ (own_h hw 2 rfl)) (g := (mkF m 47 #[iv p1, iv p2, iv p3, iv p4, rv b1, iv 0, u_, u_, u_] [(.int p4)])) rfl (hb hby at_47)) ?_
    refine own_s T33 (mkF m 60 #[iv p1, iv p2, iv p3, iv p4, rv b1, iv 0, iv ((p4 &&& (2147483647 : Int32)) % (5 : Int32)), u_, u_] [(.int 37), (.int 0), (.ref b1)]) (fun _ k => XS.iand X33.here hx rfl (hb hby at_49) rfl (XS.iconst X33.here hx rfl (hb hby at_50) (iremM X33 hx rfl (hb hby at_51) rfl (by decide) (XS.istore X33.here hx rfl (hb hby at_52) rfl (l' := #[iv p1, iv p2, iv p3, iv p4, rv b1, iv 0, iv ((p4 &&& (2147483647 : Int32)) % (5 : Int32)), u_, u_]) rfl (XS.aload X33.here hx rfl (hb hby at_54) rfl rfl (XS.iload X33.here hx rfl (hb hby at_56) rfl  (XS.bipush X33.here hx rfl (hb hby at_58) k))))))) ?_
    obtain ⟨cl41, Ar41, q41, S41, Nn41, H41, G41⟩ := id f33
    have hin41 : ¬ ((0 : Int32) < 0 ∨ cl41.slots.size ≤ ((0 : Int32)).toNatClampNeg) := (inb_of S41 ⟨by decide, by decide⟩)
    obtain ⟨T41, h41, X41, e41, W41, st41⟩ := stC X33 hx hZ e33 Ar41 (j := (0 : Int32)) hin41 (g := (mkF m 60 #[iv p1, iv p2, iv p3, iv p4, rv b1, iv 0, iv ((p4 &&& (2147483647 : Int32)) % (5 : Int32)), u_, u_] [(.int 37), (.int 0), (.ref b1)])) rfl rfl (hb hby at_60)
    have f41 : Arv Z h41 b1 k1 .char (4 : Int32) [(.int (nar .char (37 : Int32))), (.int (nar .char (((p1.toUInt32 >>> ((16 : Int32) &&& 31).toUInt32).toInt32).toUInt32.toUInt16.toUInt32.toInt32))), (.int (nar .char ((p2 &&& (65535 : Int32)).toUInt32.toUInt16.toUInt32.toInt32))), (.int (nar .char (((p2.toUInt32 >>> ((16 : Int32) &&& 31).toUInt32).toInt32).toUInt32.toUInt16.toUInt32.toInt32)))] (.int 0) := Arv.set Ar41 q41 S41 Nn41 H41 G41 (fits_nar_char _) W41 0 rfl (Nat.le_of_ble_eq_true rfl)
    have f42 := Sta.wr W41 f34
    have f43 := Sta.wr W41 f35
    have f44 := Sta.wr W41 f36
    have f45 := Sta.wr W41 f37
    have f46 := Sta.wr W41 f38
    have f47 := Sta.wr W41 f39
    have f48 := f40.other W41 (own_nf pr6.lt g1)
    have Z41 := Nat.le_trans Z33 (Nat.le_of_eq W41.size.symm)
    have N41 := Fr.snoc X41 N33 g_b1
    refine own_s T41 (mkF m 61 #[iv p1, iv p2, iv p3, iv p4, rv b1, iv 0, iv ((p4 &&& (2147483647 : Int32)) % (5 : Int32)), u_, u_] []) st41 ?_
    obtain ⟨T49, h49, X49, e49, E49, A49, D49, -, st49⟩ := newO X41 hx hZ hown (own_h hw 3 rfl) (own_h hw 4 rfl) (own_h hw 5 rfl) e41 (g := (mkF m 61 #[iv p1, iv p2, iv p3, iv p4, rv b1, iv 0, iv ((p4 &&& (2147483647 : Int32)) % (5 : Int32)), u_, u_] [])) rfl (hb hby at_61) (by decide) (by decide)
    obtain ⟨b49, g49⟩ : ∃ z, z = h41.size := ⟨_, rfl⟩
    have g_b49 : n0 ≤ b49 := Nat.le_trans Z41 (Nat.le_of_eq g49.symm)
    rw [← g49] at A49 D49 st49
    have f50 := Sta.ext E49 f42
    have f51 := Sta.ext E49 f43
    have f52 := Sta.ext E49 f44
    have f53 := Sta.ext E49 f45
    have f54 := Sta.ext E49 f46
    have f55 := Sta.ext E49 f47
    have f56 := f48.ext E49
    have f57 := f41.ext E49
    have Z49 := Nat.le_trans Z41 E49.1
    have f58 : Fld Z h49 b49 "java/lang/String" "coder" "B" (.int 0) := D49 (Or.inr (own_h hw 29 rfl)) (ty := .byte) (by decide)
    have f59 : Fld Z h49 b49 "java/lang/String" "value" "[B" .null := D49 (Or.inr (own_h hw 31 rfl)) (ty := (.array .byte)) (by decide)
    refine own_s T49 (mkF m 64 #[iv p1, iv p2, iv p3, iv p4, rv b1, iv 0, iv ((p4 &&& (2147483647 : Int32)) % (5 : Int32)), u_, u_] [(.ref b49)]) st49 ?_
    refine own_s T49 (mkF m 67 #[iv p1, iv p2, iv p3, iv p4, rv b1, iv 0, iv ((p4 &&& (2147483647 : Int32)) % (5 : Int32)), u_, u_] [(.ref b1), (.ref b49), (.ref b49)]) (fun _ k => XS.dup X49.here hx rfl (hb hby at_64) rfl rfl (XS.aload X49.here hx rfl (hb hby at_65) rfl rfl k)) ?_
    obtain ⟨v60, T60, L60, X60, hQ60, st60⟩ := own_callI X49 hx hZ (y := own_y4) (W := 1) (a := b49) rfl hown (own_h hw 6 rfl) (own_h hw 7 rfl) (own_h hw 5 rfl) (own_h hw 8 rfl) (by decide) (own_rmsi1s l Z a0 hw [] b49 b1 k1 (nar .char (37 : Int32)) (nar .char (((p1.toUInt32 >>> ((16 : Int32) &&& 31).toUInt32).toInt32).toUInt32.toUInt16.toUInt32.toInt32)) (nar .char ((p2 &&& (65535 : Int32)).toUInt32.toUInt16.toUInt32.toInt32)) (nar .char (((p2.toUInt32 >>> ((16 : Int32) &&& 31).toUInt32).toInt32).toUInt32.toUInt16.toUInt32.toInt32)) gC h49 n0 Z49 g_b49 A49 f58 f59 f57 (Ne.symm (own_nf f41.lt g49)) f50 hG f52 f53 f54 (own_chN _) (own_chN _) (own_chN _) (own_chN _)) (by decide) (by decide) (g := (mkF m 67 #[iv p1, iv p2, iv p3, iv p4, rv b1, iv 0, iv ((p4 &&& (2147483647 : Int32)) % (5 : Int32)), u_, u_] [(.ref b1), (.ref b49), (.ref b49)])) rfl (by rw [hml]; rfl) (argsL := [(.ref b1)]) (rest := [(.ref b49)]) rfl (lenOf own_pd15 rfl) rfl (by show 2 * 0 + _ ≤ _; exact Nat.le_of_eq rfl) (hb hby at_67) e49 (by decide) (by decide)
    obtain ⟨rfl, Nq60, Kq60, q60_0, mq60_0⟩ := hQ60
    have N60 := Fr.app N41 Nq60
    have f61 := own_staKeepW f50 Kq60 (allS A49.nostat all0)
    have f62 := own_staKeepW f51 Kq60 (allS A49.nostat all0)
    have f63 := own_staKeepW f52 Kq60 (allS A49.nostat all0)
    have f64 := own_staKeepW f53 Kq60 (allS A49.nostat all0)
    have f65 := own_staKeepW f54 Kq60 (allS A49.nostat all0)
    have f66 := own_staKeepW f55 Kq60 (allS A49.nostat all0)
    have f67 := f56.keep Kq60 (ninS (own_nf f48.lt g49) nin0)
    have f68 := f57.keep Kq60 (ninS (own_nf f41.lt g49) nin0)
    have f69 := A49.keep Kq60
    have Z60 := Nat.le_trans Z49 Kq60.1
    refine own_s T60 (mkF m 70 #[iv p1, iv p2, iv p3, iv p4, rv b1, iv 0, iv ((p4 &&& (2147483647 : Int32)) % (5 : Int32)), u_, u_] [(.ref b49)]) st60 ?_
    refine own_s T60 (mkF m 78 #[iv p1, iv p2, iv p3, iv p4, rv b1, iv 0, iv ((p4 &&& (2147483647 : Int32)) % (5 : Int32)), rv b49, u_] [(.int ((p4 &&& (2147483647 : Int32)) % (5 : Int32))), (.int 2)]) (fun _ k => XS.astore X60.here hx rfl (hb hby at_70) rfl rfl (l' := #[iv p1, iv p2, iv p3, iv p4, rv b1, iv 0, iv ((p4 &&& (2147483647 : Int32)) % (5 : Int32)), rv b49, u_]) rfl (XS.iload X60.here hx rfl (hb hby at_72) rfl  (XS.iconst X60.here hx rfl (hb hby at_74) (XS.iadd X60.here hx rfl (hb hby at_75) rfl (XS.iload X60.here hx rfl (hb hby at_76) rfl  k))))) ?_
    by_cases c78 : (2 : Int32) < ((p4 &&& (2147483647 : Int32)) % (5 : Int32))
    · refine own_s T60 (mkF m 87 #[iv p1, iv p2, iv p3, iv p4, rv b1, iv 0, iv ((p4 &&& (2147483647 : Int32)) % (5 : Int32)), rv b49, u_] [(.int 1), (.ref b1)]) (fun _ k => XS.icmpNo X60.here hx rfl (hb hby at_78) rfl (tlt c78).2.1 (XS.aload X60.here hx rfl (hb hby at_81) rfl rfl (XS.iload X60.here hx rfl (hb hby at_83) rfl  (XS.iconst X60.here hx rfl (hb hby at_85) (XS.iadd X60.here hx rfl (hb hby at_86) rfl k))))) ?_
      obtain ⟨cl70, Ar70, q70, S70, Nn70, H70, G70⟩ := id f68
      have hin70 : ¬ ((1 : Int32) < 0 ∨ cl70.slots.size ≤ ((1 : Int32)).toNatClampNeg) := (inb_of S70 ⟨by decide, by decide⟩)
      refine own_s T60 (mkF m 88 #[iv p1, iv p2, iv p3, iv p4, rv b1, iv 0, iv ((p4 &&& (2147483647 : Int32)) % (5 : Int32)), rv b49, u_] [(.int (nar .char (((p1.toUInt32 >>> ((16 : Int32) &&& 31).toUInt32).toInt32).toUInt32.toUInt16.toUInt32.toInt32)))]) (fun _ k => X60.caload hx (j := (1 : Int32)) (v := (.int (nar .char (((p1.toUInt32 >>> ((16 : Int32) &&& 31).toUInt32).toInt32).toUInt32.toUInt16.toUInt32.toInt32)))) (own_at rfl Ar70.1) (State.isArrayOf_alike hZ.alike Ar70.2.1) Ar70.2.2 hin70 (Has.at H70 hin70 rfl) (g := (mkF m 87 #[iv p1, iv p2, iv p3, iv p4, rv b1, iv 0, iv ((p4 &&& (2147483647 : Int32)) % (5 : Int32)), rv b49, u_] [(.int 1), (.ref b1)])) rfl rfl (hb hby at_87) _ k) ?_
      obtain ⟨v71, T71, L71, X71, hQ71, st71⟩ := own_callS X60 hx hZ (y := own_y20) (W := 0) hown (own_h hw 55 rfl) (own_h hw 56 rfl) (own_h hw 57 rfl) (own_h hw 58 rfl) (by decide) (own_rmih l Z a0 hw [] (nar .char (((p1.toUInt32 >>> ((16 : Int32) &&& 31).toUInt32).toInt32).toUInt32.toUInt16.toUInt32.toInt32)) T60.heap n0 Z60) (by decide) (by decide) (g := (mkF m 88 #[iv p1, iv p2, iv p3, iv p4, rv b1, iv 0, iv ((p4 &&& (2147483647 : Int32)) % (5 : Int32)), rv b49, u_] [(.int (nar .char (((p1.toUInt32 >>> ((16 : Int32) &&& 31).toUInt32).toInt32).toUInt32.toUInt16.toUInt32.toInt32)))])) rfl (by rw [hml]; rfl) (argsL := [(.int (nar .char (((p1.toUInt32 >>> ((16 : Int32) &&& 31).toUInt32).toInt32).toUInt32.toUInt16.toUInt32.toInt32)))]) (rest := []) rfl (lenOf own_pd16 rfl) rfl (by show 2 * 0 + _ ≤ _; exact Nat.le_of_eq rfl) (hb hby at_88) rfl (by decide) (by decide)
      obtain ⟨rfl, Nq71, e71⟩ := hQ71
      have N71 := Fr.app N60 Nq71
      refine own_s T71 (mkF m 91 #[iv p1, iv p2, iv p3, iv p4, rv b1, iv 0, iv ((p4 &&& (2147483647 : Int32)) % (5 : Int32)), rv b49, u_] [(.int (own_b (own_isx (nar .char (((p1.toUInt32 >>> ((16 : Int32) &&& 31).toUInt32).toInt32).toUInt32.toUInt16.toUInt32.toInt32)))))]) st71 ?_
      by_cases c91 : (own_isx (nar .char (((p1.toUInt32 >>> ((16 : Int32) &&& 31).toUInt32).toInt32).toUInt32.toUInt16.toUInt32.toInt32))) = false
      · refine own_s T71 (mkF m 120 #[iv p1, iv p2, iv p3, iv p4, rv b1, iv 0, iv ((p4 &&& (2147483647 : Int32)) % (5 : Int32)), rv b49, iv 0] [(.int ((p4 &&& (2147483647 : Int32)) % (5 : Int32))), (.int 0), (.ref b49)]) (fun _ k => XS.ifYes X71.here hx rfl (pc0 := 91) (pc' := 111) rfl (hb hby at_91) rfl ((if0 _ _).trans (teq (own_b0 c91)).1) (by decide) (by decide) (XS.iconst X71.here hx rfl (hb hby at_111) (XS.istore X71.here hx rfl (hb hby at_112) rfl (l' := #[iv p1, iv p2, iv p3, iv p4, rv b1, iv 0, iv ((p4 &&& (2147483647 : Int32)) % (5 : Int32)), rv b49, iv 0]) rfl (XS.aload X71.here hx rfl (hb hby at_114) rfl rfl (XS.iload X71.here hx rfl (hb hby at_116) rfl  (XS.iload X71.here hx rfl (hb hby at_118) rfl  k)))))) ?_
        obtain ⟨v72, T72, L72, X72, hQ72, st72⟩ := own_callS X71 hx hZ (y := own_y19) (W := 0) hown (own_h hw 32 rfl) (own_h hw 33 rfl) (own_h hw 34 rfl) (own_h hw 35 rfl) (by decide) (own_rmiey0 l Z a0 hw [] b49 ((p4 &&& (2147483647 : Int32)) % (5 : Int32)) (nar .char (37 : Int32)) (nar .char (((p1.toUInt32 >>> ((16 : Int32) &&& 31).toUInt32).toInt32).toUInt32.toUInt16.toUInt32.toInt32)) (nar .char ((p2 &&& (65535 : Int32)).toUInt32.toUInt16.toUInt32.toInt32)) (nar .char (((p2.toUInt32 >>> ((16 : Int32) &&& 31).toUInt32).toInt32).toUInt32.toUInt16.toUInt32.toInt32)) gC wS tb kt T60.heap n0 Z60 mq60_0 (own_chN _) (own_chN _) f61 hG f62 q60_0 f66 f67 c78 f63 f64 f65 rwS) (by decide) (by decide) (g := (mkF m 120 #[iv p1, iv p2, iv p3, iv p4, rv b1, iv 0, iv ((p4 &&& (2147483647 : Int32)) % (5 : Int32)), rv b49, iv 0] [(.int ((p4 &&& (2147483647 : Int32)) % (5 : Int32))), (.int 0), (.ref b49)])) rfl (by rw [hml]; rfl) (argsL := [(.ref b49), (.int 0), (.int ((p4 &&& (2147483647 : Int32)) % (5 : Int32)))]) (rest := []) rfl (lenOf own_pd17 rfl) rfl (by show 2 * 0 + _ ≤ _; exact Nat.le_of_eq rfl) (hb hby at_120) e71 (by decide) (by decide)
        obtain ⟨rfl, Nq72, e72⟩ := hQ72
        have N72 := Fr.app N71 Nq72
        refine own_s T72 (mkF m 123 #[iv p1, iv p2, iv p3, iv p4, rv b1, iv 0, iv ((p4 &&& (2147483647 : Int32)) % (5 : Int32)), rv b49, iv 0] [(.int (own_ri (nar .char (((p1.toUInt32 >>> ((16 : Int32) &&& 31).toUInt32).toInt32).toUInt32.toUInt16.toUInt32.toInt32)) (nar .char ((p2 &&& (65535 : Int32)).toUInt32.toUInt16.toUInt32.toInt32))))]) st72 ?_
        refine own_s T72 (mkF m 133 #[iv p1, iv p2, iv p3, iv p4, rv b1, iv 0, iv ((p4 &&& (2147483647 : Int32)) % (5 : Int32)), rv b49, iv 0] [(.int 1)]) (fun _ k => XS.iload X72.here hx rfl (hb hby at_123) rfl  (XS.icmpNo X72.here hx rfl (hb hby at_125) rfl (teq (own_ri0 (own_chN _) c91)).2 (XS.iconst X72.here hx rfl (hb hby at_128) (XS.goto X72.here hx rfl (pc0 := 129) (pc' := 133) rfl (hb hby at_129) (by decide) (by decide) k)))) ?_
        exact own_finZ X72 hx (t := .boolean) hret (by simp) (z' := (1 : Int32)) rfl (hb hby at_133) (own_end (Qv := (own_Q0 Z p1 p2 p3 p4 gC wS tb kt h0 n0)) X72 (own_some hret) hlk (by decide) (by decide) e72 ⟨rfl, N72⟩)
      · refine own_s T71 (mkF m 100 #[iv p1, iv p2, iv p3, iv p4, rv b1, iv 0, iv ((p4 &&& (2147483647 : Int32)) % (5 : Int32)), rv b49, u_] [(.int 2), (.ref b1)]) (fun _ k => XS.ifNo X71.here hx rfl (hb hby at_91) rfl ((if0 _ _).trans (feq (own_b1 c91)).1) (XS.aload X71.here hx rfl (hb hby at_94) rfl rfl (XS.iload X71.here hx rfl (hb hby at_96) rfl  (XS.iconst X71.here hx rfl (hb hby at_98) (XS.iadd X71.here hx rfl (hb hby at_99) rfl k))))) ?_
        obtain ⟨cl73, Ar73, q73, S73, Nn73, H73, G73⟩ := id f68
        have hin73 : ¬ ((2 : Int32) < 0 ∨ cl73.slots.size ≤ ((2 : Int32)).toNatClampNeg) := (inb_of S73 ⟨by decide, by decide⟩)
        refine own_s T71 (mkF m 101 #[iv p1, iv p2, iv p3, iv p4, rv b1, iv 0, iv ((p4 &&& (2147483647 : Int32)) % (5 : Int32)), rv b49, u_] [(.int (nar .char ((p2 &&& (65535 : Int32)).toUInt32.toUInt16.toUInt32.toInt32)))]) (fun _ k => X71.caload hx (j := (2 : Int32)) (v := (.int (nar .char ((p2 &&& (65535 : Int32)).toUInt32.toUInt16.toUInt32.toInt32)))) (own_at e71 Ar73.1) (State.isArrayOf_alike hZ.alike Ar73.2.1) Ar73.2.2 hin73 (Has.at H73 hin73 rfl) (g := (mkF m 100 #[iv p1, iv p2, iv p3, iv p4, rv b1, iv 0, iv ((p4 &&& (2147483647 : Int32)) % (5 : Int32)), rv b49, u_] [(.int 2), (.ref b1)])) rfl rfl (hb hby at_100) _ k) ?_
        obtain ⟨v74, T74, L74, X74, hQ74, st74⟩ := own_callS X71 hx hZ (y := own_y20) (W := 0) hown (own_h hw 55 rfl) (own_h hw 56 rfl) (own_h hw 57 rfl) (own_h hw 58 rfl) (by decide) (own_rmih l Z a0 hw [] (nar .char ((p2 &&& (65535 : Int32)).toUInt32.toUInt16.toUInt32.toInt32)) T60.heap n0 Z60) (by decide) (by decide) (g := (mkF m 101 #[iv p1, iv p2, iv p3, iv p4, rv b1, iv 0, iv ((p4 &&& (2147483647 : Int32)) % (5 : Int32)), rv b49, u_] [(.int (nar .char ((p2 &&& (65535 : Int32)).toUInt32.toUInt16.toUInt32.toInt32)))])) rfl (by rw [hml]; rfl) (argsL := [(.int (nar .char ((p2 &&& (65535 : Int32)).toUInt32.toUInt16.toUInt32.toInt32)))]) (rest := []) rfl (lenOf own_pd16 rfl) rfl (by show 2 * 0 + _ ≤ _; exact Nat.le_of_eq rfl) (hb hby at_101) e71 (by decide) (by decide)
        obtain ⟨rfl, Nq74, e74⟩ := hQ74
        have N74 := Fr.app N71 Nq74
        refine own_s T74 (mkF m 104 #[iv p1, iv p2, iv p3, iv p4, rv b1, iv 0, iv ((p4 &&& (2147483647 : Int32)) % (5 : Int32)), rv b49, u_] [(.int (own_b (own_isx (nar .char ((p2 &&& (65535 : Int32)).toUInt32.toUInt16.toUInt32.toInt32)))))]) st74 ?_
        by_cases c104 : (own_isx (nar .char ((p2 &&& (65535 : Int32)).toUInt32.toUInt16.toUInt32.toInt32))) = false
        · refine own_s T74 (mkF m 120 #[iv p1, iv p2, iv p3, iv p4, rv b1, iv 0, iv ((p4 &&& (2147483647 : Int32)) % (5 : Int32)), rv b49, iv 0] [(.int ((p4 &&& (2147483647 : Int32)) % (5 : Int32))), (.int 0), (.ref b49)]) (fun _ k => XS.ifYes X74.here hx rfl (pc0 := 104) (pc' := 111) rfl (hb hby at_104) rfl ((if0 _ _).trans (teq (own_b0 c104)).1) (by decide) (by decide) (XS.iconst X74.here hx rfl (hb hby at_111) (XS.istore X74.here hx rfl (hb hby at_112) rfl (l' := #[iv p1, iv p2, iv p3, iv p4, rv b1, iv 0, iv ((p4 &&& (2147483647 : Int32)) % (5 : Int32)), rv b49, iv 0]) rfl (XS.aload X74.here hx rfl (hb hby at_114) rfl rfl (XS.iload X74.here hx rfl (hb hby at_116) rfl  (XS.iload X74.here hx rfl (hb hby at_118) rfl  k)))))) ?_
          obtain ⟨v75, T75, L75, X75, hQ75, st75⟩ := own_callS X74 hx hZ (y := own_y19) (W := 0) hown (own_h hw 32 rfl) (own_h hw 33 rfl) (own_h hw 34 rfl) (own_h hw 35 rfl) (by decide) (own_rmiey0 l Z a0 hw [] b49 ((p4 &&& (2147483647 : Int32)) % (5 : Int32)) (nar .char (37 : Int32)) (nar .char (((p1.toUInt32 >>> ((16 : Int32) &&& 31).toUInt32).toInt32).toUInt32.toUInt16.toUInt32.toInt32)) (nar .char ((p2 &&& (65535 : Int32)).toUInt32.toUInt16.toUInt32.toInt32)) (nar .char (((p2.toUInt32 >>> ((16 : Int32) &&& 31).toUInt32).toInt32).toUInt32.toUInt16.toUInt32.toInt32)) gC wS tb kt T60.heap n0 Z60 mq60_0 (own_chN _) (own_chN _) f61 hG f62 q60_0 f66 f67 c78 f63 f64 f65 rwS) (by decide) (by decide) (g := (mkF m 120 #[iv p1, iv p2, iv p3, iv p4, rv b1, iv 0, iv ((p4 &&& (2147483647 : Int32)) % (5 : Int32)), rv b49, iv 0] [(.int ((p4 &&& (2147483647 : Int32)) % (5 : Int32))), (.int 0), (.ref b49)])) rfl (by rw [hml]; rfl) (argsL := [(.ref b49), (.int 0), (.int ((p4 &&& (2147483647 : Int32)) % (5 : Int32)))]) (rest := []) rfl (lenOf own_pd17 rfl) rfl (by show 2 * 0 + _ ≤ _; exact Nat.le_of_eq rfl) (hb hby at_120) e74 (by decide) (by decide)
          obtain ⟨rfl, Nq75, e75⟩ := hQ75
          have N75 := Fr.app N74 Nq75
          refine own_s T75 (mkF m 123 #[iv p1, iv p2, iv p3, iv p4, rv b1, iv 0, iv ((p4 &&& (2147483647 : Int32)) % (5 : Int32)), rv b49, iv 0] [(.int (own_ri (nar .char (((p1.toUInt32 >>> ((16 : Int32) &&& 31).toUInt32).toInt32).toUInt32.toUInt16.toUInt32.toInt32)) (nar .char ((p2 &&& (65535 : Int32)).toUInt32.toUInt16.toUInt32.toInt32))))]) st75 ?_
          refine own_s T75 (mkF m 133 #[iv p1, iv p2, iv p3, iv p4, rv b1, iv 0, iv ((p4 &&& (2147483647 : Int32)) % (5 : Int32)), rv b49, iv 0] [(.int 1)]) (fun _ k => XS.iload X75.here hx rfl (hb hby at_123) rfl  (XS.icmpNo X75.here hx rfl (hb hby at_125) rfl (teq (own_ri1 (own_chN _) c104)).2 (XS.iconst X75.here hx rfl (hb hby at_128) (XS.goto X75.here hx rfl (pc0 := 129) (pc' := 133) rfl (hb hby at_129) (by decide) (by decide) k)))) ?_
          exact own_finZ X75 hx (t := .boolean) hret (by simp) (z' := (1 : Int32)) rfl (hb hby at_133) (own_end (Qv := (own_Q0 Z p1 p2 p3 p4 gC wS tb kt h0 n0)) X75 (own_some hret) hlk (by decide) (by decide) e75 ⟨rfl, N75⟩)
        · refine own_s T74 (mkF m 120 #[iv p1, iv p2, iv p3, iv p4, rv b1, iv 0, iv ((p4 &&& (2147483647 : Int32)) % (5 : Int32)), rv b49, iv 1] [(.int ((p4 &&& (2147483647 : Int32)) % (5 : Int32))), (.int 0), (.ref b49)]) (fun _ k => XS.ifNo X74.here hx rfl (hb hby at_104) rfl ((if0 _ _).trans (feq (own_b1 c104)).1) (XS.iconst X74.here hx rfl (hb hby at_107) (XS.goto X74.here hx rfl (pc0 := 108) (pc' := 112) rfl (hb hby at_108) (by decide) (by decide) (XS.istore X74.here hx rfl (hb hby at_112) rfl (l' := #[iv p1, iv p2, iv p3, iv p4, rv b1, iv 0, iv ((p4 &&& (2147483647 : Int32)) % (5 : Int32)), rv b49, iv 1]) rfl (XS.aload X74.here hx rfl (hb hby at_114) rfl rfl (XS.iload X74.here hx rfl (hb hby at_116) rfl  (XS.iload X74.here hx rfl (hb hby at_118) rfl  k))))))) ?_
          obtain ⟨v76, T76, L76, X76, hQ76, st76⟩ := own_callS X74 hx hZ (y := own_y19) (W := 0) hown (own_h hw 32 rfl) (own_h hw 33 rfl) (own_h hw 34 rfl) (own_h hw 35 rfl) (by decide) (own_rmiey0 l Z a0 hw [] b49 ((p4 &&& (2147483647 : Int32)) % (5 : Int32)) (nar .char (37 : Int32)) (nar .char (((p1.toUInt32 >>> ((16 : Int32) &&& 31).toUInt32).toInt32).toUInt32.toUInt16.toUInt32.toInt32)) (nar .char ((p2 &&& (65535 : Int32)).toUInt32.toUInt16.toUInt32.toInt32)) (nar .char (((p2.toUInt32 >>> ((16 : Int32) &&& 31).toUInt32).toInt32).toUInt32.toUInt16.toUInt32.toInt32)) gC wS tb kt T60.heap n0 Z60 mq60_0 (own_chN _) (own_chN _) f61 hG f62 q60_0 f66 f67 c78 f63 f64 f65 rwS) (by decide) (by decide) (g := (mkF m 120 #[iv p1, iv p2, iv p3, iv p4, rv b1, iv 0, iv ((p4 &&& (2147483647 : Int32)) % (5 : Int32)), rv b49, iv 1] [(.int ((p4 &&& (2147483647 : Int32)) % (5 : Int32))), (.int 0), (.ref b49)])) rfl (by rw [hml]; rfl) (argsL := [(.ref b49), (.int 0), (.int ((p4 &&& (2147483647 : Int32)) % (5 : Int32)))]) (rest := []) rfl (lenOf own_pd17 rfl) rfl (by show 2 * 0 + _ ≤ _; exact Nat.le_of_eq rfl) (hb hby at_120) e74 (by decide) (by decide)
          obtain ⟨rfl, Nq76, e76⟩ := hQ76
          have N76 := Fr.app N74 Nq76
          refine own_s T76 (mkF m 123 #[iv p1, iv p2, iv p3, iv p4, rv b1, iv 0, iv ((p4 &&& (2147483647 : Int32)) % (5 : Int32)), rv b49, iv 1] [(.int (own_ri (nar .char (((p1.toUInt32 >>> ((16 : Int32) &&& 31).toUInt32).toInt32).toUInt32.toUInt16.toUInt32.toInt32)) (nar .char ((p2 &&& (65535 : Int32)).toUInt32.toUInt16.toUInt32.toInt32))))]) st76 ?_
          refine own_s T76 (mkF m 133 #[iv p1, iv p2, iv p3, iv p4, rv b1, iv 0, iv ((p4 &&& (2147483647 : Int32)) % (5 : Int32)), rv b49, iv 1] [(.int 1)]) (fun _ k => XS.iload X76.here hx rfl (hb hby at_123) rfl  (XS.icmpNo X76.here hx rfl (hb hby at_125) rfl (teq (own_ri2 (own_chN _) (own_chN _) c91 c104)).2 (XS.iconst X76.here hx rfl (hb hby at_128) (XS.goto X76.here hx rfl (pc0 := 129) (pc' := 133) rfl (hb hby at_129) (by decide) (by decide) k)))) ?_
          exact own_finZ X76 hx (t := .boolean) hret (by simp) (z' := (1 : Int32)) rfl (hb hby at_133) (own_end (Qv := (own_Q0 Z p1 p2 p3 p4 gC wS tb kt h0 n0)) X76 (own_some hret) hlk (by decide) (by decide) e76 ⟨rfl, N76⟩)
    · refine own_s T60 (mkF m 120 #[iv p1, iv p2, iv p3, iv p4, rv b1, iv 0, iv ((p4 &&& (2147483647 : Int32)) % (5 : Int32)), rv b49, iv 0] [(.int ((p4 &&& (2147483647 : Int32)) % (5 : Int32))), (.int 0), (.ref b49)]) (fun _ k => XS.icmpYes X60.here hx rfl (pc0 := 78) (pc' := 111) rfl (hb hby at_78) rfl (flt c78).2.1 (by decide) (by decide) (XS.iconst X60.here hx rfl (hb hby at_111) (XS.istore X60.here hx rfl (hb hby at_112) rfl (l' := #[iv p1, iv p2, iv p3, iv p4, rv b1, iv 0, iv ((p4 &&& (2147483647 : Int32)) % (5 : Int32)), rv b49, iv 0]) rfl (XS.aload X60.here hx rfl (hb hby at_114) rfl rfl (XS.iload X60.here hx rfl (hb hby at_116) rfl  (XS.iload X60.here hx rfl (hb hby at_118) rfl  k)))))) ?_
      obtain ⟨v77, T77, L77, X77, hQ77, st77⟩ := own_callS X60 hx hZ (y := own_y19) (W := 0) hown (own_h hw 32 rfl) (own_h hw 33 rfl) (own_h hw 34 rfl) (own_h hw 35 rfl) (by decide) (own_rmien0 l Z a0 hw [] b49 ((p4 &&& (2147483647 : Int32)) % (5 : Int32)) T60.heap n0 Z60 c78) (by decide) (by decide) (g := (mkF m 120 #[iv p1, iv p2, iv p3, iv p4, rv b1, iv 0, iv ((p4 &&& (2147483647 : Int32)) % (5 : Int32)), rv b49, iv 0] [(.int ((p4 &&& (2147483647 : Int32)) % (5 : Int32))), (.int 0), (.ref b49)])) rfl (by rw [hml]; rfl) (argsL := [(.ref b49), (.int 0), (.int ((p4 &&& (2147483647 : Int32)) % (5 : Int32)))]) (rest := []) rfl (lenOf own_pd17 rfl) rfl (by show 2 * 0 + _ ≤ _; exact Nat.le_of_eq rfl) (hb hby at_120) rfl (by decide) (by decide)
      obtain ⟨rfl, Nq77, e77⟩ := hQ77
      have N77 := Fr.app N60 Nq77
      refine own_s T77 (mkF m 123 #[iv p1, iv p2, iv p3, iv p4, rv b1, iv 0, iv ((p4 &&& (2147483647 : Int32)) % (5 : Int32)), rv b49, iv 0] [(.int 0)]) st77 ?_
      refine own_s T77 (mkF m 133 #[iv p1, iv p2, iv p3, iv p4, rv b1, iv 0, iv ((p4 &&& (2147483647 : Int32)) % (5 : Int32)), rv b49, iv 0] [(.int 1)]) (fun _ k => XS.iload X77.here hx rfl (hb hby at_123) rfl  (XS.icmpNo X77.here hx rfl (hb hby at_125) rfl (teq (by decide : ((0 : Int32) = (0 : Int32)))).2 (XS.iconst X77.here hx rfl (hb hby at_128) (XS.goto X77.here hx rfl (pc0 := 129) (pc' := 133) rfl (hb hby at_129) (by decide) (by decide) k)))) ?_
      exact own_finZ X77 hx (t := .boolean) hret (by simp) (z' := (1 : Int32)) rfl (hb hby at_133) (own_end (Qv := (own_Q0 Z p1 p2 p3 p4 gC wS tb kt h0 n0)) X77 (own_some hret) hlk (by decide) (by decide) e77 ⟨rfl, N77⟩)
  · refine own_cast (g' := (mkF m 46 #[iv p1, iv p2, iv p3, iv p4, rv b1, iv 1, u_, u_, u_] [])) (by rw [hn]) ?_
    refine own_s T33 (mkF m 47 #[iv p1, iv p2, iv p3, iv p4, rv b1, iv 1, u_, u_, u_] [(.int p4)]) (fun _ k => XS.iloadN X33.here hx rfl (hb hby at_46) rfl  k) ?_
    refine own_s T33 (mkF m 49 #[iv p1, iv p2, iv p3, iv p4, rv b1, iv 1, u_, u_, u_] [(.int 2147483647), (.int p4)]) (X33.ldcInt hx hown (mvT hZ (own_h hw 2 rfl)) (g := (mkF m 47 #[iv p1, iv p2, iv p3, iv p4, rv b1, iv 1, u_, u_, u_] [(.int p4)])) rfl (hb hby at_47)) ?_
    refine own_s T33 (mkF m 60 #[iv p1, iv p2, iv p3, iv p4, rv b1, iv 1, iv ((p4 &&& (2147483647 : Int32)) % (5 : Int32)), u_, u_] [(.int 37), (.int 1), (.ref b1)]) (fun _ k => XS.iand X33.here hx rfl (hb hby at_49) rfl (XS.iconst X33.here hx rfl (hb hby at_50) (iremM X33 hx rfl (hb hby at_51) rfl (by decide) (XS.istore X33.here hx rfl (hb hby at_52) rfl (l' := #[iv p1, iv p2, iv p3, iv p4, rv b1, iv 1, iv ((p4 &&& (2147483647 : Int32)) % (5 : Int32)), u_, u_]) rfl (XS.aload X33.here hx rfl (hb hby at_54) rfl rfl (XS.iload X33.here hx rfl (hb hby at_56) rfl  (XS.bipush X33.here hx rfl (hb hby at_58) k))))))) ?_
    obtain ⟨cl78, Ar78, q78, S78, Nn78, H78, G78⟩ := id f33
    have hin78 : ¬ ((1 : Int32) < 0 ∨ cl78.slots.size ≤ ((1 : Int32)).toNatClampNeg) := (inb_of S78 ⟨by decide, by decide⟩)
    obtain ⟨T78, h78, X78, e78, W78, st78⟩ := stC X33 hx hZ e33 Ar78 (j := (1 : Int32)) hin78 (g := (mkF m 60 #[iv p1, iv p2, iv p3, iv p4, rv b1, iv 1, iv ((p4 &&& (2147483647 : Int32)) % (5 : Int32)), u_, u_] [(.int 37), (.int 1), (.ref b1)])) rfl rfl (hb hby at_60)
    have f78 : Arv Z h78 b1 k1 .char (4 : Int32) [(.int (nar .char ((p1 &&& (65535 : Int32)).toUInt32.toUInt16.toUInt32.toInt32))), (.int (nar .char (37 : Int32))), (.int (nar .char ((p2 &&& (65535 : Int32)).toUInt32.toUInt16.toUInt32.toInt32))), (.int (nar .char (((p2.toUInt32 >>> ((16 : Int32) &&& 31).toUInt32).toInt32).toUInt32.toUInt16.toUInt32.toInt32)))] (.int 0) := Arv.set Ar78 q78 S78 Nn78 H78 G78 (fits_nar_char _) W78 1 rfl (Nat.le_of_ble_eq_true rfl)
    have f79 := Sta.wr W78 f34
    have f80 := Sta.wr W78 f35
    have f81 := Sta.wr W78 f36
    have f82 := Sta.wr W78 f37
    have f83 := Sta.wr W78 f38
    have f84 := Sta.wr W78 f39
    have f85 := f40.other W78 (own_nf pr6.lt g1)
    have Z78 := Nat.le_trans Z33 (Nat.le_of_eq W78.size.symm)
    have N78 := Fr.snoc X78 N33 g_b1
    refine own_s T78 (mkF m 61 #[iv p1, iv p2, iv p3, iv p4, rv b1, iv 1, iv ((p4 &&& (2147483647 : Int32)) % (5 : Int32)), u_, u_] []) st78 ?_
    obtain ⟨T86, h86, X86, e86, E86, A86, D86, -, st86⟩ := newO X78 hx hZ hown (own_h hw 3 rfl) (own_h hw 4 rfl) (own_h hw 5 rfl) e78 (g := (mkF m 61 #[iv p1, iv p2, iv p3, iv p4, rv b1, iv 1, iv ((p4 &&& (2147483647 : Int32)) % (5 : Int32)), u_, u_] [])) rfl (hb hby at_61) (by decide) (by decide)
    obtain ⟨b86, g86⟩ : ∃ z, z = h78.size := ⟨_, rfl⟩
    have g_b86 : n0 ≤ b86 := Nat.le_trans Z78 (Nat.le_of_eq g86.symm)
    rw [← g86] at A86 D86 st86
    have f87 := Sta.ext E86 f79
    have f88 := Sta.ext E86 f80
    have f89 := Sta.ext E86 f81
    have f90 := Sta.ext E86 f82
    have f91 := Sta.ext E86 f83
    have f92 := Sta.ext E86 f84
    have f93 := f85.ext E86
    have f94 := f78.ext E86
    have Z86 := Nat.le_trans Z78 E86.1
    have f95 : Fld Z h86 b86 "java/lang/String" "coder" "B" (.int 0) := D86 (Or.inr (own_h hw 29 rfl)) (ty := .byte) (by decide)
    have f96 : Fld Z h86 b86 "java/lang/String" "value" "[B" .null := D86 (Or.inr (own_h hw 31 rfl)) (ty := (.array .byte)) (by decide)
    refine own_s T86 (mkF m 64 #[iv p1, iv p2, iv p3, iv p4, rv b1, iv 1, iv ((p4 &&& (2147483647 : Int32)) % (5 : Int32)), u_, u_] [(.ref b86)]) st86 ?_
    refine own_s T86 (mkF m 67 #[iv p1, iv p2, iv p3, iv p4, rv b1, iv 1, iv ((p4 &&& (2147483647 : Int32)) % (5 : Int32)), u_, u_] [(.ref b1), (.ref b86), (.ref b86)]) (fun _ k => XS.dup X86.here hx rfl (hb hby at_64) rfl rfl (XS.aload X86.here hx rfl (hb hby at_65) rfl rfl k)) ?_
    obtain ⟨v97, T97, L97, X97, hQ97, st97⟩ := own_callI X86 hx hZ (y := own_y4) (W := 1) (a := b86) rfl hown (own_h hw 6 rfl) (own_h hw 7 rfl) (own_h hw 5 rfl) (own_h hw 8 rfl) (by decide) (own_rmsi1s l Z a0 hw [] b86 b1 k1 (nar .char ((p1 &&& (65535 : Int32)).toUInt32.toUInt16.toUInt32.toInt32)) (nar .char (37 : Int32)) (nar .char ((p2 &&& (65535 : Int32)).toUInt32.toUInt16.toUInt32.toInt32)) (nar .char (((p2.toUInt32 >>> ((16 : Int32) &&& 31).toUInt32).toInt32).toUInt32.toUInt16.toUInt32.toInt32)) gC h86 n0 Z86 g_b86 A86 f95 f96 f94 (Ne.symm (own_nf f78.lt g86)) f87 hG f89 f90 f91 (own_chN _) (own_chN _) (own_chN _) (own_chN _)) (by decide) (by decide) (g := (mkF m 67 #[iv p1, iv p2, iv p3, iv p4, rv b1, iv 1, iv ((p4 &&& (2147483647 : Int32)) % (5 : Int32)), u_, u_] [(.ref b1), (.ref b86), (.ref b86)])) rfl (by rw [hml]; rfl) (argsL := [(.ref b1)]) (rest := [(.ref b86)]) rfl (lenOf own_pd15 rfl) rfl (by show 2 * 0 + _ ≤ _; exact Nat.le_of_eq rfl) (hb hby at_67) e86 (by decide) (by decide)
    obtain ⟨rfl, Nq97, Kq97, q97_0, mq97_0⟩ := hQ97
    have N97 := Fr.app N78 Nq97
    have f98 := own_staKeepW f87 Kq97 (allS A86.nostat all0)
    have f99 := own_staKeepW f88 Kq97 (allS A86.nostat all0)
    have f100 := own_staKeepW f89 Kq97 (allS A86.nostat all0)
    have f101 := own_staKeepW f90 Kq97 (allS A86.nostat all0)
    have f102 := own_staKeepW f91 Kq97 (allS A86.nostat all0)
    have f103 := own_staKeepW f92 Kq97 (allS A86.nostat all0)
    have f104 := f93.keep Kq97 (ninS (own_nf f85.lt g86) nin0)
    have f105 := f94.keep Kq97 (ninS (own_nf f78.lt g86) nin0)
    have f106 := A86.keep Kq97
    have Z97 := Nat.le_trans Z86 Kq97.1
    refine own_s T97 (mkF m 70 #[iv p1, iv p2, iv p3, iv p4, rv b1, iv 1, iv ((p4 &&& (2147483647 : Int32)) % (5 : Int32)), u_, u_] [(.ref b86)]) st97 ?_
    refine own_s T97 (mkF m 78 #[iv p1, iv p2, iv p3, iv p4, rv b1, iv 1, iv ((p4 &&& (2147483647 : Int32)) % (5 : Int32)), rv b86, u_] [(.int ((p4 &&& (2147483647 : Int32)) % (5 : Int32))), (.int 3)]) (fun _ k => XS.astore X97.here hx rfl (hb hby at_70) rfl rfl (l' := #[iv p1, iv p2, iv p3, iv p4, rv b1, iv 1, iv ((p4 &&& (2147483647 : Int32)) % (5 : Int32)), rv b86, u_]) rfl (XS.iload X97.here hx rfl (hb hby at_72) rfl  (XS.iconst X97.here hx rfl (hb hby at_74) (XS.iadd X97.here hx rfl (hb hby at_75) rfl (XS.iload X97.here hx rfl (hb hby at_76) rfl  k))))) ?_
    by_cases c78 : (3 : Int32) < ((p4 &&& (2147483647 : Int32)) % (5 : Int32))
    · refine own_s T97 (mkF m 87 #[iv p1, iv p2, iv p3, iv p4, rv b1, iv 1, iv ((p4 &&& (2147483647 : Int32)) % (5 : Int32)), rv b86, u_] [(.int 2), (.ref b1)]) (fun _ k => XS.icmpNo X97.here hx rfl (hb hby at_78) rfl (tlt c78).2.1 (XS.aload X97.here hx rfl (hb hby at_81) rfl rfl (XS.iload X97.here hx rfl (hb hby at_83) rfl  (XS.iconst X97.here hx rfl (hb hby at_85) (XS.iadd X97.here hx rfl (hb hby at_86) rfl k))))) ?_
      obtain ⟨cl107, Ar107, q107, S107, Nn107, H107, G107⟩ := id f105
      have hin107 : ¬ ((2 : Int32) < 0 ∨ cl107.slots.size ≤ ((2 : Int32)).toNatClampNeg) := (inb_of S107 ⟨by decide, by decide⟩)
      refine own_s T97 (mkF m 88 #[iv p1, iv p2, iv p3, iv p4, rv b1, iv 1, iv ((p4 &&& (2147483647 : Int32)) % (5 : Int32)), rv b86, u_] [(.int (nar .char ((p2 &&& (65535 : Int32)).toUInt32.toUInt16.toUInt32.toInt32)))]) (fun _ k => X97.caload hx (j := (2 : Int32)) (v := (.int (nar .char ((p2 &&& (65535 : Int32)).toUInt32.toUInt16.toUInt32.toInt32)))) (own_at rfl Ar107.1) (State.isArrayOf_alike hZ.alike Ar107.2.1) Ar107.2.2 hin107 (Has.at H107 hin107 rfl) (g := (mkF m 87 #[iv p1, iv p2, iv p3, iv p4, rv b1, iv 1, iv ((p4 &&& (2147483647 : Int32)) % (5 : Int32)), rv b86, u_] [(.int 2), (.ref b1)])) rfl rfl (hb hby at_87) _ k) ?_
      obtain ⟨v108, T108, L108, X108, hQ108, st108⟩ := own_callS X97 hx hZ (y := own_y20) (W := 0) hown (own_h hw 55 rfl) (own_h hw 56 rfl) (own_h hw 57 rfl) (own_h hw 58 rfl) (by decide) (own_rmih l Z a0 hw [] (nar .char ((p2 &&& (65535 : Int32)).toUInt32.toUInt16.toUInt32.toInt32)) T97.heap n0 Z97) (by decide) (by decide) (g := (mkF m 88 #[iv p1, iv p2, iv p3, iv p4, rv b1, iv 1, iv ((p4 &&& (2147483647 : Int32)) % (5 : Int32)), rv b86, u_] [(.int (nar .char ((p2 &&& (65535 : Int32)).toUInt32.toUInt16.toUInt32.toInt32)))])) rfl (by rw [hml]; rfl) (argsL := [(.int (nar .char ((p2 &&& (65535 : Int32)).toUInt32.toUInt16.toUInt32.toInt32)))]) (rest := []) rfl (lenOf own_pd16 rfl) rfl (by show 2 * 0 + _ ≤ _; exact Nat.le_of_eq rfl) (hb hby at_88) rfl (by decide) (by decide)
      obtain ⟨rfl, Nq108, e108⟩ := hQ108
      have N108 := Fr.app N97 Nq108
      refine own_s T108 (mkF m 91 #[iv p1, iv p2, iv p3, iv p4, rv b1, iv 1, iv ((p4 &&& (2147483647 : Int32)) % (5 : Int32)), rv b86, u_] [(.int (own_b (own_isx (nar .char ((p2 &&& (65535 : Int32)).toUInt32.toUInt16.toUInt32.toInt32)))))]) st108 ?_
      by_cases c91 : (own_isx (nar .char ((p2 &&& (65535 : Int32)).toUInt32.toUInt16.toUInt32.toInt32))) = false
      · refine own_s T108 (mkF m 120 #[iv p1, iv p2, iv p3, iv p4, rv b1, iv 1, iv ((p4 &&& (2147483647 : Int32)) % (5 : Int32)), rv b86, iv 0] [(.int ((p4 &&& (2147483647 : Int32)) % (5 : Int32))), (.int 1), (.ref b86)]) (fun _ k => XS.ifYes X108.here hx rfl (pc0 := 91) (pc' := 111) rfl (hb hby at_91) rfl ((if0 _ _).trans (teq (own_b0 c91)).1) (by decide) (by decide) (XS.iconst X108.here hx rfl (hb hby at_111) (XS.istore X108.here hx rfl (hb hby at_112) rfl (l' := #[iv p1, iv p2, iv p3, iv p4, rv b1, iv 1, iv ((p4 &&& (2147483647 : Int32)) % (5 : Int32)), rv b86, iv 0]) rfl (XS.aload X108.here hx rfl (hb hby at_114) rfl rfl (XS.iload X108.here hx rfl (hb hby at_116) rfl  (XS.iload X108.here hx rfl (hb hby at_118) rfl  k)))))) ?_
        obtain ⟨v109, T109, L109, X109, hQ109, st109⟩ := own_callS X108 hx hZ (y := own_y19) (W := 0) hown (own_h hw 32 rfl) (own_h hw 33 rfl) (own_h hw 34 rfl) (own_h hw 35 rfl) (by decide) (own_rmiey1 l Z a0 hw [] b86 ((p4 &&& (2147483647 : Int32)) % (5 : Int32)) (nar .char ((p1 &&& (65535 : Int32)).toUInt32.toUInt16.toUInt32.toInt32)) (nar .char (37 : Int32)) (nar .char ((p2 &&& (65535 : Int32)).toUInt32.toUInt16.toUInt32.toInt32)) (nar .char (((p2.toUInt32 >>> ((16 : Int32) &&& 31).toUInt32).toInt32).toUInt32.toUInt16.toUInt32.toInt32)) gC wS tb kt T97.heap n0 Z97 mq97_0 (own_chN _) (own_chN _) f98 hG f99 q97_0 f103 f104 c78 f100 f101 f102 rwS) (by decide) (by decide) (g := (mkF m 120 #[iv p1, iv p2, iv p3, iv p4, rv b1, iv 1, iv ((p4 &&& (2147483647 : Int32)) % (5 : Int32)), rv b86, iv 0] [(.int ((p4 &&& (2147483647 : Int32)) % (5 : Int32))), (.int 1), (.ref b86)])) rfl (by rw [hml]; rfl) (argsL := [(.ref b86), (.int 1), (.int ((p4 &&& (2147483647 : Int32)) % (5 : Int32)))]) (rest := []) rfl (lenOf own_pd17 rfl) rfl (by show 2 * 0 + _ ≤ _; exact Nat.le_of_eq rfl) (hb hby at_120) e108 (by decide) (by decide)
        obtain ⟨rfl, Nq109, e109⟩ := hQ109
        have N109 := Fr.app N108 Nq109
        refine own_s T109 (mkF m 123 #[iv p1, iv p2, iv p3, iv p4, rv b1, iv 1, iv ((p4 &&& (2147483647 : Int32)) % (5 : Int32)), rv b86, iv 0] [(.int (own_ri (nar .char ((p2 &&& (65535 : Int32)).toUInt32.toUInt16.toUInt32.toInt32)) (nar .char (((p2.toUInt32 >>> ((16 : Int32) &&& 31).toUInt32).toInt32).toUInt32.toUInt16.toUInt32.toInt32))))]) st109 ?_
        refine own_s T109 (mkF m 133 #[iv p1, iv p2, iv p3, iv p4, rv b1, iv 1, iv ((p4 &&& (2147483647 : Int32)) % (5 : Int32)), rv b86, iv 0] [(.int 1)]) (fun _ k => XS.iload X109.here hx rfl (hb hby at_123) rfl  (XS.icmpNo X109.here hx rfl (hb hby at_125) rfl (teq (own_ri0 (own_chN _) c91)).2 (XS.iconst X109.here hx rfl (hb hby at_128) (XS.goto X109.here hx rfl (pc0 := 129) (pc' := 133) rfl (hb hby at_129) (by decide) (by decide) k)))) ?_
        exact own_finZ X109 hx (t := .boolean) hret (by simp) (z' := (1 : Int32)) rfl (hb hby at_133) (own_end (Qv := (own_Q0 Z p1 p2 p3 p4 gC wS tb kt h0 n0)) X109 (own_some hret) hlk (by decide) (by decide) e109 ⟨rfl, N109⟩)
      · refine own_s T108 (mkF m 100 #[iv p1, iv p2, iv p3, iv p4, rv b1, iv 1, iv ((p4 &&& (2147483647 : Int32)) % (5 : Int32)), rv b86, u_] [(.int 3), (.ref b1)]) (fun _ k => XS.ifNo X108.here hx rfl (hb hby at_91) rfl ((if0 _ _).trans (feq (own_b1 c91)).1) (XS.aload X108.here hx rfl (hb hby at_94) rfl rfl (XS.iload X108.here hx rfl (hb hby at_96) rfl  (XS.iconst X108.here hx rfl (hb hby at_98) (XS.iadd X108.here hx rfl (hb hby at_99) rfl k))))) ?_
        obtain ⟨cl110, Ar110, q110, S110, Nn110, H110, G110⟩ := id f105
        have hin110 : ¬ ((3 : Int32) < 0 ∨ cl110.slots.size ≤ ((3 : Int32)).toNatClampNeg) := (inb_of S110 ⟨by decide, by decide⟩)
        refine own_s T108 (mkF m 101 #[iv p1, iv p2, iv p3, iv p4, rv b1, iv 1, iv ((p4 &&& (2147483647 : Int32)) % (5 : Int32)), rv b86, u_] [(.int (nar .char (((p2.toUInt32 >>> ((16 : Int32) &&& 31).toUInt32).toInt32).toUInt32.toUInt16.toUInt32.toInt32)))]) (fun _ k => X108.caload hx (j := (3 : Int32)) (v := (.int (nar .char (((p2.toUInt32 >>> ((16 : Int32) &&& 31).toUInt32).toInt32).toUInt32.toUInt16.toUInt32.toInt32)))) (own_at e108 Ar110.1) (State.isArrayOf_alike hZ.alike Ar110.2.1) Ar110.2.2 hin110 (Has.at H110 hin110 rfl) (g := (mkF m 100 #[iv p1, iv p2, iv p3, iv p4, rv b1, iv 1, iv ((p4 &&& (2147483647 : Int32)) % (5 : Int32)), rv b86, u_] [(.int 3), (.ref b1)])) rfl rfl (hb hby at_100) _ k) ?_
        obtain ⟨v111, T111, L111, X111, hQ111, st111⟩ := own_callS X108 hx hZ (y := own_y20) (W := 0) hown (own_h hw 55 rfl) (own_h hw 56 rfl) (own_h hw 57 rfl) (own_h hw 58 rfl) (by decide) (own_rmih l Z a0 hw [] (nar .char (((p2.toUInt32 >>> ((16 : Int32) &&& 31).toUInt32).toInt32).toUInt32.toUInt16.toUInt32.toInt32)) T97.heap n0 Z97) (by decide) (by decide) (g := (mkF m 101 #[iv p1, iv p2, iv p3, iv p4, rv b1, iv 1, iv ((p4 &&& (2147483647 : Int32)) % (5 : Int32)), rv b86, u_] [(.int (nar .char (((p2.toUInt32 >>> ((16 : Int32) &&& 31).toUInt32).toInt32).toUInt32.toUInt16.toUInt32.toInt32)))])) rfl (by rw [hml]; rfl) (argsL := [(.int (nar .char (((p2.toUInt32 >>> ((16 : Int32) &&& 31).toUInt32).toInt32).toUInt32.toUInt16.toUInt32.toInt32)))]) (rest := []) rfl (lenOf own_pd16 rfl) rfl (by show 2 * 0 + _ ≤ _; exact Nat.le_of_eq rfl) (hb hby at_101) e108 (by decide) (by decide)
        obtain ⟨rfl, Nq111, e111⟩ := hQ111
        have N111 := Fr.app N108 Nq111
        refine own_s T111 (mkF m 104 #[iv p1, iv p2, iv p3, iv p4, rv b1, iv 1, iv ((p4 &&& (2147483647 : Int32)) % (5 : Int32)), rv b86, u_] [(.int (own_b (own_isx (nar .char (((p2.toUInt32 >>> ((16 : Int32) &&& 31).toUInt32).toInt32).toUInt32.toUInt16.toUInt32.toInt32)))))]) st111 ?_
        by_cases c104 : (own_isx (nar .char (((p2.toUInt32 >>> ((16 : Int32) &&& 31).toUInt32).toInt32).toUInt32.toUInt16.toUInt32.toInt32))) = false
        · refine own_s T111 (mkF m 120 #[iv p1, iv p2, iv p3, iv p4, rv b1, iv 1, iv ((p4 &&& (2147483647 : Int32)) % (5 : Int32)), rv b86, iv 0] [(.int ((p4 &&& (2147483647 : Int32)) % (5 : Int32))), (.int 1), (.ref b86)]) (fun _ k => XS.ifYes X111.here hx rfl (pc0 := 104) (pc' := 111) rfl (hb hby at_104) rfl ((if0 _ _).trans (teq (own_b0 c104)).1) (by decide) (by decide) (XS.iconst X111.here hx rfl (hb hby at_111) (XS.istore X111.here hx rfl (hb hby at_112) rfl (l' := #[iv p1, iv p2, iv p3, iv p4, rv b1, iv 1, iv ((p4 &&& (2147483647 : Int32)) % (5 : Int32)), rv b86, iv 0]) rfl (XS.aload X111.here hx rfl (hb hby at_114) rfl rfl (XS.iload X111.here hx rfl (hb hby at_116) rfl  (XS.iload X111.here hx rfl (hb hby at_118) rfl  k)))))) ?_
          obtain ⟨v112, T112, L112, X112, hQ112, st112⟩ := own_callS X111 hx hZ (y := own_y19) (W := 0) hown (own_h hw 32 rfl) (own_h hw 33 rfl) (own_h hw 34 rfl) (own_h hw 35 rfl) (by decide) (own_rmiey1 l Z a0 hw [] b86 ((p4 &&& (2147483647 : Int32)) % (5 : Int32)) (nar .char ((p1 &&& (65535 : Int32)).toUInt32.toUInt16.toUInt32.toInt32)) (nar .char (37 : Int32)) (nar .char ((p2 &&& (65535 : Int32)).toUInt32.toUInt16.toUInt32.toInt32)) (nar .char (((p2.toUInt32 >>> ((16 : Int32) &&& 31).toUInt32).toInt32).toUInt32.toUInt16.toUInt32.toInt32)) gC wS tb kt T97.heap n0 Z97 mq97_0 (own_chN _) (own_chN _) f98 hG f99 q97_0 f103 f104 c78 f100 f101 f102 rwS) (by decide) (by decide) (g := (mkF m 120 #[iv p1, iv p2, iv p3, iv p4, rv b1, iv 1, iv ((p4 &&& (2147483647 : Int32)) % (5 : Int32)), rv b86, iv 0] [(.int ((p4 &&& (2147483647 : Int32)) % (5 : Int32))), (.int 1), (.ref b86)])) rfl (by rw [hml]; rfl) (argsL := [(.ref b86), (.int 1), (.int ((p4 &&& (2147483647 : Int32)) % (5 : Int32)))]) (rest := []) rfl (lenOf own_pd17 rfl) rfl (by show 2 * 0 + _ ≤ _; exact Nat.le_of_eq rfl) (hb hby at_120) e111 (by decide) (by decide)
          obtain ⟨rfl, Nq112, e112⟩ := hQ112
          have N112 := Fr.app N111 Nq112
          refine own_s T112 (mkF m 123 #[iv p1, iv p2, iv p3, iv p4, rv b1, iv 1, iv ((p4 &&& (2147483647 : Int32)) % (5 : Int32)), rv b86, iv 0] [(.int (own_ri (nar .char ((p2 &&& (65535 : Int32)).toUInt32.toUInt16.toUInt32.toInt32)) (nar .char (((p2.toUInt32 >>> ((16 : Int32) &&& 31).toUInt32).toInt32).toUInt32.toUInt16.toUInt32.toInt32))))]) st112 ?_
          refine own_s T112 (mkF m 133 #[iv p1, iv p2, iv p3, iv p4, rv b1, iv 1, iv ((p4 &&& (2147483647 : Int32)) % (5 : Int32)), rv b86, iv 0] [(.int 1)]) (fun _ k => XS.iload X112.here hx rfl (hb hby at_123) rfl  (XS.icmpNo X112.here hx rfl (hb hby at_125) rfl (teq (own_ri1 (own_chN _) c104)).2 (XS.iconst X112.here hx rfl (hb hby at_128) (XS.goto X112.here hx rfl (pc0 := 129) (pc' := 133) rfl (hb hby at_129) (by decide) (by decide) k)))) ?_
          exact own_finZ X112 hx (t := .boolean) hret (by simp) (z' := (1 : Int32)) rfl (hb hby at_133) (own_end (Qv := (own_Q0 Z p1 p2 p3 p4 gC wS tb kt h0 n0)) X112 (own_some hret) hlk (by decide) (by decide) e112 ⟨rfl, N112⟩)
        · refine own_s T111 (mkF m 120 #[iv p1, iv p2, iv p3, iv p4, rv b1, iv 1, iv ((p4 &&& (2147483647 : Int32)) % (5 : Int32)), rv b86, iv 1] [(.int ((p4 &&& (2147483647 : Int32)) % (5 : Int32))), (.int 1), (.ref b86)]) (fun _ k => XS.ifNo X111.here hx rfl (hb hby at_104) rfl ((if0 _ _).trans (feq (own_b1 c104)).1) (XS.iconst X111.here hx rfl (hb hby at_107) (XS.goto X111.here hx rfl (pc0 := 108) (pc' := 112) rfl (hb hby at_108) (by decide) (by decide) (XS.istore X111.here hx rfl (hb hby at_112) rfl (l' := #[iv p1, iv p2, iv p3, iv p4, rv b1, iv 1, iv ((p4 &&& (2147483647 : Int32)) % (5 : Int32)), rv b86, iv 1]) rfl (XS.aload X111.here hx rfl (hb hby at_114) rfl rfl (XS.iload X111.here hx rfl (hb hby at_116) rfl  (XS.iload X111.here hx rfl (hb hby at_118) rfl  k))))))) ?_
          obtain ⟨v113, T113, L113, X113, hQ113, st113⟩ := own_callS X111 hx hZ (y := own_y19) (W := 0) hown (own_h hw 32 rfl) (own_h hw 33 rfl) (own_h hw 34 rfl) (own_h hw 35 rfl) (by decide) (own_rmiey1 l Z a0 hw [] b86 ((p4 &&& (2147483647 : Int32)) % (5 : Int32)) (nar .char ((p1 &&& (65535 : Int32)).toUInt32.toUInt16.toUInt32.toInt32)) (nar .char (37 : Int32)) (nar .char ((p2 &&& (65535 : Int32)).toUInt32.toUInt16.toUInt32.toInt32)) (nar .char (((p2.toUInt32 >>> ((16 : Int32) &&& 31).toUInt32).toInt32).toUInt32.toUInt16.toUInt32.toInt32)) gC wS tb kt T97.heap n0 Z97 mq97_0 (own_chN _) (own_chN _) f98 hG f99 q97_0 f103 f104 c78 f100 f101 f102 rwS) (by decide) (by decide) (g := (mkF m 120 #[iv p1, iv p2, iv p3, iv p4, rv b1, iv 1, iv ((p4 &&& (2147483647 : Int32)) % (5 : Int32)), rv b86, iv 1] [(.int ((p4 &&& (2147483647 : Int32)) % (5 : Int32))), (.int 1), (.ref b86)])) rfl (by rw [hml]; rfl) (argsL := [(.ref b86), (.int 1), (.int ((p4 &&& (2147483647 : Int32)) % (5 : Int32)))]) (rest := []) rfl (lenOf own_pd17 rfl) rfl (by show 2 * 0 + _ ≤ _; exact Nat.le_of_eq rfl) (hb hby at_120) e111 (by decide) (by decide)
          obtain ⟨rfl, Nq113, e113⟩ := hQ113
          have N113 := Fr.app N111 Nq113
          refine own_s T113 (mkF m 123 #[iv p1, iv p2, iv p3, iv p4, rv b1, iv 1, iv ((p4 &&& (2147483647 : Int32)) % (5 : Int32)), rv b86, iv 1] [(.int (own_ri (nar .char ((p2 &&& (65535 : Int32)).toUInt32.toUInt16.toUInt32.toInt32)) (nar .char (((p2.toUInt32 >>> ((16 : Int32) &&& 31).toUInt32).toInt32).toUInt32.toUInt16.toUInt32.toInt32))))]) st113 ?_
          refine own_s T113 (mkF m 133 #[iv p1, iv p2, iv p3, iv p4, rv b1, iv 1, iv ((p4 &&& (2147483647 : Int32)) % (5 : Int32)), rv b86, iv 1] [(.int 1)]) (fun _ k => XS.iload X113.here hx rfl (hb hby at_123) rfl  (XS.icmpNo X113.here hx rfl (hb hby at_125) rfl (teq (own_ri2 (own_chN _) (own_chN _) c91 c104)).2 (XS.iconst X113.here hx rfl (hb hby at_128) (XS.goto X113.here hx rfl (pc0 := 129) (pc' := 133) rfl (hb hby at_129) (by decide) (by decide) k)))) ?_
          exact own_finZ X113 hx (t := .boolean) hret (by simp) (z' := (1 : Int32)) rfl (hb hby at_133) (own_end (Qv := (own_Q0 Z p1 p2 p3 p4 gC wS tb kt h0 n0)) X113 (own_some hret) hlk (by decide) (by decide) e113 ⟨rfl, N113⟩)
    · refine own_s T97 (mkF m 120 #[iv p1, iv p2, iv p3, iv p4, rv b1, iv 1, iv ((p4 &&& (2147483647 : Int32)) % (5 : Int32)), rv b86, iv 0] [(.int ((p4 &&& (2147483647 : Int32)) % (5 : Int32))), (.int 1), (.ref b86)]) (fun _ k => XS.icmpYes X97.here hx rfl (pc0 := 78) (pc' := 111) rfl (hb hby at_78) rfl (flt c78).2.1 (by decide) (by decide) (XS.iconst X97.here hx rfl (hb hby at_111) (XS.istore X97.here hx rfl (hb hby at_112) rfl (l' := #[iv p1, iv p2, iv p3, iv p4, rv b1, iv 1, iv ((p4 &&& (2147483647 : Int32)) % (5 : Int32)), rv b86, iv 0]) rfl (XS.aload X97.here hx rfl (hb hby at_114) rfl rfl (XS.iload X97.here hx rfl (hb hby at_116) rfl  (XS.iload X97.here hx rfl (hb hby at_118) rfl  k)))))) ?_
      obtain ⟨v114, T114, L114, X114, hQ114, st114⟩ := own_callS X97 hx hZ (y := own_y19) (W := 0) hown (own_h hw 32 rfl) (own_h hw 33 rfl) (own_h hw 34 rfl) (own_h hw 35 rfl) (by decide) (own_rmien1 l Z a0 hw [] b86 ((p4 &&& (2147483647 : Int32)) % (5 : Int32)) T97.heap n0 Z97 c78) (by decide) (by decide) (g := (mkF m 120 #[iv p1, iv p2, iv p3, iv p4, rv b1, iv 1, iv ((p4 &&& (2147483647 : Int32)) % (5 : Int32)), rv b86, iv 0] [(.int ((p4 &&& (2147483647 : Int32)) % (5 : Int32))), (.int 1), (.ref b86)])) rfl (by rw [hml]; rfl) (argsL := [(.ref b86), (.int 1), (.int ((p4 &&& (2147483647 : Int32)) % (5 : Int32)))]) (rest := []) rfl (lenOf own_pd17 rfl) rfl (by show 2 * 0 + _ ≤ _; exact Nat.le_of_eq rfl) (hb hby at_120) rfl (by decide) (by decide)
      obtain ⟨rfl, Nq114, e114⟩ := hQ114
      have N114 := Fr.app N97 Nq114
      refine own_s T114 (mkF m 123 #[iv p1, iv p2, iv p3, iv p4, rv b1, iv 1, iv ((p4 &&& (2147483647 : Int32)) % (5 : Int32)), rv b86, iv 0] [(.int 0)]) st114 ?_
      refine own_s T114 (mkF m 133 #[iv p1, iv p2, iv p3, iv p4, rv b1, iv 1, iv ((p4 &&& (2147483647 : Int32)) % (5 : Int32)), rv b86, iv 0] [(.int 1)]) (fun _ k => XS.iload X114.here hx rfl (hb hby at_123) rfl  (XS.icmpNo X114.here hx rfl (hb hby at_125) rfl (teq (by decide : ((0 : Int32) = (0 : Int32)))).2 (XS.iconst X114.here hx rfl (hb hby at_128) (XS.goto X114.here hx rfl (pc0 := 129) (pc' := 133) rfl (hb hby at_129) (by decide) (by decide) k)))) ?_
      exact own_finZ X114 hx (t := .boolean) hret (by simp) (z' := (1 : Int32)) rfl (hb hby at_133) (own_end (Qv := (own_Q0 Z p1 p2 p3 p4 gC wS tb kt h0 n0)) X114 (own_some hret) hlk (by decide) (by decide) e114 ⟨rfl, N114⟩)
  · refine own_cast (g' := (mkF m 46 #[iv p1, iv p2, iv p3, iv p4, rv b1, iv 2, u_, u_, u_] [])) (by rw [hn]) ?_
    refine own_s T33 (mkF m 47 #[iv p1, iv p2, iv p3, iv p4, rv b1, iv 2, u_, u_, u_] [(.int p4)]) (fun _ k => XS.iloadN X33.here hx rfl (hb hby at_46) rfl  k) ?_
    refine own_s T33 (mkF m 49 #[iv p1, iv p2, iv p3, iv p4, rv b1, iv 2, u_, u_, u_] [(.int 2147483647), (.int p4)]) (X33.ldcInt hx hown (mvT hZ (own_h hw 2 rfl)) (g := (mkF m 47 #[iv p1, iv p2, iv p3, iv p4, rv b1, iv 2, u_, u_, u_] [(.int p4)])) rfl (hb hby at_47)) ?_
    refine own_s T33 (mkF m 60 #[iv p1, iv p2, iv p3, iv p4, rv b1, iv 2, iv ((p4 &&& (2147483647 : Int32)) % (5 : Int32)), u_, u_] [(.int 37), (.int 2), (.ref b1)]) (fun _ k => XS.iand X33.here hx rfl (hb hby at_49) rfl (XS.iconst X33.here hx rfl (hb hby at_50) (iremM X33 hx rfl (hb hby at_51) rfl (by decide) (XS.istore X33.here hx rfl (hb hby at_52) rfl (l' := #[iv p1, iv p2, iv p3, iv p4, rv b1, iv 2, iv ((p4 &&& (2147483647 : Int32)) % (5 : Int32)), u_, u_]) rfl (XS.aload X33.here hx rfl (hb hby at_54) rfl rfl (XS.iload X33.here hx rfl (hb hby at_56) rfl  (XS.bipush X33.here hx rfl (hb hby at_58) k))))))) ?_
    obtain ⟨cl115, Ar115, q115, S115, Nn115, H115, G115⟩ := id f33
    have hin115 : ¬ ((2 : Int32) < 0 ∨ cl115.slots.size ≤ ((2 : Int32)).toNatClampNeg) := (inb_of S115 ⟨by decide, by decide⟩)
    obtain ⟨T115, h115, X115, e115, W115, st115⟩ := stC X33 hx hZ e33 Ar115 (j := (2 : Int32)) hin115 (g := (mkF m 60 #[iv p1, iv p2, iv p3, iv p4, rv b1, iv 2, iv ((p4 &&& (2147483647 : Int32)) % (5 : Int32)), u_, u_] [(.int 37), (.int 2), (.ref b1)])) rfl rfl (hb hby at_60)
    have f115 : Arv Z h115 b1 k1 .char (4 : Int32) [(.int (nar .char ((p1 &&& (65535 : Int32)).toUInt32.toUInt16.toUInt32.toInt32))), (.int (nar .char (((p1.toUInt32 >>> ((16 : Int32) &&& 31).toUInt32).toInt32).toUInt32.toUInt16.toUInt32.toInt32))), (.int (nar .char (37 : Int32))), (.int (nar .char (((p2.toUInt32 >>> ((16 : Int32) &&& 31).toUInt32).toInt32).toUInt32.toUInt16.toUInt32.toInt32)))] (.int 0) := Arv.set Ar115 q115 S115 Nn115 H115 G115 (fits_nar_char _) W115 2 rfl (Nat.le_of_ble_eq_true rfl)
    have f116 := Sta.wr W115 f34
    have f117 := Sta.wr W115 f35
    have f118 := Sta.wr W115 f36
    have f119 := Sta.wr W115 f37
    have f120 := Sta.wr W115 f38
    have f121 := Sta.wr W115 f39
    have f122 := f40.other W115 (own_nf pr6.lt g1)
    have Z115 := Nat.le_trans Z33 (Nat.le_of_eq W115.size.symm)
    have N115 := Fr.snoc X115 N33 g_b1
    refine own_s T115 (mkF m 61 #[iv p1, iv p2, iv p3, iv p4, rv b1, iv 2, iv ((p4 &&& (2147483647 : Int32)) % (5 : Int32)), u_, u_] []) st115 ?_
    obtain ⟨T123, h123, X123, e123, E123, A123, D123, -, st123⟩ := newO X115 hx hZ hown (own_h hw 3 rfl) (own_h hw 4 rfl) (own_h hw 5 rfl) e115 (g := (mkF m 61 #[iv p1, iv p2, iv p3, iv p4, rv b1, iv 2, iv ((p4 &&& (2147483647 : Int32)) % (5 : Int32)), u_, u_] [])) rfl (hb hby at_61) (by decide) (by decide)
    obtain ⟨b123, g123⟩ : ∃ z, z = h115.size := ⟨_, rfl⟩
    have g_b123 : n0 ≤ b123 := Nat.le_trans Z115 (Nat.le_of_eq g123.symm)
    rw [← g123] at A123 D123 st123
    have f124 := Sta.ext E123 f116
    have f125 := Sta.ext E123 f117
    have f126 := Sta.ext E123 f118
    have f127 := Sta.ext E123 f119
    have f128 := Sta.ext E123 f120
    have f129 := Sta.ext E123 f121
    have f130 := f122.ext E123
    have f131 := f115.ext E123
    have Z123 := Nat.le_trans Z115 E123.1
    have f132 : Fld Z h123 b123 "java/lang/String" "coder" "B" (.int 0) := D123 (Or.inr (own_h hw 29 rfl)) (ty := .byte) (by decide)
    have f133 : Fld Z h123 b123 "java/lang/String" "value" "[B" .null := D123 (Or.inr (own_h hw 31 rfl)) (ty := (.array .byte)) (by decide)
    refine own_s T123 (mkF m 64 #[iv p1, iv p2, iv p3, iv p4, rv b1, iv 2, iv ((p4 &&& (2147483647 : Int32)) % (5 : Int32)), u_, u_] [(.ref b123)]) st123 ?_
    refine own_s T123 (mkF m 67 #[iv p1, iv p2, iv p3, iv p4, rv b1, iv 2, iv ((p4 &&& (2147483647 : Int32)) % (5 : Int32)), u_, u_] [(.ref b1), (.ref b123), (.ref b123)]) (fun _ k => XS.dup X123.here hx rfl (hb hby at_64) rfl rfl (XS.aload X123.here hx rfl (hb hby at_65) rfl rfl k)) ?_
    obtain ⟨v134, T134, L134, X134, hQ134, st134⟩ := own_callI X123 hx hZ (y := own_y4) (W := 1) (a := b123) rfl hown (own_h hw 6 rfl) (own_h hw 7 rfl) (own_h hw 5 rfl) (own_h hw 8 rfl) (by decide) (own_rmsi1s l Z a0 hw [] b123 b1 k1 (nar .char ((p1 &&& (65535 : Int32)).toUInt32.toUInt16.toUInt32.toInt32)) (nar .char (((p1.toUInt32 >>> ((16 : Int32) &&& 31).toUInt32).toInt32).toUInt32.toUInt16.toUInt32.toInt32)) (nar .char (37 : Int32)) (nar .char (((p2.toUInt32 >>> ((16 : Int32) &&& 31).toUInt32).toInt32).toUInt32.toUInt16.toUInt32.toInt32)) gC h123 n0 Z123 g_b123 A123 f132 f133 f131 (Ne.symm (own_nf f115.lt g123)) f124 hG f126 f127 f128 (own_chN _) (own_chN _) (own_chN _) (own_chN _)) (by decide) (by decide) (g := (mkF m 67 #[iv p1, iv p2, iv p3, iv p4, rv b1, iv 2, iv ((p4 &&& (2147483647 : Int32)) % (5 : Int32)), u_, u_] [(.ref b1), (.ref b123), (.ref b123)])) rfl (by rw [hml]; rfl) (argsL := [(.ref b1)]) (rest := [(.ref b123)]) rfl (lenOf own_pd15 rfl) rfl (by show 2 * 0 + _ ≤ _; exact Nat.le_of_eq rfl) (hb hby at_67) e123 (by decide) (by decide)
    obtain ⟨rfl, Nq134, Kq134, q134_0, mq134_0⟩ := hQ134
    have N134 := Fr.app N115 Nq134
    have f135 := own_staKeepW f124 Kq134 (allS A123.nostat all0)
    have f136 := own_staKeepW f125 Kq134 (allS A123.nostat all0)
    have f137 := own_staKeepW f126 Kq134 (allS A123.nostat all0)
    have f138 := own_staKeepW f127 Kq134 (allS A123.nostat all0)
    have f139 := own_staKeepW f128 Kq134 (allS A123.nostat all0)
    have f140 := own_staKeepW f129 Kq134 (allS A123.nostat all0)
    have f141 := f130.keep Kq134 (ninS (own_nf f122.lt g123) nin0)
    have f142 := f131.keep Kq134 (ninS (own_nf f115.lt g123) nin0)
    have f143 := A123.keep Kq134
    have Z134 := Nat.le_trans Z123 Kq134.1
    refine own_s T134 (mkF m 70 #[iv p1, iv p2, iv p3, iv p4, rv b1, iv 2, iv ((p4 &&& (2147483647 : Int32)) % (5 : Int32)), u_, u_] [(.ref b123)]) st134 ?_
    refine own_s T134 (mkF m 114 #[iv p1, iv p2, iv p3, iv p4, rv b1, iv 2, iv ((p4 &&& (2147483647 : Int32)) % (5 : Int32)), rv b123, iv 0] []) (fun _ k => XS.astore X134.here hx rfl (hb hby at_70) rfl rfl (l' := #[iv p1, iv p2, iv p3, iv p4, rv b1, iv 2, iv ((p4 &&& (2147483647 : Int32)) % (5 : Int32)), rv b123, u_]) rfl (XS.iload X134.here hx rfl (hb hby at_72) rfl  (XS.iconst X134.here hx rfl (hb hby at_74) (XS.iadd X134.here hx rfl (hb hby at_75) rfl (XS.iload X134.here hx rfl (hb hby at_76) rfl  (XS.icmpYes X134.here hx rfl (pc0 := 78) (pc' := 111) rfl (hb hby at_78) rfl (flt (own_e5 _ _ (by decide))).2.1 (by decide) (by decide) (XS.iconst X134.here hx rfl (hb hby at_111) (XS.istore X134.here hx rfl (hb hby at_112) rfl (l' := #[iv p1, iv p2, iv p3, iv p4, rv b1, iv 2, iv ((p4 &&& (2147483647 : Int32)) % (5 : Int32)), rv b123, iv 0]) rfl k)))))))) ?_
    refine own_s T134 (mkF m 120 #[iv p1, iv p2, iv p3, iv p4, rv b1, iv 2, iv ((p4 &&& (2147483647 : Int32)) % (5 : Int32)), rv b123, iv 0] [(.int ((p4 &&& (2147483647 : Int32)) % (5 : Int32))), (.int 2), (.ref b123)]) (fun _ k => XS.aload X134.here hx rfl (hb hby at_114) rfl rfl (XS.iload X134.here hx rfl (hb hby at_116) rfl  (XS.iload X134.here hx rfl (hb hby at_118) rfl  k))) ?_
    obtain ⟨v144, T144, L144, X144, hQ144, st144⟩ := own_callS X134 hx hZ (y := own_y19) (W := 0) hown (own_h hw 32 rfl) (own_h hw 33 rfl) (own_h hw 34 rfl) (own_h hw 35 rfl) (by decide) (own_rmien2 l Z a0 hw [] b123 ((p4 &&& (2147483647 : Int32)) % (5 : Int32)) T134.heap n0 Z134 (own_e5 _ _ (by decide))) (by decide) (by decide) (g := (mkF m 120 #[iv p1, iv p2, iv p3, iv p4, rv b1, iv 2, iv ((p4 &&& (2147483647 : Int32)) % (5 : Int32)), rv b123, iv 0] [(.int ((p4 &&& (2147483647 : Int32)) % (5 : Int32))), (.int 2), (.ref b123)])) rfl (by rw [hml]; rfl) (argsL := [(.ref b123), (.int 2), (.int ((p4 &&& (2147483647 : Int32)) % (5 : Int32)))]) (rest := []) rfl (lenOf own_pd17 rfl) rfl (by show 2 * 0 + _ ≤ _; exact Nat.le_of_eq rfl) (hb hby at_120) rfl (by decide) (by decide)
    obtain ⟨rfl, Nq144, e144⟩ := hQ144
    have N144 := Fr.app N134 Nq144
    refine own_s T144 (mkF m 123 #[iv p1, iv p2, iv p3, iv p4, rv b1, iv 2, iv ((p4 &&& (2147483647 : Int32)) % (5 : Int32)), rv b123, iv 0] [(.int 0)]) st144 ?_
    refine own_s T144 (mkF m 133 #[iv p1, iv p2, iv p3, iv p4, rv b1, iv 2, iv ((p4 &&& (2147483647 : Int32)) % (5 : Int32)), rv b123, iv 0] [(.int 1)]) (fun _ k => XS.iload X144.here hx rfl (hb hby at_123) rfl  (XS.icmpNo X144.here hx rfl (hb hby at_125) rfl (teq (by decide : ((0 : Int32) = (0 : Int32)))).2 (XS.iconst X144.here hx rfl (hb hby at_128) (XS.goto X144.here hx rfl (pc0 := 129) (pc' := 133) rfl (hb hby at_129) (by decide) (by decide) k)))) ?_
    exact own_finZ X144 hx (t := .boolean) hret (by simp) (z' := (1 : Int32)) rfl (hb hby at_133) (own_end (Qv := (own_Q0 Z p1 p2 p3 p4 gC wS tb kt h0 n0)) X144 (own_some hret) hlk (by decide) (by decide) e144 ⟨rfl, N144⟩)
  · refine own_cast (g' := (mkF m 46 #[iv p1, iv p2, iv p3, iv p4, rv b1, iv 3, u_, u_, u_] [])) (by rw [hn]) ?_
    refine own_s T33 (mkF m 47 #[iv p1, iv p2, iv p3, iv p4, rv b1, iv 3, u_, u_, u_] [(.int p4)]) (fun _ k => XS.iloadN X33.here hx rfl (hb hby at_46) rfl  k) ?_
    refine own_s T33 (mkF m 49 #[iv p1, iv p2, iv p3, iv p4, rv b1, iv 3, u_, u_, u_] [(.int 2147483647), (.int p4)]) (X33.ldcInt hx hown (mvT hZ (own_h hw 2 rfl)) (g := (mkF m 47 #[iv p1, iv p2, iv p3, iv p4, rv b1, iv 3, u_, u_, u_] [(.int p4)])) rfl (hb hby at_47)) ?_
    refine own_s T33 (mkF m 60 #[iv p1, iv p2, iv p3, iv p4, rv b1, iv 3, iv ((p4 &&& (2147483647 : Int32)) % (5 : Int32)), u_, u_] [(.int 37), (.int 3), (.ref b1)]) (fun _ k => XS.iand X33.here hx rfl (hb hby at_49) rfl (XS.iconst X33.here hx rfl (hb hby at_50) (iremM X33 hx rfl (hb hby at_51) rfl (by decide) (XS.istore X33.here hx rfl (hb hby at_52) rfl (l' := #[iv p1, iv p2, iv p3, iv p4, rv b1, iv 3, iv ((p4 &&& (2147483647 : Int32)) % (5 : Int32)), u_, u_]) rfl (XS.aload X33.here hx rfl (hb hby at_54) rfl rfl (XS.iload X33.here hx rfl (hb hby at_56) rfl  (XS.bipush X33.here hx rfl (hb hby at_58) k))))))) ?_
    obtain ⟨cl145, Ar145, q145, S145, Nn145, H145, G145⟩ := id f33
    have hin145 : ¬ ((3 : Int32) < 0 ∨ cl145.slots.size ≤ ((3 : Int32)).toNatClampNeg) := (inb_of S145 ⟨by decide, by decide⟩)
    obtain ⟨T145, h145, X145, e145, W145, st145⟩ := stC X33 hx hZ e33 Ar145 (j := (3 : Int32)) hin145 (g := (mkF m 60 #[iv p1, iv p2, iv p3, iv p4, rv b1, iv 3, iv ((p4 &&& (2147483647 : Int32)) % (5 : Int32)), u_, u_] [(.int 37), (.int 3), (.ref b1)])) rfl rfl (hb hby at_60)
    have f145 : Arv Z h145 b1 k1 .char (4 : Int32) [(.int (nar .char ((p1 &&& (65535 : Int32)).toUInt32.toUInt16.toUInt32.toInt32))), (.int (nar .char (((p1.toUInt32 >>> ((16 : Int32) &&& 31).toUInt32).toInt32).toUInt32.toUInt16.toUInt32.toInt32))), (.int (nar .char ((p2 &&& (65535 : Int32)).toUInt32.toUInt16.toUInt32.toInt32))), (.int (nar .char (37 : Int32)))] (.int 0) := Arv.set Ar145 q145 S145 Nn145 H145 G145 (fits_nar_char _) W145 3 rfl (Nat.le_of_ble_eq_true rfl)
    have f146 := Sta.wr W145 f34
    have f147 := Sta.wr W145 f35
    have f148 := Sta.wr W145 f36
    have f149 := Sta.wr W145 f37
    have f150 := Sta.wr W145 f38
    have f151 := Sta.wr W145 f39
    have f152 := f40.other W145 (own_nf pr6.lt g1)
    have Z145 := Nat.le_trans Z33 (Nat.le_of_eq W145.size.symm)
    have N145 := Fr.snoc X145 N33 g_b1
    refine own_s T145 (mkF m 61 #[iv p1, iv p2, iv p3, iv p4, rv b1, iv 3, iv ((p4 &&& (2147483647 : Int32)) % (5 : Int32)), u_, u_] []) st145 ?_
    obtain ⟨T153, h153, X153, e153, E153, A153, D153, -, st153⟩ := newO X145 hx hZ hown (own_h hw 3 rfl) (own_h hw 4 rfl) (own_h hw 5 rfl) e145 (g := (mkF m 61 #[iv p1, iv p2, iv p3, iv p4, rv b1, iv 3, iv ((p4 &&& (2147483647 : Int32)) % (5 : Int32)), u_, u_] [])) rfl (hb hby at_61) (by decide) (by decide)
    obtain ⟨b153, g153⟩ : ∃ z, z = h145.size := ⟨_, rfl⟩
    have g_b153 : n0 ≤ b153 := Nat.le_trans Z145 (Nat.le_of_eq g153.symm)
    rw [← g153] at A153 D153 st153
    have f154 := Sta.ext E153 f146
    have f155 := Sta.ext E153 f147
    have f156 := Sta.ext E153 f148
    have f157 := Sta.ext E153 f149
    have f158 := Sta.ext E153 f150
    have f159 := Sta.ext E153 f151
    have f160 := f152.ext E153
    have f161 := f145.ext E153
    have Z153 := Nat.le_trans Z145 E153.1
    have f162 : Fld Z h153 b153 "java/lang/String" "coder" "B" (.int 0) := D153 (Or.inr (own_h hw 29 rfl)) (ty := .byte) (by decide)
    have f163 : Fld Z h153 b153 "java/lang/String" "value" "[B" .null := D153 (Or.inr (own_h hw 31 rfl)) (ty := (.array .byte)) (by decide)
    refine own_s T153 (mkF m 64 #[iv p1, iv p2, iv p3, iv p4, rv b1, iv 3, iv ((p4 &&& (2147483647 : Int32)) % (5 : Int32)), u_, u_] [(.ref b153)]) st153 ?_
    refine own_s T153 (mkF m 67 #[iv p1, iv p2, iv p3, iv p4, rv b1, iv 3, iv ((p4 &&& (2147483647 : Int32)) % (5 : Int32)), u_, u_] [(.ref b1), (.ref b153), (.ref b153)]) (fun _ k => XS.dup X153.here hx rfl (hb hby at_64) rfl rfl (XS.aload X153.here hx rfl (hb hby at_65) rfl rfl k)) ?_
    obtain ⟨v164, T164, L164, X164, hQ164, st164⟩ := own_callI X153 hx hZ (y := own_y4) (W := 1) (a := b153) rfl hown (own_h hw 6 rfl) (own_h hw 7 rfl) (own_h hw 5 rfl) (own_h hw 8 rfl) (by decide) (own_rmsi1s l Z a0 hw [] b153 b1 k1 (nar .char ((p1 &&& (65535 : Int32)).toUInt32.toUInt16.toUInt32.toInt32)) (nar .char (((p1.toUInt32 >>> ((16 : Int32) &&& 31).toUInt32).toInt32).toUInt32.toUInt16.toUInt32.toInt32)) (nar .char ((p2 &&& (65535 : Int32)).toUInt32.toUInt16.toUInt32.toInt32)) (nar .char (37 : Int32)) gC h153 n0 Z153 g_b153 A153 f162 f163 f161 (Ne.symm (own_nf f145.lt g153)) f154 hG f156 f157 f158 (own_chN _) (own_chN _) (own_chN _) (own_chN _)) (by decide) (by decide) (g := (mkF m 67 #[iv p1, iv p2, iv p3, iv p4, rv b1, iv 3, iv ((p4 &&& (2147483647 : Int32)) % (5 : Int32)), u_, u_] [(.ref b1), (.ref b153), (.ref b153)])) rfl (by rw [hml]; rfl) (argsL := [(.ref b1)]) (rest := [(.ref b153)]) rfl (lenOf own_pd15 rfl) rfl (by show 2 * 0 + _ ≤ _; exact Nat.le_of_eq rfl) (hb hby at_67) e153 (by decide) (by decide)
    obtain ⟨rfl, Nq164, Kq164, q164_0, mq164_0⟩ := hQ164
    have N164 := Fr.app N145 Nq164
    have f165 := own_staKeepW f154 Kq164 (allS A153.nostat all0)
    have f166 := own_staKeepW f155 Kq164 (allS A153.nostat all0)
    have f167 := own_staKeepW f156 Kq164 (allS A153.nostat all0)
    have f168 := own_staKeepW f157 Kq164 (allS A153.nostat all0)
    have f169 := own_staKeepW f158 Kq164 (allS A153.nostat all0)
    have f170 := own_staKeepW f159 Kq164 (allS A153.nostat all0)
    have f171 := f160.keep Kq164 (ninS (own_nf f152.lt g153) nin0)
    have f172 := f161.keep Kq164 (ninS (own_nf f145.lt g153) nin0)
    have f173 := A153.keep Kq164
    have Z164 := Nat.le_trans Z153 Kq164.1
    refine own_s T164 (mkF m 70 #[iv p1, iv p2, iv p3, iv p4, rv b1, iv 3, iv ((p4 &&& (2147483647 : Int32)) % (5 : Int32)), u_, u_] [(.ref b153)]) st164 ?_
    refine own_s T164 (mkF m 114 #[iv p1, iv p2, iv p3, iv p4, rv b1, iv 3, iv ((p4 &&& (2147483647 : Int32)) % (5 : Int32)), rv b153, iv 0] []) (fun _ k => XS.astore X164.here hx rfl (hb hby at_70) rfl rfl (l' := #[iv p1, iv p2, iv p3, iv p4, rv b1, iv 3, iv ((p4 &&& (2147483647 : Int32)) % (5 : Int32)), rv b153, u_]) rfl (XS.iload X164.here hx rfl (hb hby at_72) rfl  (XS.iconst X164.here hx rfl (hb hby at_74) (XS.iadd X164.here hx rfl (hb hby at_75) rfl (XS.iload X164.here hx rfl (hb hby at_76) rfl  (XS.icmpYes X164.here hx rfl (pc0 := 78) (pc' := 111) rfl (hb hby at_78) rfl (flt (own_e5 _ _ (by decide))).2.1 (by decide) (by decide) (XS.iconst X164.here hx rfl (hb hby at_111) (XS.istore X164.here hx rfl (hb hby at_112) rfl (l' := #[iv p1, iv p2, iv p3, iv p4, rv b1, iv 3, iv ((p4 &&& (2147483647 : Int32)) % (5 : Int32)), rv b153, iv 0]) rfl k)))))))) ?_
    refine own_s T164 (mkF m 120 #[iv p1, iv p2, iv p3, iv p4, rv b1, iv 3, iv ((p4 &&& (2147483647 : Int32)) % (5 : Int32)), rv b153, iv 0] [(.int ((p4 &&& (2147483647 : Int32)) % (5 : Int32))), (.int 3), (.ref b153)]) (fun _ k => XS.aload X164.here hx rfl (hb hby at_114) rfl rfl (XS.iload X164.here hx rfl (hb hby at_116) rfl  (XS.iload X164.here hx rfl (hb hby at_118) rfl  k))) ?_
    obtain ⟨v174, T174, L174, X174, hQ174, st174⟩ := own_callS X164 hx hZ (y := own_y19) (W := 0) hown (own_h hw 32 rfl) (own_h hw 33 rfl) (own_h hw 34 rfl) (own_h hw 35 rfl) (by decide) (own_rmien3 l Z a0 hw [] b153 ((p4 &&& (2147483647 : Int32)) % (5 : Int32)) T164.heap n0 Z164 (own_e5 _ _ (by decide))) (by decide) (by decide) (g := (mkF m 120 #[iv p1, iv p2, iv p3, iv p4, rv b1, iv 3, iv ((p4 &&& (2147483647 : Int32)) % (5 : Int32)), rv b153, iv 0] [(.int ((p4 &&& (2147483647 : Int32)) % (5 : Int32))), (.int 3), (.ref b153)])) rfl (by rw [hml]; rfl) (argsL := [(.ref b153), (.int 3), (.int ((p4 &&& (2147483647 : Int32)) % (5 : Int32)))]) (rest := []) rfl (lenOf own_pd17 rfl) rfl (by show 2 * 0 + _ ≤ _; exact Nat.le_of_eq rfl) (hb hby at_120) rfl (by decide) (by decide)
    obtain ⟨rfl, Nq174, e174⟩ := hQ174
    have N174 := Fr.app N164 Nq174
    refine own_s T174 (mkF m 123 #[iv p1, iv p2, iv p3, iv p4, rv b1, iv 3, iv ((p4 &&& (2147483647 : Int32)) % (5 : Int32)), rv b153, iv 0] [(.int 0)]) st174 ?_
    refine own_s T174 (mkF m 133 #[iv p1, iv p2, iv p3, iv p4, rv b1, iv 3, iv ((p4 &&& (2147483647 : Int32)) % (5 : Int32)), rv b153, iv 0] [(.int 1)]) (fun _ k => XS.iload X174.here hx rfl (hb hby at_123) rfl  (XS.icmpNo X174.here hx rfl (hb hby at_125) rfl (teq (by decide : ((0 : Int32) = (0 : Int32)))).2 (XS.iconst X174.here hx rfl (hb hby at_128) (XS.goto X174.here hx rfl (pc0 := 129) (pc' := 133) rfl (hb hby at_129) (by decide) (by decide) k)))) ?_
    exact own_finZ X174 hx (t := .boolean) hret (by simp) (z' := (1 : Int32)) rfl (hb hby at_133) (own_end (Qv := (own_Q0 Z p1 p2 p3 p4 gC wS tb kt h0 n0)) X174 (own_some hret) hlk (by decide) (by decide) e174 ⟨rfl, N174⟩)
set_option maxRecDepth 65536 in
set_option maxHeartbeats 40000000 in
theorem comes_1 {Post : Tables → Env → Array Value → State → Outcome → State → Prop} (hpost : ∀ tb e args s v u, (limb_1_1.after args s (.returned v) u = true ∧ limb_1_2.after args s (.returned v) u = true ∧ True) → FrameEnd s (.returned v) u (Jvm.fieldLocs frame_1_writes args s ++ Jvm.arrayLocs frame_1_arrays args s ++ Jvm.staticLocs frame_1_statics s) 16 128 → Post tb e args s (.returned v) u) :
    ArmFor flags0 classFile x code maxLocals ret World_1 tables_1 room_1 Calls_1 rest_1 Pre_1 Post := by
  intro l hfl _ _ p e ha hc hk s m args below hf hA hF happ hP
  obtain ⟨hcalls, hrest, hpre⟩ := hP
  obtain ⟨-, -, -, hnamed, -, -, -, hat⟩ := (Spec.applies_iff hf).mp happ
  obtain ⟨hg, hn⟩ := and_e (Cond.before_iff.mp (show (Jvm.Cond.and given_1 narrow_1).before args s = true from hpre))
  obtain ⟨g1, g2⟩ := and_e hg
  obtain ⟨g3, g4⟩ := and_e g2
  obtain ⟨g5, g6⟩ := and_e g4
  obtain ⟨g7, g8⟩ := and_e g6
  obtain ⟨w0, w1, w2, w3, rfl⟩ : ∃ w0 w1 w2 w3 : Value, args = #[w0, w1, w2, w3] := by
    have hs : args.size = 4 := by simpa [Cond.value, given_1] using g1
    obtain ⟨L⟩ := args
    match L, hs with
    | [w0, w1, w2, w3], _ => exact ⟨w0, w1, w2, w3, rfl⟩
  have hw := fun d (hd : d ∈ tables_1) => atoms_spec (ws := Jvm.Cond.code x code maxLocals ret :: tables_1) hat d (List.mem_cons_of_mem _ hd)
  have hfit : Fit s := fun {y c} hc i hi => by
    obtain ⟨ha, rfl⟩ := Array.getElem?_eq_some_iff.mp hc
    have q := List.all_eq_true.mp ((Array.all_eq_true_iff_forall_mem.mp hF) _ (Array.getElem_mem ha)) i (List.mem_range.mpr hi)
    simpa [Array.getElem?_eq_getElem hi] using q
  obtain ⟨hsets, hown0⟩ := atoms_of _ (rest_1_c_eq ▸ (show rest_1_c.before _ s = true from hrest))
  have hr0 := Cond.before_iff.mp hown0
  obtain ⟨i0, ei0⟩ := is_v g3
  obtain rfl : w0 = (.int i0) := Option.some.inj ei0
  obtain ⟨i1, ei1⟩ := is_v g5
  obtain rfl : w1 = (.int i1) := Option.some.inj ei1
  obtain ⟨i2, ei2⟩ := is_v g7
  obtain rfl : w2 = (.int i2) := Option.some.inj ei2
  obtain ⟨i3, ei3⟩ := is_v g8
  obtain rfl : w3 = (.int i3) := Option.some.inj ei3
  obtain ⟨nA, hn⟩ := and_e hn
  obtain ⟨nL, hn⟩ := and_e hn
  obtain ⟨nT0, hn⟩ := and_e hn
  obtain ⟨nT1, hn⟩ := and_e hn
  obtain ⟨nT2, hn⟩ := and_e hn
  obtain ⟨nT3, hn⟩ := and_e hn
  obtain ⟨nT4, hn⟩ := and_e hn
  obtain ⟨nT5, hn⟩ := and_e hn
  have nT6 := hn
  obtain ⟨tb, evT⟩ := arr_v nA
  have ST := Sta.start evT (Or.inr ⟨(own_h hw 34 rfl), (own_h hw 60 rfl)⟩)
  obtain ⟨cT, RT⟩ := Arr.start evT nA
  obtain ⟨lz, ls⟩ := own_lenAt nL evT RT
  have hat := Arr.fin (U := s) (Vm.Alike.refl _) RT
  have sz : cT.slots.size = 128 := by
    have q : cT.slots.size.toInt32.toInt = 128 := by rw [ls]; rfl
    have q2 : cT.slots.size.toInt32.toInt = cT.slots.size := len_toInt lz
    omega
  have AT := own_tabStart RT lz ls (fun i hi => by
    have hi' : i < cT.slots.size := by rw [sz]; exact hi
    have ht : (Jvm.Term.static "com/example/gazetteer/gazetteer/model/Locations" "HEX_DIGIT" "[Z").eval #[.int i0, .int i1, .int i2, .int i3] s none [i] s = some (.ref tb) := evT
    unfold own_hn
    split
    · exact own_elemX (own_orR (own_all nT0 evT hat i hi') (own_gr hi (by show (i : Int) < 48; omega))) ht RT.1 hi
    · split
      · exact own_elemX (own_orR (own_orR (own_all nT1 evT hat i hi') (own_gl hi (by show ¬ (i : Int) < 48; omega))) (own_gr hi (by show (i : Int) < 58; omega))) ht RT.1 hi
      · split
        · exact own_elemX (own_orR (own_orR (own_all nT2 evT hat i hi') (own_gl hi (by show ¬ (i : Int) < 58; omega))) (own_gr hi (by show (i : Int) < 65; omega))) ht RT.1 hi
        · split
          · exact own_elemX (own_orR (own_orR (own_all nT3 evT hat i hi') (own_gl hi (by show ¬ (i : Int) < 65; omega))) (own_gr hi (by show (i : Int) < 71; omega))) ht RT.1 hi
          · split
            · exact own_elemX (own_orR (own_orR (own_all nT4 evT hat i hi') (own_gl hi (by show ¬ (i : Int) < 71; omega))) (own_gr hi (by show (i : Int) < 97; omega))) ht RT.1 hi
            · split
              · exact own_elemX (own_orR (own_orR (own_all nT5 evT hat i hi') (own_gl hi (by show ¬ (i : Int) < 97; omega))) (own_gr hi (by show (i : Int) < 103; omega))) ht RT.1 hi
              · exact own_elemX (own_orR (own_all nT6 evT hat i hi') (own_gl hi (by show ¬ (i : Int) < 103; omega))) ht RT.1 hi)
  obtain ⟨gC, SC, eG⟩ := own_staI (Cond.before_iff.mp (hsets _ (List.mem_of_getElem? (i := 1) rfl))) (hsets _ (List.mem_of_getElem? (i := 0) rfl))
  have hG := own_not0 eG (Cond.before_iff.mp (hsets _ (List.mem_of_getElem? (i := 2) rfl)))
  obtain ⟨wS, SW, rwS⟩ := own_staR (Cond.before_iff.mp (hsets _ (List.mem_of_getElem? (i := 8) rfl))) (hsets _ (List.mem_of_getElem? (i := 7) rfl))
  have SA := own_staEq (Cond.before_iff.mp (hsets _ (List.mem_of_getElem? (i := 12) rfl))) (hsets _ (List.mem_of_getElem? (i := 11) rfl))
  have SI := own_staEq (Cond.before_iff.mp (hsets _ (List.mem_of_getElem? (i := 15) rfl))) (hsets _ (List.mem_of_getElem? (i := 14) rfl))
  have SL := own_staEq (Cond.before_iff.mp (hsets _ (List.mem_of_getElem? (i := 18) rfl))) (hsets _ (List.mem_of_getElem? (i := 17) rfl))
  obtain ⟨n, o, h1, h2, h3, _, L, rfl, ⟨rfl, N⟩, hq⟩ := own_rm0 l s _ hw tables_1 i0 i1 i2 i3 gC wS tb cT.cls s.heap s.heap.size (Nat.le_refl _) SC SW SA SI SL ST AT hG rwS p e ha hc hk s m _ below hf ((Spec.applies_iff_loose hf).mp happ).1 ⟨rfl, State.Warmed39.refl s, rfl⟩ trivial
  refine ⟨n, _, h1, h2, h3, hpost _ _ _ _ _ _ ⟨Cond.after_iff.mpr rfl, Cond.after_iff.mpr (eq_i res_at (Term.int_eval (1)) rfl), trivial⟩ ⟨hq.1, hq.2.1, (hq.2.2.sift fun y hy => Or.inr (N y hy)).mono (by decide) (by decide)⟩⟩
theorem main_1_1 : Claimed_1_1 := comes_1 fun _ _ _ _ _ _ h hF => ⟨h.1, hF⟩
theorem main_1_2 : Claimed_1_2 := comes_1 fun _ _ _ _ _ _ h hF => ⟨h.2.1, hF⟩
end Jvm.Pilot.@@N@@
namespace Jvm.Pilot.@@N@@
open Jvm Jvm.ClassFile Sem Op Lib Jvm.Free Jvm.Stand Jvm.Pilot.@@N@@.Jvm.D
/-! MADE BY PROGRAM (witnessworld.py) out of the Statement's table words and the real class files: 22 classes; the members and pool entries that the words name. The judged class is class 1, her method 1. -/
namespace start1
open Jvm.ClassFile
def u (s : String) : CpInfo := .utf8 (stringToUtf16 s)
/-- a pool by its gaps: so many unusable entries, then the entry; so many at the end -/
def gap : Nat → List CpInfo → List CpInfo
  | 0, r => r
  | n + 1, r => .unusable :: gap n r
def poolList (es : List (Nat × CpInfo)) (last : Nat) : List CpInfo := es.foldr (fun e r => gap e.1 (e.2 :: r)) (gap last [])
def pool (es : List (Nat × CpInfo)) (last : Nat) : Array CpInfo := ⟨poolList es last⟩
def fileOf (pool : Array CpInfo) (this : Nat) (attrs : Array Attribute := #[]) (ms : Array MethodInfo := #[]) (fl : Nat := 33) (sup : Nat := 0) (ifs : Array Nat := #[]) (fds : Array FieldInfo := #[]) : ClassFile where
  minorVersion := 0
  majorVersion := 65
  constantPool := pool
  accessFlags := fl
  thisClass := this
  superClass := sup
  interfaces := ifs
  fields := fds
  methods := ms
  attributes := attrs
def plain (name : String) (sup : Option ClassId) : Class where
  name := name
  kind := .ordinary
  loader := none
  accessFlags := 33
  super := sup
  interfaces := #[]
  cf := none
  fields := #[]
  methods := #[]
  instanceTypes := #[]
  staticTypes := #[]
  resolved := #[]
  callSites := []
  init := .initialized
  statics := none
  mirror := none

def pool0 : Array CpInfo := pool [(5, u "<init>"), (0, u "()V"), (1, .class_ 10), (1, u "java/lang/Object")] 113

def k0c0 : Code := { maxStack := 0, maxLocals := 1, code := object_method_1_code, exceptionTable := #[], attributes := #[] }
def k0m0 : Method := { name := "<init>", desc := "()V", sig := { parameters := [], returnType := none }, accessFlags := 1, code := some k0c0 }
/-- java/lang/Object -/
def k0 : Class := { plain "java/lang/Object" none with
  accessFlags := 33
  interfaces := #[]
  cf := some (fileOf pool0 8 #[] #[{ accessFlags := 1, nameIndex := 5, descriptorIndex := 6, attributes := #[] }] 33 0 #[] #[])
  fields := #[]
  methods := #[k0m0]
  instanceTypes := #[]
  staticTypes := #[]
  resolved := Array.replicate 124 none
  statics := none }

def pool1 : Array CpInfo := pool [(2, .class_ 4), (1, u "java/lang/Object"), (0, u "<init>"), (0, u "()V"), (0, .integer 65535), (0, .integer 2147483647), (0, .class_ 10), (0, u "java/lang/String"), (0, .methodref 9 12), (0, .nameAndType 5 13), (0, u "([C)V"), (0, .methodref 15 16), (0, .class_ 17), (0, .nameAndType 18 19), (0, u "com/example/gazetteer/gazetteer/model/LocationsIsEscapePinLaw"), (0, u "isHex"), (0, u "(C)Z"), (0, .methodref 21 22), (0, .class_ 23), (0, .nameAndType 24 25), (0, u "com/example/gazetteer/gazetteer/model/Locations"), (0, u "isEscape"), (0, u "(Ljava/lang/String;II)Z"), (2, u "law"), (0, u "(IIII)Z")] 5

def k1m0 : Method := { name := "<init>", desc := "()V", sig := { parameters := [], returnType := none }, accessFlags := 2, code := none }
def k1c1 : Code := { maxStack := 4, maxLocals := 9, code := code, exceptionTable := #[], attributes := #[] }
def k1m1 : Method := { name := "law", desc := "(IIII)Z", sig := { parameters := [.int, .int, .int, .int], returnType := some .boolean }, accessFlags := 9, code := some k1c1 }
def k1c2 : Code := { maxStack := 2, maxLocals := 1, code := method_3_code, exceptionTable := #[], attributes := #[] }
def k1m2 : Method := { name := "isHex", desc := "(C)Z", sig := { parameters := [.char], returnType := some .boolean }, accessFlags := 10, code := some k1c2 }
/-- com/example/gazetteer/gazetteer/model/LocationsIsEscapePinLaw -/
def k1 : Class := { plain "com/example/gazetteer/gazetteer/model/LocationsIsEscapePinLaw" (some 0) with
  accessFlags := 49
  interfaces := #[]
  cf := some (fileOf pool1 15 #[] #[{ accessFlags := 2, nameIndex := 5, descriptorIndex := 6, attributes := #[] }, { accessFlags := 9, nameIndex := 28, descriptorIndex := 29, attributes := #[] }, { accessFlags := 10, nameIndex := 18, descriptorIndex := 19, attributes := #[] }] 49 2 #[] #[])
  fields := #[]
  methods := #[k1m0, k1m1, k1m2]
  instanceTypes := #[]
  staticTypes := #[]
  resolved := Array.replicate 35 none
  statics := none }

def pool2 : Array CpInfo := pool [(1, .class_ 2), (0, u "java/io/Serializable"), (0, .class_ 4), (0, u "java/lang/Object")] 2

/-- java/io/Serializable -/
def k2 : Class := { plain "java/io/Serializable" (some 0) with
  accessFlags := 1537
  interfaces := #[]
  cf := some (fileOf pool2 1 #[] #[] 1537 3 #[] #[])
  fields := #[]
  methods := #[]
  instanceTypes := #[]
  staticTypes := #[]
  resolved := Array.replicate 7 none
  statics := none }

def pool3 : Array CpInfo := pool [(1, .class_ 2), (0, u "java/lang/Comparable"), (0, .class_ 4), (0, u "java/lang/Object")] 7

/-- java/lang/Comparable -/
def k3 : Class := { plain "java/lang/Comparable" (some 0) with
  accessFlags := 1537
  interfaces := #[]
  cf := some (fileOf pool3 1 #[] #[] 1537 3 #[] #[])
  fields := #[]
  methods := #[]
  instanceTypes := #[]
  staticTypes := #[]
  resolved := Array.replicate 12 none
  statics := none }

def pool4 : Array CpInfo := pool [(2, .class_ 4), (1, u "java/lang/CharSequence"), (42, .class_ 48), (0, u "java/lang/CharSequence$1CodePointIterator"), (10, .class_ 60), (0, u "java/lang/CharSequence$1CharIterator"), (5, .class_ 67), (0, u "java/lang/Object")] 63

/-- java/lang/CharSequence -/
def k4 : Class := { plain "java/lang/CharSequence" (some 0) with
  accessFlags := 1537
  interfaces := #[]
  cf := some (fileOf pool4 2 #[.nestMembers #[47, 59]] #[] 1537 66 #[] #[])
  fields := #[]
  methods := #[]
  instanceTypes := #[]
  staticTypes := #[]
  resolved := Array.replicate 131 none
  statics := none }

def pool5 : Array CpInfo := pool [(1, .class_ 2), (0, u "java/lang/constant/Constable"), (0, .class_ 4), (0, u "java/lang/Object")] 6

/-- java/lang/constant/Constable -/
def k5 : Class := { plain "java/lang/constant/Constable" (some 0) with
  accessFlags := 1537
  interfaces := #[]
  cf := some (fileOf pool5 1 #[] #[] 1537 3 #[] #[])
  fields := #[]
  methods := #[]
  instanceTypes := #[]
  staticTypes := #[]
  resolved := Array.replicate 11 none
  statics := none }

def pool6 : Array CpInfo := pool [(1, .class_ 2), (0, u "java/lang/constant/ConstantDesc"), (0, .class_ 4), (0, u "java/lang/Object")] 32

/-- java/lang/constant/ConstantDesc -/
def k6 : Class := { plain "java/lang/constant/ConstantDesc" (some 0) with
  accessFlags := 1537
  interfaces := #[]
  cf := some (fileOf pool6 1 #[] #[] 1537 3 #[] #[])
  fields := #[]
  methods := #[]
  instanceTypes := #[]
  staticTypes := #[]
  resolved := Array.replicate 37 none
  statics := none }

def pool7 : Array CpInfo := pool [(1, .methodref 2 3), (0, .class_ 4), (0, .nameAndType 5 6), (0, u "java/lang/Object"), (0, u "<init>"), (0, u "()V"), (2, .fieldref 10 11), (0, .class_ 12), (0, .nameAndType 13 14), (0, u "java/lang/String"), (0, u "value"), (0, u "[B"), (0, .fieldref 10 16), (0, .nameAndType 17 18), (0, u "coder"), (0, u "B"), (2, u "hash"), (0, u "I"), (2, u "hashIsZero"), (0, u "Z"), (0, .methodref 10 28), (0, .nameAndType 5 29), (0, u "([CIILjava/lang/Void;)V"), (8, .fieldref 10 39), (0, .nameAndType 40 26), (0, u "COMPACT_STRINGS"), (1, .class_ 44), (1, u "java/lang/StringUTF16"), (0, u "compress"), (1, .methodref 42 48), (0, .nameAndType 49 50), (0, u "coderFromArrayLen"), (0, u "([BI)B"), (56, .class_ 109), (1, u "java/lang/StringLatin1"), (32, u "()Z"), (34, .methodref 42 178), (0, .nameAndType 45 179), (0, u "([CII)[B"), (183, u "([BI)C"), (27, u "(II)V"), (35, u "(I)C"), (64, .methodref 10 493), (0, .nameAndType 494 142), (0, u "isLatin1"), (0, .methodref 107 496), (0, .nameAndType 497 363), (0, u "charAt"), (0, .methodref 42 496), (2, u "checkIndex"), (73, .class_ 576), (0, u "java/lang/CharSequence"), (22, u "CASE_INSENSITIVE_ORDER"), (0, u "Ljava/util/Comparator;"), (409, u "([C)V"), (42, .fieldref 1054 1055), (0, .class_ 1056), (0, .nameAndType 1057 1058), (0, u "jdk/internal/util/Preconditions"), (0, u "SIOOBE_FORMATTER"), (0, u "Ljava/util/function/BiFunction;"), (0, .methodref 1054 1060), (0, .nameAndType 501 1061), (0, u "(IILjava/util/function/BiFunction;)I"), (39, u "serialPersistentFields"), (0, u "[Ljava/io/ObjectStreamField;"), (0, .class_ 1104), (0, u "java/lang/String$CaseInsensitiveComparator"), (1, .class_ 1107), (0, u "java/io/Serializable"), (0, .class_ 1109), (0, u "java/lang/Comparable"), (0, .class_ 1111), (0, u "java/lang/constant/Constable"), (0, .class_ 1113), (0, u "java/lang/constant/ConstantDesc"), (2, u "serialVersionUID"), (0, u "J"), (3, u "REPL"), (0, u "C"), (2, u "LATIN1"), (1, u "UTF16")] 323

def k7m0 : Method := { name := "<init>", desc := "()V", sig := { parameters := [], returnType := none }, accessFlags := 1, code := none }
def k7c1 : Code := { maxStack := 5, maxLocals := 2, code := jdk_42_method_3_code, exceptionTable := #[], attributes := #[] }
def k7m1 : Method := { name := "<init>", desc := "([C)V", sig := { parameters := [(.array .char)], returnType := none }, accessFlags := 1, code := some k7c1 }
def k7c2 : Code := { maxStack := 2, maxLocals := 2, code := jdk_42_method_56_code, exceptionTable := #[], attributes := #[] }
def k7m2 : Method := { name := "charAt", desc := "(I)C", sig := { parameters := [.int], returnType := some .char }, accessFlags := 1, code := some k7c2 }
def k7c3 : Code := { maxStack := 4, maxLocals := 6, code := jdk_42_method_149_code, exceptionTable := #[], attributes := #[] }
def k7m3 : Method := { name := "<init>", desc := "([CIILjava/lang/Void;)V", sig := { parameters := [(.array .char), .int, .int, (.object "java/lang/Void")], returnType := none }, accessFlags := 2, code := some k7c3 }
def k7c4 : Code := { maxStack := 1, maxLocals := 1, code := jdk_42_method_154_code, exceptionTable := #[], attributes := #[] }
def k7m4 : Method := { name := "isLatin1", desc := "()Z", sig := { parameters := [], returnType := some .boolean }, accessFlags := 0, code := some k7c4 }
def k7c5 : Code := { maxStack := 3, maxLocals := 2, code := jdk_42_method_155_code, exceptionTable := #[], attributes := #[] }
def k7m5 : Method := { name := "checkIndex", desc := "(II)V", sig := { parameters := [.int, .int], returnType := none }, accessFlags := 8, code := some k7c5 }
/-- java/lang/String -/
def k7 : Class := { plain "java/lang/String" (some 0) with
  accessFlags := 49
  interfaces := #[2, 3, 4, 5, 6]
  cf := some (fileOf pool7 10 #[.nestMembers #[1103]] #[{ accessFlags := 1, nameIndex := 5, descriptorIndex := 6, attributes := #[] }, { accessFlags := 1, nameIndex := 5, descriptorIndex := 1010, attributes := #[] }, { accessFlags := 1, nameIndex := 497, descriptorIndex := 427, attributes := #[] }, { accessFlags := 2, nameIndex := 5, descriptorIndex := 29, attributes := #[] }, { accessFlags := 0, nameIndex := 494, descriptorIndex := 142, attributes := #[] }, { accessFlags := 8, nameIndex := 501, descriptorIndex := 391, attributes := #[] }] 49 2 #[1106, 1108, 575, 1110, 1112] #[{ accessFlags := 18, nameIndex := 13, descriptorIndex := 14, attributes := #[] }, { accessFlags := 18, nameIndex := 17, descriptorIndex := 18, attributes := #[] }, { accessFlags := 2, nameIndex := 21, descriptorIndex := 22, attributes := #[] }, { accessFlags := 2, nameIndex := 25, descriptorIndex := 26, attributes := #[] }, { accessFlags := 26, nameIndex := 1116, descriptorIndex := 1117, attributes := #[] }, { accessFlags := 24, nameIndex := 40, descriptorIndex := 26, attributes := #[] }, { accessFlags := 26, nameIndex := 1101, descriptorIndex := 1102, attributes := #[] }, { accessFlags := 26, nameIndex := 1121, descriptorIndex := 1122, attributes := #[] }, { accessFlags := 25, nameIndex := 599, descriptorIndex := 600, attributes := #[] }, { accessFlags := 24, nameIndex := 1125, descriptorIndex := 18, attributes := #[] }, { accessFlags := 24, nameIndex := 1127, descriptorIndex := 18, attributes := #[] }])
  fields := #[{ name := "value", type := (.array .byte), accessFlags := 18, slot := 0, constantValue := 0 }, { name := "coder", type := .byte, accessFlags := 18, slot := 1, constantValue := 0 }, { name := "hash", type := .int, accessFlags := 2, slot := 2, constantValue := 0 }, { name := "hashIsZero", type := .boolean, accessFlags := 2, slot := 3, constantValue := 0 }, { name := "serialVersionUID", type := .long, accessFlags := 26, slot := 0, constantValue := 0 }, { name := "COMPACT_STRINGS", type := .boolean, accessFlags := 24, slot := 1, constantValue := 0 }, { name := "serialPersistentFields", type := (.array (.object "java/io/ObjectStreamField")), accessFlags := 26, slot := 2, constantValue := 0 }, { name := "REPL", type := .char, accessFlags := 26, slot := 3, constantValue := 0 }, { name := "CASE_INSENSITIVE_ORDER", type := (.object "java/util/Comparator"), accessFlags := 25, slot := 4, constantValue := 0 }, { name := "LATIN1", type := .byte, accessFlags := 24, slot := 5, constantValue := 0 }, { name := "UTF16", type := .byte, accessFlags := 24, slot := 6, constantValue := 0 }]
  methods := #[k7m0, k7m1, k7m2, k7m3, k7m4, k7m5]
  instanceTypes := #[(.array .byte), .byte, .int, .boolean]
  staticTypes := #[.long, .boolean, (.array (.object "java/io/ObjectStreamField")), .char, (.object "java/util/Comparator"), .byte, .byte]
  resolved := Array.replicate 1451 none
  statics := some 0 }

def pool8 : Array CpInfo := pool [(3, .class_ 4), (0, u "java/lang/String"), (1, .class_ 8), (1, u "java/lang/Object"), (0, u "<init>"), (0, u "()V"), (0, .methodref 12 13), (0, .class_ 14), (0, .nameAndType 15 16), (0, u "java/lang/StringUTF16"), (0, u "newBytesLength"), (0, u "(I)I"), (3, .integer 1073741823), (23, .fieldref 12 45), (0, .nameAndType 46 47), (0, u "$assertionsDisabled"), (0, u "Z"), (0, .methodref 12 49), (0, .nameAndType 50 51), (0, u "length"), (0, u "([B)I"), (7, .fieldref 12 60), (0, .nameAndType 61 62), (0, u "HI_BYTE_SHIFT"), (0, u "I"), (0, .fieldref 12 64), (0, .nameAndType 65 62), (0, u "LO_BYTE_SHIFT"), (1, .methodref 12 68), (0, .nameAndType 69 70), (0, u "checkIndex"), (0, u "(I[B)V"), (0, .methodref 12 72), (0, .nameAndType 73 74), (0, u "getChar"), (0, u "([BI)C"), (32, .methodref 12 108), (0, .nameAndType 109 110), (0, u "newBytesFor"), (0, u "(I)[B"), (0, .methodref 12 112), (0, .nameAndType 113 114), (0, u "putChar"), (0, u "([BII)V"), (0, .methodref 12 116), (0, .nameAndType 117 118), (0, u "compress"), (0, u "([CI[BII)I"), (0, .methodref 12 120), (0, .nameAndType 121 122), (0, u "toBytes"), (0, u "([CII)[B"), (138, u "coderFromArrayLen"), (0, u "([BI)B"), (106, .class_ 371), (1, u "java/lang/StringUTF16$LinesSpliterator"), (20, u "charAt"), (21, .methodref 3 415), (0, .nameAndType 69 416), (0, u "(II)V"), (13, u "MAX_LENGTH"), (196, .class_ 628), (0, u "java/lang/StringUTF16$CodePointsSpliterator"), (0, .class_ 630), (0, u "java/lang/StringUTF16$CharsSpliterator")] 4

def k8m0 : Method := { name := "<init>", desc := "()V", sig := { parameters := [], returnType := none }, accessFlags := 0, code := none }
def k8c1 : Code := { maxStack := 1, maxLocals := 1, code := jdk_52_method_2_code, exceptionTable := #[], attributes := #[] }
def k8m1 : Method := { name := "newBytesFor", desc := "(I)[B", sig := { parameters := [.int], returnType := some (.array .byte) }, accessFlags := 9, code := some k8c1 }
def k8c2 : Code := { maxStack := 4, maxLocals := 1, code := jdk_52_method_3_code, exceptionTable := #[], attributes := #[] }
def k8m2 : Method := { name := "newBytesLength", desc := "(I)I", sig := { parameters := [.int], returnType := some .int }, accessFlags := 9, code := some k8c2 }
def k8c3 : Code := { maxStack := 4, maxLocals := 3, code := jdk_52_method_4_code, exceptionTable := #[], attributes := #[] }
def k8m3 : Method := { name := "putChar", desc := "([BII)V", sig := { parameters := [(.array .byte), .int, .int], returnType := none }, accessFlags := 8, code := some k8c3 }
def k8c4 : Code := { maxStack := 3, maxLocals := 2, code := jdk_52_method_5_code, exceptionTable := #[], attributes := #[] }
def k8m4 : Method := { name := "getChar", desc := "([BI)C", sig := { parameters := [(.array .byte), .int], returnType := some .char }, accessFlags := 8, code := some k8c4 }
def k8c5 : Code := { maxStack := 2, maxLocals := 1, code := jdk_52_method_6_code, exceptionTable := #[], attributes := #[] }
def k8m5 : Method := { name := "length", desc := "([B)I", sig := { parameters := [(.array .byte)], returnType := some .int }, accessFlags := 9, code := some k8c5 }
def k8c6 : Code := { maxStack := 4, maxLocals := 5, code := jdk_52_method_14_code, exceptionTable := #[], attributes := #[] }
def k8m6 : Method := { name := "toBytes", desc := "([CII)[B", sig := { parameters := [(.array .char), .int, .int], returnType := some (.array .byte) }, accessFlags := 9, code := some k8c6 }
def k8c7 : Code := { maxStack := 2, maxLocals := 2, code := jdk_52_method_15_code, exceptionTable := #[], attributes := #[] }
def k8m7 : Method := { name := "coderFromArrayLen", desc := "([BI)B", sig := { parameters := [(.array .byte), .int], returnType := some .byte }, accessFlags := 8, code := some k8c7 }
def k8c8 : Code := { maxStack := 5, maxLocals := 6, code := jdk_52_method_16_code, exceptionTable := #[], attributes := #[] }
def k8m8 : Method := { name := "compress", desc := "([CII)[B", sig := { parameters := [(.array .char), .int, .int], returnType := some (.array .byte) }, accessFlags := 9, code := some k8c8 }
def k8c9 : Code := { maxStack := 3, maxLocals := 7, code := jdk_52_method_21_code, exceptionTable := #[], attributes := #[] }
def k8m9 : Method := { name := "compress", desc := "([CI[BII)I", sig := { parameters := [(.array .char), .int, (.array .byte), .int, .int], returnType := some .int }, accessFlags := 9, code := some k8c9 }
def k8c10 : Code := { maxStack := 2, maxLocals := 2, code := jdk_52_method_83_code, exceptionTable := #[], attributes := #[] }
def k8m10 : Method := { name := "charAt", desc := "([BI)C", sig := { parameters := [(.array .byte), .int], returnType := some .char }, accessFlags := 9, code := some k8c10 }
def k8c11 : Code := { maxStack := 2, maxLocals := 2, code := jdk_52_method_91_code, exceptionTable := #[], attributes := #[] }
def k8m11 : Method := { name := "checkIndex", desc := "(I[B)V", sig := { parameters := [.int, (.array .byte)], returnType := none }, accessFlags := 9, code := some k8c11 }
/-- java/lang/StringUTF16 -/
def k8 : Class := { plain "java/lang/StringUTF16" (some 0) with
  accessFlags := 48
  interfaces := #[]
  cf := some (fileOf pool8 12 #[.nestMembers #[627, 629, 369]] #[{ accessFlags := 0, nameIndex := 9, descriptorIndex := 10, attributes := #[] }, { accessFlags := 9, nameIndex := 109, descriptorIndex := 110, attributes := #[] }, { accessFlags := 9, nameIndex := 15, descriptorIndex := 16, attributes := #[] }, { accessFlags := 8, nameIndex := 113, descriptorIndex := 114, attributes := #[] }, { accessFlags := 8, nameIndex := 73, descriptorIndex := 74, attributes := #[] }, { accessFlags := 9, nameIndex := 50, descriptorIndex := 51, attributes := #[] }, { accessFlags := 9, nameIndex := 121, descriptorIndex := 122, attributes := #[] }, { accessFlags := 8, nameIndex := 261, descriptorIndex := 262, attributes := #[] }, { accessFlags := 9, nameIndex := 117, descriptorIndex := 122, attributes := #[] }, { accessFlags := 9, nameIndex := 117, descriptorIndex := 118, attributes := #[] }, { accessFlags := 9, nameIndex := 392, descriptorIndex := 74, attributes := #[] }, { accessFlags := 9, nameIndex := 69, descriptorIndex := 70, attributes := #[] }] 48 6 #[] #[{ accessFlags := 26, nameIndex := 61, descriptorIndex := 62, attributes := #[] }, { accessFlags := 26, nameIndex := 65, descriptorIndex := 62, attributes := #[] }, { accessFlags := 24, nameIndex := 430, descriptorIndex := 62, attributes := #[] }, { accessFlags := 4120, nameIndex := 46, descriptorIndex := 47, attributes := #[] }])
  fields := #[{ name := "HI_BYTE_SHIFT", type := .int, accessFlags := 26, slot := 0, constantValue := 0 }, { name := "LO_BYTE_SHIFT", type := .int, accessFlags := 26, slot := 1, constantValue := 0 }, { name := "MAX_LENGTH", type := .int, accessFlags := 24, slot := 2, constantValue := 0 }, { name := "$assertionsDisabled", type := .boolean, accessFlags := 4120, slot := 3, constantValue := 0 }]
  methods := #[k8m0, k8m1, k8m2, k8m3, k8m4, k8m5, k8m6, k8m7, k8m8, k8m9, k8m10, k8m11]
  instanceTypes := #[]
  staticTypes := #[.int, .int, .int, .boolean]
  resolved := Array.replicate 635 none
  statics := some 1 }

def pool9 : Array CpInfo := pool [(2, .class_ 4), (1, u "java/lang/Object"), (0, u "<init>"), (0, u "()V"), (1, .class_ 10), (1, u "com/example/gazetteer/gazetteer/model/Locations"), (3, .class_ 16), (1, u "java/lang/String"), (82, .methodref 14 100), (0, .nameAndType 101 102), (0, u "charAt"), (0, u "(I)C"), (2, u "NOT_IN_URI"), (0, u "[Z"), (2, u "isEscape"), (0, u "(Ljava/lang/String;II)Z"), (5, .class_ 118), (1, u "com/example/gazetteer/gazetteer/model/Locations$UrlFault"), (23, u "IN_PATH"), (11, .class_ 155), (0, u "com/example/gazetteer/gazetteer/model/Locations$UrlParts"), (26, u "IN_USER"), (11, u "IN_HOST"), (5, .fieldref 8 201), (0, .nameAndType 202 106), (0, u "HEX_DIGIT"), (0, .methodref 8 204), (0, .nameAndType 205 206), (0, u "holdsOnly"), (0, u "(Ljava/lang/String;II[Z)Z"), (2, u "IN_IPV6"), (2, u "DIGIT"), (36, u "HEX_DIGITS"), (0, u "Ljava/lang/String;"), (1, u "UNRESERVED_AND_SUB_DELIMS"), (0, u "MAX_PORT"), (0, u "I")] 31

def k9m0 : Method := { name := "<init>", desc := "()V", sig := { parameters := [], returnType := none }, accessFlags := 2, code := none }
def k9c1 : Code := { maxStack := 2, maxLocals := 6, code := prog_59_method_20_code, exceptionTable := #[], attributes := #[] }
def k9m1 : Method := { name := "holdsOnly", desc := "(Ljava/lang/String;II[Z)Z", sig := { parameters := [(.object "java/lang/String"), .int, .int, (.array .boolean)], returnType := some .boolean }, accessFlags := 10, code := some k9c1 }
def k9c2 : Code := { maxStack := 4, maxLocals := 3, code := prog_59_method_23_code, exceptionTable := #[], attributes := #[] }
def k9m2 : Method := { name := "isEscape", desc := "(Ljava/lang/String;II)Z", sig := { parameters := [(.object "java/lang/String"), .int, .int], returnType := some .boolean }, accessFlags := 8, code := some k9c2 }
/-- com/example/gazetteer/gazetteer/model/Locations -/
def k9 : Class := { plain "com/example/gazetteer/gazetteer/model/Locations" (some 0) with
  accessFlags := 49
  interfaces := #[]
  cf := some (fileOf pool9 8 #[.nestMembers #[154, 116]] #[{ accessFlags := 2, nameIndex := 5, descriptorIndex := 6, attributes := #[] }, { accessFlags := 10, nameIndex := 205, descriptorIndex := 206, attributes := #[] }, { accessFlags := 8, nameIndex := 109, descriptorIndex := 110, attributes := #[] }] 49 2 #[] #[{ accessFlags := 26, nameIndex := 249, descriptorIndex := 250, attributes := #[] }, { accessFlags := 26, nameIndex := 252, descriptorIndex := 250, attributes := #[] }, { accessFlags := 26, nameIndex := 105, descriptorIndex := 106, attributes := #[] }, { accessFlags := 26, nameIndex := 194, descriptorIndex := 106, attributes := #[] }, { accessFlags := 26, nameIndex := 182, descriptorIndex := 106, attributes := #[] }, { accessFlags := 26, nameIndex := 142, descriptorIndex := 106, attributes := #[] }, { accessFlags := 26, nameIndex := 212, descriptorIndex := 106, attributes := #[] }, { accessFlags := 26, nameIndex := 202, descriptorIndex := 106, attributes := #[] }, { accessFlags := 26, nameIndex := 209, descriptorIndex := 106, attributes := #[] }, { accessFlags := 26, nameIndex := 253, descriptorIndex := 254, attributes := #[] }])
  fields := #[{ name := "HEX_DIGITS", type := (.object "java/lang/String"), accessFlags := 26, slot := 0, constantValue := 0 }, { name := "UNRESERVED_AND_SUB_DELIMS", type := (.object "java/lang/String"), accessFlags := 26, slot := 1, constantValue := 0 }, { name := "NOT_IN_URI", type := (.array .boolean), accessFlags := 26, slot := 2, constantValue := 0 }, { name := "IN_HOST", type := (.array .boolean), accessFlags := 26, slot := 3, constantValue := 0 }, { name := "IN_USER", type := (.array .boolean), accessFlags := 26, slot := 4, constantValue := 0 }, { name := "IN_PATH", type := (.array .boolean), accessFlags := 26, slot := 5, constantValue := 0 }, { name := "DIGIT", type := (.array .boolean), accessFlags := 26, slot := 6, constantValue := 0 }, { name := "HEX_DIGIT", type := (.array .boolean), accessFlags := 26, slot := 7, constantValue := 0 }, { name := "IN_IPV6", type := (.array .boolean), accessFlags := 26, slot := 8, constantValue := 0 }, { name := "MAX_PORT", type := .int, accessFlags := 26, slot := 9, constantValue := 0 }]
  methods := #[k9m0, k9m1, k9m2]
  instanceTypes := #[]
  staticTypes := #[(.object "java/lang/String"), (.object "java/lang/String"), (.array .boolean), (.array .boolean), (.array .boolean), (.array .boolean), (.array .boolean), (.array .boolean), (.array .boolean), .int]
  resolved := Array.replicate 286 none
  statics := some 2 }

def pool10 : Array CpInfo := pool [(2, .class_ 4), (1, u "java/lang/Object"), (0, u "<init>"), (0, u "()V"), (17, .class_ 26), (1, u "jdk/internal/util/Preconditions"), (6, u "checkIndex"), (21, .class_ 56), (0, u "jdk/internal/util/Preconditions$4"), (57, .class_ 115), (0, u "jdk/internal/util/Preconditions$1"), (7, u "SIOOBE_FORMATTER"), (0, u "Ljava/util/function/BiFunction;"), (0, .class_ 126), (0, u "jdk/internal/util/Preconditions$2"), (3, u "AIOOBE_FORMATTER"), (0, .class_ 132), (0, u "jdk/internal/util/Preconditions$3"), (3, u "IOOBE_FORMATTER"), (41, u "(IILjava/util/function/BiFunction;)I")] 15

def k10m0 : Method := { name := "<init>", desc := "()V", sig := { parameters := [], returnType := none }, accessFlags := 1, code := none }
def k10c1 : Code := { maxStack := 3, maxLocals := 3, code := jdk_41_method_11_code, exceptionTable := #[], attributes := #[] }
def k10m1 : Method := { name := "checkIndex", desc := "(IILjava/util/function/BiFunction;)I", sig := { parameters := [.int, .int, (.object "java/util/function/BiFunction")], returnType := some .int }, accessFlags := 9, code := some k10c1 }
/-- jdk/internal/util/Preconditions -/
def k10 : Class := { plain "jdk/internal/util/Preconditions" (some 0) with
  accessFlags := 33
  interfaces := #[]
  cf := some (fileOf pool10 24 #[.nestMembers #[55, 131, 125, 114]] #[{ accessFlags := 1, nameIndex := 5, descriptorIndex := 6, attributes := #[] }, { accessFlags := 9, nameIndex := 33, descriptorIndex := 178, attributes := #[] }] 33 2 #[] #[{ accessFlags := 25, nameIndex := 123, descriptorIndex := 124, attributes := #[] }, { accessFlags := 25, nameIndex := 130, descriptorIndex := 124, attributes := #[] }, { accessFlags := 25, nameIndex := 136, descriptorIndex := 124, attributes := #[] }])
  fields := #[{ name := "SIOOBE_FORMATTER", type := (.object "java/util/function/BiFunction"), accessFlags := 25, slot := 0, constantValue := 0 }, { name := "AIOOBE_FORMATTER", type := (.object "java/util/function/BiFunction"), accessFlags := 25, slot := 1, constantValue := 0 }, { name := "IOOBE_FORMATTER", type := (.object "java/util/function/BiFunction"), accessFlags := 25, slot := 2, constantValue := 0 }]
  methods := #[k10m0, k10m1]
  instanceTypes := #[]
  staticTypes := #[(.object "java/util/function/BiFunction"), (.object "java/util/function/BiFunction"), (.object "java/util/function/BiFunction")]
  resolved := Array.replicate 194 none
  statics := some 3 }

def pool11 : Array CpInfo := pool [(1, .class_ 2), (0, u "java/lang/String"), (1, .class_ 6), (1, u "java/lang/Object"), (0, u "<init>"), (0, u "()V"), (0, .methodref 1 10), (0, .nameAndType 11 12), (0, u "checkIndex"), (0, u "(II)V"), (1, .class_ 16), (1, u "java/lang/StringLatin1"), (36, u "([BI)C"), (67, u "$assertionsDisabled"), (0, u "Z"), (98, .class_ 223), (1, u "java/lang/StringLatin1$LinesSpliterator"), (28, u "charAt"), (137, .class_ 391), (0, u "java/lang/StringLatin1$CharsSpliterator")] 3

def k11m0 : Method := { name := "<init>", desc := "()V", sig := { parameters := [], returnType := none }, accessFlags := 0, code := none }
def k11c1 : Code := { maxStack := 2, maxLocals := 2, code := jdk_43_method_2_code, exceptionTable := #[], attributes := #[] }
def k11m1 : Method := { name := "charAt", desc := "([BI)C", sig := { parameters := [(.array .byte), .int], returnType := some .char }, accessFlags := 9, code := some k11c1 }
/-- java/lang/StringLatin1 -/
def k11 : Class := { plain "java/lang/StringLatin1" (some 0) with
  accessFlags := 48
  interfaces := #[]
  cf := some (fileOf pool11 14 #[.nestMembers #[390, 221]] #[{ accessFlags := 0, nameIndex := 7, descriptorIndex := 8, attributes := #[] }, { accessFlags := 9, nameIndex := 252, descriptorIndex := 53, attributes := #[] }] 48 4 #[] #[{ accessFlags := 4120, nameIndex := 121, descriptorIndex := 122, attributes := #[] }])
  fields := #[{ name := "$assertionsDisabled", type := .boolean, accessFlags := 4120, slot := 0, constantValue := 0 }]
  methods := #[k11m0, k11m1]
  instanceTypes := #[]
  staticTypes := #[.boolean]
  resolved := Array.replicate 395 none
  statics := none }

def pool12 : Array CpInfo := pool [(9, u "<init>"), (6, .class_ 18), (1, u "java/lang/Object"), (0, u "()V"), (1, .class_ 23), (1, u "jdk/internal/util/ArraysSupport"), (0, u "LOG2_ARRAY_LONG_INDEX_SCALE"), (0, u "I"), (2, u "U"), (0, u "Ljdk/internal/misc/Unsafe;"), (8, u "BIG_ENDIAN"), (0, u "Z"), (8, u "LOG2_BYTE_BIT_SIZE"), (4, u "LOG2_ARRAY_INT_INDEX_SCALE"), (54, u "JLA"), (0, u "Ljdk/internal/access/JavaLangAccess;"), (11, u "LOG2_ARRAY_BOOLEAN_INDEX_SCALE"), (9, u "LOG2_ARRAY_BYTE_INDEX_SCALE"), (5, u "LOG2_ARRAY_CHAR_INDEX_SCALE"), (5, u "LOG2_ARRAY_SHORT_INDEX_SCALE"), (18, u "LOG2_ARRAY_FLOAT_INDEX_SCALE"), (24, u "LOG2_ARRAY_DOUBLE_INDEX_SCALE"), (89, u "T_BOOLEAN"), (2, u "T_CHAR"), (1, u "T_FLOAT"), (1, u "T_DOUBLE"), (1, u "T_BYTE"), (1, u "T_SHORT"), (1, u "T_INT"), (1, u "T_LONG"), (1, u "SOFT_MAX_ARRAY_LENGTH")] 83

def k12m0 : Method := { name := "<init>", desc := "()V", sig := { parameters := [], returnType := none }, accessFlags := 2, code := none }
/-- jdk/internal/util/ArraysSupport -/
def k12 : Class := { plain "jdk/internal/util/ArraysSupport" (some 0) with
  accessFlags := 33
  interfaces := #[]
  cf := some (fileOf pool12 21 #[] #[{ accessFlags := 2, nameIndex := 9, descriptorIndex := 19, attributes := #[] }] 33 16 #[] #[{ accessFlags := 24, nameIndex := 28, descriptorIndex := 29, attributes := #[] }, { accessFlags := 26, nameIndex := 38, descriptorIndex := 39, attributes := #[] }, { accessFlags := 25, nameIndex := 121, descriptorIndex := 25, attributes := #[] }, { accessFlags := 25, nameIndex := 131, descriptorIndex := 25, attributes := #[] }, { accessFlags := 25, nameIndex := 137, descriptorIndex := 25, attributes := #[] }, { accessFlags := 25, nameIndex := 143, descriptorIndex := 25, attributes := #[] }, { accessFlags := 25, nameIndex := 53, descriptorIndex := 25, attributes := #[] }, { accessFlags := 25, nameIndex := 24, descriptorIndex := 25, attributes := #[] }, { accessFlags := 25, nameIndex := 162, descriptorIndex := 25, attributes := #[] }, { accessFlags := 25, nameIndex := 187, descriptorIndex := 25, attributes := #[] }, { accessFlags := 26, nameIndex := 48, descriptorIndex := 25, attributes := #[] }, { accessFlags := 25, nameIndex := 277, descriptorIndex := 25, attributes := #[] }, { accessFlags := 25, nameIndex := 280, descriptorIndex := 25, attributes := #[] }, { accessFlags := 25, nameIndex := 282, descriptorIndex := 25, attributes := #[] }, { accessFlags := 25, nameIndex := 284, descriptorIndex := 25, attributes := #[] }, { accessFlags := 25, nameIndex := 286, descriptorIndex := 25, attributes := #[] }, { accessFlags := 25, nameIndex := 288, descriptorIndex := 25, attributes := #[] }, { accessFlags := 25, nameIndex := 290, descriptorIndex := 25, attributes := #[] }, { accessFlags := 25, nameIndex := 292, descriptorIndex := 25, attributes := #[] }, { accessFlags := 26, nameIndex := 108, descriptorIndex := 109, attributes := #[] }, { accessFlags := 25, nameIndex := 294, descriptorIndex := 25, attributes := #[] }])
  fields := #[{ name := "U", type := (.object "jdk/internal/misc/Unsafe"), accessFlags := 24, slot := 0, constantValue := 0 }, { name := "BIG_ENDIAN", type := .boolean, accessFlags := 26, slot := 1, constantValue := 0 }, { name := "LOG2_ARRAY_BOOLEAN_INDEX_SCALE", type := .int, accessFlags := 25, slot := 2, constantValue := 0 }, { name := "LOG2_ARRAY_BYTE_INDEX_SCALE", type := .int, accessFlags := 25, slot := 3, constantValue := 0 }, { name := "LOG2_ARRAY_CHAR_INDEX_SCALE", type := .int, accessFlags := 25, slot := 4, constantValue := 0 }, { name := "LOG2_ARRAY_SHORT_INDEX_SCALE", type := .int, accessFlags := 25, slot := 5, constantValue := 0 }, { name := "LOG2_ARRAY_INT_INDEX_SCALE", type := .int, accessFlags := 25, slot := 6, constantValue := 0 }, { name := "LOG2_ARRAY_LONG_INDEX_SCALE", type := .int, accessFlags := 25, slot := 7, constantValue := 0 }, { name := "LOG2_ARRAY_FLOAT_INDEX_SCALE", type := .int, accessFlags := 25, slot := 8, constantValue := 0 }, { name := "LOG2_ARRAY_DOUBLE_INDEX_SCALE", type := .int, accessFlags := 25, slot := 9, constantValue := 0 }, { name := "LOG2_BYTE_BIT_SIZE", type := .int, accessFlags := 26, slot := 10, constantValue := 0 }, { name := "T_BOOLEAN", type := .int, accessFlags := 25, slot := 11, constantValue := 0 }, { name := "T_CHAR", type := .int, accessFlags := 25, slot := 12, constantValue := 0 }, { name := "T_FLOAT", type := .int, accessFlags := 25, slot := 13, constantValue := 0 }, { name := "T_DOUBLE", type := .int, accessFlags := 25, slot := 14, constantValue := 0 }, { name := "T_BYTE", type := .int, accessFlags := 25, slot := 15, constantValue := 0 }, { name := "T_SHORT", type := .int, accessFlags := 25, slot := 16, constantValue := 0 }, { name := "T_INT", type := .int, accessFlags := 25, slot := 17, constantValue := 0 }, { name := "T_LONG", type := .int, accessFlags := 25, slot := 18, constantValue := 0 }, { name := "JLA", type := (.object "jdk/internal/access/JavaLangAccess"), accessFlags := 26, slot := 19, constantValue := 0 }, { name := "SOFT_MAX_ARRAY_LENGTH", type := .int, accessFlags := 25, slot := 20, constantValue := 0 }]
  methods := #[k12m0]
  instanceTypes := #[]
  staticTypes := #[(.object "jdk/internal/misc/Unsafe"), .boolean, .int, .int, .int, .int, .int, .int, .int, .int, .int, .int, .int, .int, .int, .int, .int, .int, .int, (.object "jdk/internal/access/JavaLangAccess"), .int]
  resolved := Array.replicate 378 none
  statics := none }

def pool13 : Array CpInfo := pool [(1, u "java/lang/Cloneable"), (0, .class_ 1), (0, u "java/lang/Object"), (0, .class_ 3)] 3

/-- java/lang/Cloneable -/
def k13 : Class := { plain "java/lang/Cloneable" (some 0) with
  accessFlags := 1537
  interfaces := #[]
  cf := some (fileOf pool13 2 #[] #[] 1537 4 #[] #[])
  fields := #[]
  methods := #[]
  instanceTypes := #[]
  staticTypes := #[]
  resolved := Array.replicate 8 none
  statics := none }

/-- the primitive boolean -/
def k14 : Class := { plain "boolean" none with kind := .primitive 'Z', accessFlags := 0x411 }
/-- [Z -/
def k15 : Class := { plain "[Z" (some 0) with kind := .array 14 .boolean, interfaces := #[13, 2], accessFlags := 1041 }

/-- the primitive byte -/
def k16 : Class := { plain "byte" none with kind := .primitive 'B', accessFlags := 0x411 }
/-- [B -/
def k17 : Class := { plain "[B" (some 0) with kind := .array 16 .byte, interfaces := #[13, 2], accessFlags := 1041 }

/-- the primitive char -/
def k18 : Class := { plain "char" none with kind := .primitive 'C', accessFlags := 0x411 }
/-- [C -/
def k19 : Class := { plain "[C" (some 0) with kind := .array 18 .char, interfaces := #[13, 2], accessFlags := 1041 }

/-- the primitive int -/
def k20 : Class := { plain "int" none with kind := .primitive 'I', accessFlags := 0x411 }
/-- [I -/
def k21 : Class := { plain "[I" (some 0) with kind := .array 20 .int, interfaces := #[13, 2], accessFlags := 1041 }

def heap : Heap := #[{ cls := 7, slots := #[.long 0, .int 1, .null, .int 0, .null, .int 0, .int 0], vm := .statics 7 },
  { cls := 8, slots := #[.int 0, .int 8, .int 0, .int 1], vm := .statics 8 },
  { cls := 9, slots := #[.null, .null, .null, .null, .null, .null, .null, .ref 4, .null, .int 0], vm := .statics 9 },
  { cls := 10, slots := #[.null, .null, .null], vm := .statics 10 },
  { cls := 15, slots := #[.int 0, .int 0, .int 0, .int 0, .int 0, .int 0, .int 0, .int 0, .int 0, .int 0, .int 0, .int 0, .int 0, .int 0, .int 0, .int 0, .int 0, .int 0, .int 0, .int 0, .int 0, .int 0, .int 0, .int 0, .int 0, .int 0, .int 0, .int 0, .int 0, .int 0, .int 0, .int 0, .int 0, .int 0, .int 0, .int 0, .int 0, .int 0, .int 0, .int 0, .int 0, .int 0, .int 0, .int 0, .int 0, .int 0, .int 0, .int 0, .int 1, .int 1, .int 1, .int 1, .int 1, .int 1, .int 1, .int 1, .int 1, .int 1, .int 0, .int 0, .int 0, .int 0, .int 0, .int 0, .int 0, .int 1, .int 1, .int 1, .int 1, .int 1, .int 1, .int 0, .int 0, .int 0, .int 0, .int 0, .int 0, .int 0, .int 0, .int 0, .int 0, .int 0, .int 0, .int 0, .int 0, .int 0, .int 0, .int 0, .int 0, .int 0, .int 0, .int 0, .int 0, .int 0, .int 0, .int 0, .int 0, .int 1, .int 1, .int 1, .int 1, .int 1, .int 1, .int 0, .int 0, .int 0, .int 0, .int 0, .int 0, .int 0, .int 0, .int 0, .int 0, .int 0, .int 0, .int 0, .int 0, .int 0, .int 0, .int 0, .int 0, .int 0, .int 0, .int 0, .int 0, .int 0, .int 0, .int 0], vm := .none }]
def classes : Array Class := #[k0, k1, k2, k3, k4, k5, k6, k7, k8, k9, k10, k11, k12, k13, k14, k15, k16, k17, k18, k19, k20, k21]
def interned : List (Array UInt16 × Addr) := []
def slotsUsed : Nat := 152
def theMethod : MethodId := ⟨1, 1⟩
def args0 : Array Value := #[.int 5, .int 6, .int 7, .int 8]
def aboutOver (below : List Frame) : State where
  vm := { classes := classes, interned := interned.toArray }
  heap := heap
  slotsUsed := slotsUsed
  threads := #[{ frames := .invoking theMethod args0 :: below }]
def below0 : List Frame := [.native { method := ⟨0, 0⟩, args := #[] }]
def about1 : State := aboutOver below0
def p0 : Program := .bare "" "" ""
def e0 : Env := launch0.env 0 0 0
theorem w_frames : about1.frames = Frame.invoking theMethod args0 :: below0 := rfl
set_option maxRecDepth 65536 in
theorem w_args : argsFit about1.vm theMethod args0 = true := by decide +kernel
set_option maxRecDepth 65536 in
theorem w_heap : heapFits about1 = true := by decide +kernel
set_option maxRecDepth 65536 in
theorem w_runnable : about1.curStatus? = some .runnable := by decide +kernel
set_option maxRecDepth 65536 in
theorem w_alone : about1.alone = true := by decide +kernel
set_option maxRecDepth 65536 in
theorem w_named : about1.methodNamed? x = some theMethod := by decide +kernel
set_option maxRecDepth 65536 in
theorem w_hears : about1.hears theMethod below0 = true := by decide +kernel
set_option maxRecDepth 65536 in
theorem w_ripe : about1.ripe theMethod args0 below0 = true := by decide +kernel
theorem w_running : about1.status = .running := rfl
set_option maxRecDepth 65536 in
theorem w_room : about1.hasRoom e0.platform room_1 = true :=
  launch0.hasRoom_least _ room_1 (by decide +kernel) (by decide +kernel) (by decide +kernel) (by decide +kernel) (by decide +kernel) (by decide +kernel)
theorem allAtoms_all (ts : List Jvm.Cond) (a : Array Jvm.Value) (st : Jvm.State) : (allAtoms ts).before a st = ts.all (fun c => c.before a st) := by
  induction ts with
  | nil => rfl
  | cons c t ih =>
    show (Jvm.Cond.and c (allAtoms t)).before a st = _
    rw [Jvm.Cond.before_and, ih, List.all_cons]
def words1 : List Jvm.Cond := Jvm.Cond.code x code maxLocals ret :: tables_1
/-- a 'code' word, met by the world's own term for the bytes: nothing is compared byte by byte -/
theorem code_word {y : MethodName} {bytes : ByteArray} {mx : Nat} {rt : Option FieldType} {a : Array Value} {s : State} {m : MethodId} {meth : Method} {c : Code} (h1 : s.methodNamed? y = some m) (h2 : s.vm.method? m = some meth) (h3 : meth.code = some c) (h4 : c.code = bytes)
    (h5 : (c.maxLocals == mx && c.exceptionTable.isEmpty && decide (c.maxStack ≤ mostOperands) && decide (meth.sig.returnType = rt) && !meth.locks && decide (parseMethodDescriptor y.desc = some meth.sig)) = true) : (Jvm.Cond.code y bytes mx rt).before a s = true := by
  simp only [Bool.and_eq_true, beq_iff_eq, Bool.not_eq_true', decide_eq_true_eq] at h5
  obtain ⟨⟨⟨⟨⟨g1, g2⟩, g3⟩, g4⟩, g5⟩, g6⟩ := h5
  simp [Cond.before, Cond.holds, Cond.value, h1, h2, h3, h4, g1, g2, g3, g4, g5, g6]
def isCode : Jvm.Cond → Bool
  | .code _ _ _ _ => true
  | _ => false
theorem all_split {L : List Jvm.Cond} {P : Jvm.Cond → Bool} (h1 : L.all (fun c => isCode c || P c) = true) (h2 : ∀ c ∈ L.filter isCode, P c = true) : L.all P = true := by
  refine List.all_eq_true.mpr fun c hc => ?_
  have h := List.all_eq_true.mp h1 c hc
  rcases Bool.eq_false_or_eq_true (isCode c) with hi | hi
  · exact h2 c (List.mem_filter.mpr ⟨hc, hi⟩)
  · simpa [hi] using h
set_option maxRecDepth 65536 in
theorem w_c0 : (Jvm.Cond.code x code maxLocals ret).before args0 about1 = true := code_word (m := ⟨1, 1⟩) (meth := k1m1) (c := k1c1) (by decide +kernel) rfl rfl rfl (by decide +kernel)
set_option maxRecDepth 65536 in
theorem w_c1 : (Jvm.Cond.code ({ cls := "java/lang/String", name := "<init>", desc := "([C)V" } : Jvm.MethodName) jdk_42_method_3_code (2 : Nat) (Option.none : Option Jvm.ClassFile.FieldType)).before args0 about1 = true := code_word (m := ⟨7, 1⟩) (meth := k7m1) (c := k7c1) (by decide +kernel) rfl rfl rfl (by decide +kernel)
set_option maxRecDepth 65536 in
theorem w_c2 : (Jvm.Cond.code ({ cls := "java/lang/String", name := "<init>", desc := "([CIILjava/lang/Void;)V" } : Jvm.MethodName) jdk_42_method_149_code (6 : Nat) (Option.none : Option Jvm.ClassFile.FieldType)).before args0 about1 = true := code_word (m := ⟨7, 3⟩) (meth := k7m3) (c := k7c3) (by decide +kernel) rfl rfl rfl (by decide +kernel)
set_option maxRecDepth 65536 in
theorem w_c3 : (Jvm.Cond.code ({ cls := "java/lang/Object", name := "<init>", desc := "()V" } : Jvm.MethodName) object_method_1_code (1 : Nat) (Option.none : Option Jvm.ClassFile.FieldType)).before args0 about1 = true := code_word (m := ⟨0, 0⟩) (meth := k0m0) (c := k0c0) (by decide +kernel) rfl rfl rfl (by decide +kernel)
set_option maxRecDepth 65536 in
theorem w_c4 : (Jvm.Cond.code ({ cls := "java/lang/StringUTF16", name := "compress", desc := "([CII)[B" } : Jvm.MethodName) jdk_52_method_16_code (6 : Nat) (Option.some (Jvm.ClassFile.FieldType.array Jvm.ClassFile.FieldType.byte))).before args0 about1 = true := code_word (m := ⟨8, 8⟩) (meth := k8m8) (c := k8c8) (by decide +kernel) rfl rfl rfl (by decide +kernel)
set_option maxRecDepth 65536 in
theorem w_c5 : (Jvm.Cond.code ({ cls := "java/lang/StringUTF16", name := "compress", desc := "([CI[BII)I" } : Jvm.MethodName) jdk_52_method_21_code (7 : Nat) (Option.some Jvm.ClassFile.FieldType.int)).before args0 about1 = true := code_word (m := ⟨8, 9⟩) (meth := k8m9) (c := k8c9) (by decide +kernel) rfl rfl rfl (by decide +kernel)
set_option maxRecDepth 65536 in
theorem w_c6 : (Jvm.Cond.code ({ cls := "java/lang/StringUTF16", name := "coderFromArrayLen", desc := "([BI)B" } : Jvm.MethodName) jdk_52_method_15_code (2 : Nat) (Option.some Jvm.ClassFile.FieldType.byte)).before args0 about1 = true := code_word (m := ⟨8, 7⟩) (meth := k8m7) (c := k8c7) (by decide +kernel) rfl rfl rfl (by decide +kernel)
set_option maxRecDepth 65536 in
theorem w_c7 : (Jvm.Cond.code ({ cls := "com/example/gazetteer/gazetteer/model/Locations", name := "isEscape", desc := "(Ljava/lang/String;II)Z" } : Jvm.MethodName) prog_59_method_23_code (3 : Nat) (Option.some Jvm.ClassFile.FieldType.boolean)).before args0 about1 = true := code_word (m := ⟨9, 2⟩) (meth := k9m2) (c := k9c2) (by decide +kernel) rfl rfl rfl (by decide +kernel)
set_option maxRecDepth 65536 in
theorem w_c8 : (Jvm.Cond.code ({ cls := "java/lang/StringUTF16", name := "toBytes", desc := "([CII)[B" } : Jvm.MethodName) jdk_52_method_14_code (5 : Nat) (Option.some (Jvm.ClassFile.FieldType.array Jvm.ClassFile.FieldType.byte))).before args0 about1 = true := code_word (m := ⟨8, 6⟩) (meth := k8m6) (c := k8c6) (by decide +kernel) rfl rfl rfl (by decide +kernel)
set_option maxRecDepth 65536 in
theorem w_c9 : (Jvm.Cond.code ({ cls := "java/lang/StringUTF16", name := "newBytesFor", desc := "(I)[B" } : Jvm.MethodName) jdk_52_method_2_code (1 : Nat) (Option.some (Jvm.ClassFile.FieldType.array Jvm.ClassFile.FieldType.byte))).before args0 about1 = true := code_word (m := ⟨8, 1⟩) (meth := k8m1) (c := k8c1) (by decide +kernel) rfl rfl rfl (by decide +kernel)
set_option maxRecDepth 65536 in
theorem w_c10 : (Jvm.Cond.code ({ cls := "java/lang/StringUTF16", name := "newBytesLength", desc := "(I)I" } : Jvm.MethodName) jdk_52_method_3_code (1 : Nat) (Option.some Jvm.ClassFile.FieldType.int)).before args0 about1 = true := code_word (m := ⟨8, 2⟩) (meth := k8m2) (c := k8c2) (by decide +kernel) rfl rfl rfl (by decide +kernel)
set_option maxRecDepth 65536 in
theorem w_c11 : (Jvm.Cond.code ({ cls := "java/lang/StringUTF16", name := "putChar", desc := "([BII)V" } : Jvm.MethodName) jdk_52_method_4_code (3 : Nat) (Option.none : Option Jvm.ClassFile.FieldType)).before args0 about1 = true := code_word (m := ⟨8, 3⟩) (meth := k8m3) (c := k8c3) (by decide +kernel) rfl rfl rfl (by decide +kernel)
set_option maxRecDepth 65536 in
theorem w_c12 : (Jvm.Cond.code ({ cls := "java/lang/StringUTF16", name := "getChar", desc := "([BI)C" } : Jvm.MethodName) jdk_52_method_5_code (2 : Nat) (Option.some Jvm.ClassFile.FieldType.char)).before args0 about1 = true := code_word (m := ⟨8, 4⟩) (meth := k8m4) (c := k8c4) (by decide +kernel) rfl rfl rfl (by decide +kernel)
set_option maxRecDepth 65536 in
theorem w_c13 : (Jvm.Cond.code ({ cls := "com/example/gazetteer/gazetteer/model/LocationsIsEscapePinLaw", name := "isHex", desc := "(C)Z" } : Jvm.MethodName) method_3_code (1 : Nat) (Option.some Jvm.ClassFile.FieldType.boolean)).before args0 about1 = true := code_word (m := ⟨1, 2⟩) (meth := k1m2) (c := k1c2) (by decide +kernel) rfl rfl rfl (by decide +kernel)
set_option maxRecDepth 65536 in
theorem w_c14 : (Jvm.Cond.code ({ cls := "com/example/gazetteer/gazetteer/model/Locations", name := "holdsOnly", desc := "(Ljava/lang/String;II[Z)Z" } : Jvm.MethodName) prog_59_method_20_code (6 : Nat) (Option.some Jvm.ClassFile.FieldType.boolean)).before args0 about1 = true := code_word (m := ⟨9, 1⟩) (meth := k9m1) (c := k9c1) (by decide +kernel) rfl rfl rfl (by decide +kernel)
set_option maxRecDepth 65536 in
theorem w_c15 : (Jvm.Cond.code ({ cls := "java/lang/String", name := "charAt", desc := "(I)C" } : Jvm.MethodName) jdk_42_method_56_code (2 : Nat) (Option.some Jvm.ClassFile.FieldType.char)).before args0 about1 = true := code_word (m := ⟨7, 2⟩) (meth := k7m2) (c := k7c2) (by decide +kernel) rfl rfl rfl (by decide +kernel)
set_option maxRecDepth 65536 in
theorem w_c16 : (Jvm.Cond.code ({ cls := "java/lang/String", name := "isLatin1", desc := "()Z" } : Jvm.MethodName) jdk_42_method_154_code (1 : Nat) (Option.some Jvm.ClassFile.FieldType.boolean)).before args0 about1 = true := code_word (m := ⟨7, 4⟩) (meth := k7m4) (c := k7c4) (by decide +kernel) rfl rfl rfl (by decide +kernel)
set_option maxRecDepth 65536 in
theorem w_c17 : (Jvm.Cond.code ({ cls := "java/lang/StringUTF16", name := "charAt", desc := "([BI)C" } : Jvm.MethodName) jdk_52_method_83_code (2 : Nat) (Option.some Jvm.ClassFile.FieldType.char)).before args0 about1 = true := code_word (m := ⟨8, 10⟩) (meth := k8m10) (c := k8c10) (by decide +kernel) rfl rfl rfl (by decide +kernel)
set_option maxRecDepth 65536 in
theorem w_c18 : (Jvm.Cond.code ({ cls := "java/lang/StringUTF16", name := "checkIndex", desc := "(I[B)V" } : Jvm.MethodName) jdk_52_method_91_code (2 : Nat) (Option.none : Option Jvm.ClassFile.FieldType)).before args0 about1 = true := code_word (m := ⟨8, 11⟩) (meth := k8m11) (c := k8c11) (by decide +kernel) rfl rfl rfl (by decide +kernel)
set_option maxRecDepth 65536 in
theorem w_c19 : (Jvm.Cond.code ({ cls := "java/lang/StringUTF16", name := "length", desc := "([B)I" } : Jvm.MethodName) jdk_52_method_6_code (1 : Nat) (Option.some Jvm.ClassFile.FieldType.int)).before args0 about1 = true := code_word (m := ⟨8, 5⟩) (meth := k8m5) (c := k8c5) (by decide +kernel) rfl rfl rfl (by decide +kernel)
set_option maxRecDepth 65536 in
theorem w_c20 : (Jvm.Cond.code ({ cls := "java/lang/String", name := "checkIndex", desc := "(II)V" } : Jvm.MethodName) jdk_42_method_155_code (2 : Nat) (Option.none : Option Jvm.ClassFile.FieldType)).before args0 about1 = true := code_word (m := ⟨7, 5⟩) (meth := k7m5) (c := k7c5) (by decide +kernel) rfl rfl rfl (by decide +kernel)
set_option maxRecDepth 65536 in
theorem w_c21 : (Jvm.Cond.code ({ cls := "jdk/internal/util/Preconditions", name := "checkIndex", desc := "(IILjava/util/function/BiFunction;)I" } : Jvm.MethodName) jdk_41_method_11_code (3 : Nat) (Option.some Jvm.ClassFile.FieldType.int)).before args0 about1 = true := code_word (m := ⟨10, 1⟩) (meth := k10m1) (c := k10c1) (by decide +kernel) rfl rfl rfl (by decide +kernel)
set_option maxRecDepth 65536 in
theorem w_c22 : (Jvm.Cond.code ({ cls := "java/lang/StringLatin1", name := "charAt", desc := "([BI)C" } : Jvm.MethodName) jdk_43_method_2_code (2 : Nat) (Option.some Jvm.ClassFile.FieldType.char)).before args0 about1 = true := code_word (m := ⟨11, 1⟩) (meth := k11m1) (c := k11c1) (by decide +kernel) rfl rfl rfl (by decide +kernel)
def codes1 : List Jvm.Cond := [Jvm.Cond.code x code maxLocals ret, Jvm.Cond.code ({ cls := "java/lang/String", name := "<init>", desc := "([C)V" } : Jvm.MethodName) jdk_42_method_3_code (2 : Nat) (Option.none : Option Jvm.ClassFile.FieldType), Jvm.Cond.code ({ cls := "java/lang/String", name := "<init>", desc := "([CIILjava/lang/Void;)V" } : Jvm.MethodName) jdk_42_method_149_code (6 : Nat) (Option.none : Option Jvm.ClassFile.FieldType), Jvm.Cond.code ({ cls := "java/lang/Object", name := "<init>", desc := "()V" } : Jvm.MethodName) object_method_1_code (1 : Nat) (Option.none : Option Jvm.ClassFile.FieldType), Jvm.Cond.code ({ cls := "java/lang/StringUTF16", name := "compress", desc := "([CII)[B" } : Jvm.MethodName) jdk_52_method_16_code (6 : Nat) (Option.some (Jvm.ClassFile.FieldType.array Jvm.ClassFile.FieldType.byte)), Jvm.Cond.code ({ cls := "java/lang/StringUTF16", name := "compress", desc := "([CI[BII)I" } : Jvm.MethodName) jdk_52_method_21_code (7 : Nat) (Option.some Jvm.ClassFile.FieldType.int), Jvm.Cond.code ({ cls := "java/lang/StringUTF16", name := "coderFromArrayLen", desc := "([BI)B" } : Jvm.MethodName) jdk_52_method_15_code (2 : Nat) (Option.some Jvm.ClassFile.FieldType.byte), Jvm.Cond.code ({ cls := "com/example/gazetteer/gazetteer/model/Locations", name := "isEscape", desc := "(Ljava/lang/String;II)Z" } : Jvm.MethodName) prog_59_method_23_code (3 : Nat) (Option.some Jvm.ClassFile.FieldType.boolean), Jvm.Cond.code ({ cls := "java/lang/StringUTF16", name := "toBytes", desc := "([CII)[B" } : Jvm.MethodName) jdk_52_method_14_code (5 : Nat) (Option.some (Jvm.ClassFile.FieldType.array Jvm.ClassFile.FieldType.byte)), Jvm.Cond.code ({ cls := "java/lang/StringUTF16", name := "newBytesFor", desc := "(I)[B" } : Jvm.MethodName) jdk_52_method_2_code (1 : Nat) (Option.some (Jvm.ClassFile.FieldType.array Jvm.ClassFile.FieldType.byte)), Jvm.Cond.code ({ cls := "java/lang/StringUTF16", name := "newBytesLength", desc := "(I)I" } : Jvm.MethodName) jdk_52_method_3_code (1 : Nat) (Option.some Jvm.ClassFile.FieldType.int), Jvm.Cond.code ({ cls := "java/lang/StringUTF16", name := "putChar", desc := "([BII)V" } : Jvm.MethodName) jdk_52_method_4_code (3 : Nat) (Option.none : Option Jvm.ClassFile.FieldType), Jvm.Cond.code ({ cls := "java/lang/StringUTF16", name := "getChar", desc := "([BI)C" } : Jvm.MethodName) jdk_52_method_5_code (2 : Nat) (Option.some Jvm.ClassFile.FieldType.char), Jvm.Cond.code ({ cls := "com/example/gazetteer/gazetteer/model/LocationsIsEscapePinLaw", name := "isHex", desc := "(C)Z" } : Jvm.MethodName) method_3_code (1 : Nat) (Option.some Jvm.ClassFile.FieldType.boolean), Jvm.Cond.code ({ cls := "com/example/gazetteer/gazetteer/model/Locations", name := "holdsOnly", desc := "(Ljava/lang/String;II[Z)Z" } : Jvm.MethodName) prog_59_method_20_code (6 : Nat) (Option.some Jvm.ClassFile.FieldType.boolean), Jvm.Cond.code ({ cls := "java/lang/String", name := "charAt", desc := "(I)C" } : Jvm.MethodName) jdk_42_method_56_code (2 : Nat) (Option.some Jvm.ClassFile.FieldType.char), Jvm.Cond.code ({ cls := "java/lang/String", name := "isLatin1", desc := "()Z" } : Jvm.MethodName) jdk_42_method_154_code (1 : Nat) (Option.some Jvm.ClassFile.FieldType.boolean), Jvm.Cond.code ({ cls := "java/lang/StringUTF16", name := "charAt", desc := "([BI)C" } : Jvm.MethodName) jdk_52_method_83_code (2 : Nat) (Option.some Jvm.ClassFile.FieldType.char), Jvm.Cond.code ({ cls := "java/lang/StringUTF16", name := "checkIndex", desc := "(I[B)V" } : Jvm.MethodName) jdk_52_method_91_code (2 : Nat) (Option.none : Option Jvm.ClassFile.FieldType), Jvm.Cond.code ({ cls := "java/lang/StringUTF16", name := "length", desc := "([B)I" } : Jvm.MethodName) jdk_52_method_6_code (1 : Nat) (Option.some Jvm.ClassFile.FieldType.int), Jvm.Cond.code ({ cls := "java/lang/String", name := "checkIndex", desc := "(II)V" } : Jvm.MethodName) jdk_42_method_155_code (2 : Nat) (Option.none : Option Jvm.ClassFile.FieldType), Jvm.Cond.code ({ cls := "jdk/internal/util/Preconditions", name := "checkIndex", desc := "(IILjava/util/function/BiFunction;)I" } : Jvm.MethodName) jdk_41_method_11_code (3 : Nat) (Option.some Jvm.ClassFile.FieldType.int), Jvm.Cond.code ({ cls := "java/lang/StringLatin1", name := "charAt", desc := "([BI)C" } : Jvm.MethodName) jdk_43_method_2_code (2 : Nat) (Option.some Jvm.ClassFile.FieldType.char)]
set_option maxRecDepth 65536 in
theorem codes_eq : words1.filter isCode = codes1 := rfl
theorem w_codes : ∀ c ∈ words1.filter isCode, c.before args0 about1 = true := by
  rw [codes_eq]
  intro c hc
  simp only [codes1, List.mem_cons, List.not_mem_nil, or_false] at hc
  rcases hc with rfl | rfl | rfl | rfl | rfl | rfl | rfl | rfl | rfl | rfl | rfl | rfl | rfl | rfl | rfl | rfl | rfl | rfl | rfl | rfl | rfl | rfl | rfl
  · exact w_c0
  · exact w_c1
  · exact w_c2
  · exact w_c3
  · exact w_c4
  · exact w_c5
  · exact w_c6
  · exact w_c7
  · exact w_c8
  · exact w_c9
  · exact w_c10
  · exact w_c11
  · exact w_c12
  · exact w_c13
  · exact w_c14
  · exact w_c15
  · exact w_c16
  · exact w_c17
  · exact w_c18
  · exact w_c19
  · exact w_c20
  · exact w_c21
  · exact w_c22
set_option maxRecDepth 65536 in
theorem w_t1 : (words1.take 24).all (fun c => isCode c || c.before args0 about1) = true := by decide +kernel
set_option maxRecDepth 65536 in
theorem w_t2 : ((words1.drop 24).take 24).all (fun c => isCode c || c.before args0 about1) = true := by decide +kernel
set_option maxRecDepth 65536 in
theorem w_t3 : (((words1.drop 24).drop 24).take 24).all (fun c => isCode c || c.before args0 about1) = true := by decide +kernel
set_option maxRecDepth 65536 in
theorem w_t4 : ((((words1.drop 24).drop 24).drop 24).take 24).all (fun c => isCode c || c.before args0 about1) = true := by decide +kernel
set_option maxRecDepth 65536 in
theorem w_t5 : ((((words1.drop 24).drop 24).drop 24).drop 24).all (fun c => isCode c || c.before args0 about1) = true := by decide +kernel
theorem w_tables : (allAtoms (Jvm.Cond.code x code maxLocals ret :: tables_1)).before args0 about1 = true := by
  rw [allAtoms_all]
  show words1.all (fun c => c.before args0 about1) = true
  refine all_split ?_ w_codes
  rw [← List.take_append_drop 24 words1, List.all_append, w_t1, ← List.take_append_drop 24 (words1.drop 24), List.all_append, w_t2, ← List.take_append_drop 24 ((words1.drop 24).drop 24), List.all_append, w_t3, ← List.take_append_drop 24 (((words1.drop 24).drop 24).drop 24), List.all_append, w_t4, w_t5]
  rfl
set_option maxRecDepth 65536 in
theorem w_rest : rest_1_c.before args0 about1 = true := by decide +kernel
set_option maxRecDepth 65536 in
theorem w_case : (Jvm.Cond.and given_1 narrow_1).before args0 about1 = true := by decide +kernel
theorem w_applies : (headSpec (Jvm.Cond.code x code maxLocals ret :: tables_1) room_1).applies x e0.platform about1 = true :=
  (Spec.applies_iff w_frames).mpr ⟨w_running, w_runnable, w_alone, w_named, w_hears, w_ripe, w_room, w_tables⟩
theorem atStart : AtStart classFile x code maxLocals ret World_1 tables_1 room_1 Calls_1 rest_1 Pre_1 launch0 p0 e0 about1 theMethod args0 below0 :=
  ⟨lists_1, trivial, launch0.admits_env _ _ _, launch0.least_env, fairChoices_fair.cas, fairChoices_fair.clock, w_frames, w_args, w_heap, w_applies, trivial, w_rest, w_case⟩
end start1
theorem witness_1 : WitnessClaimed_1 := ⟨start1.p0, start1.e0, start1.about1, start1.theMethod, start1.args0, start1.below0, start1.atStart⟩
end Jvm.Pilot.@@N@@
