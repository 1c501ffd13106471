import JvmDerived
import JvmDerived.Pilot.@@N@@Statement
import JvmDerived.Pilot.@@N@@Code
set_option linter.unusedVariables false
set_option linter.unusedSimpArgs false
@@BLOCK:Masks.lean.txt@@
namespace Jvm.Pilot.@@N@@
open Jvm Jvm.ClassFile Sem Op Lib Jvm.Free Jvm.Stand Jvm.LawKit Jvm.RoadKit Bundle Jvm.Pilot.@@N@@.Jvm.D
section Own
variable {p : Program} {l : Launch} {e : Env} {R : Room} {s : State} {m : MethodId} {args : Array Value} {below : List Frame} {meth : Method} {c : Code} {T : State} {locs : List Loc} {cells slots : Nat} {Z : State} {a0 : Array Value} {h : Heap}
def own_Go (p : Program) (e : Env) (below : List Frame) (Q : Outcome → State → Prop) (T : State) (g : JFrame) : Prop := ∃ s₂ o, Steps p.tables e below (T.setTop g) s₂ ∧ s₂.status = .running ∧ Ended s₂ below o ∧ Q o s₂
theorem own_st {Q : Outcome → State → Prop} {T T' : State} {g g' : JFrame} (h : ∀ t, Steps p.tables e below (T'.setTop g') t → Steps p.tables e below (T.setTop g) t) (k : own_Go p e below Q T' g') : own_Go p e below Q T g := by
  obtain ⟨s₂, o, h1, h2⟩ := k
  exact ⟨s₂, o, h _ h1, h2⟩
theorem own_s {Q : Outcome → State → Prop} {T : State} {g : JFrame} (T' : State) (g' : JFrame) (h : ∀ t, Steps p.tables e below (T'.setTop g') t → Steps p.tables e below (T.setTop g) t) (k : own_Go p e below Q T' g') : own_Go p e below Q T g := own_st h k
abbrev u_ : Slot := .unset
abbrev v_ : Slot := .second
theorem own_cast {Q : Outcome → State → Prop} {T : State} {g g' : JFrame} (q : g = g') (k : own_Go p e below Q T g') : own_Go p e below Q T g := q ▸ k
def own_Post (Qv : Option Value → Heap → List Loc → Prop) (kc ks : Nat) (U : State) (o : Outcome) (U' : State) : Prop := ∃ v L, o = .returned v ∧ Qv v U'.heap L ∧ FrameEnd U o U' L kc ks
def own_Met (l : Launch) (Z : State) (y : MethodName) (bytes : ByteArray) (maxL : Nat) (ret : Option FieldType) (ws : List Jvm.Cond) (rm : Room) (h0 : Heap) (as' : Array Value) (Qv : Option Value → Heap → List Loc → Prop) (kc ks : Nat) : Prop :=
  MetFree l y (head1 (Jvm.Cond.code y bytes maxL ret :: ws) rm) (fun a U => a = as' ∧ Z.Warmed39 U.vm ∧ U.heap = h0) (fun _ _ _ _ _ => True) (fun _ U o U' => own_Post Qv kc ks U o U')
theorem own_start {y : MethodName} {bytes : ByteArray} {maxL : Nat} {ret : Option FieldType} {ws : List Jvm.Cond} {rm : Room} {h0 : Heap} {as' : Array Value} {Qv : Option Value → Heap → List Loc → Prop} {kc ks : Nat} (hpl : plainFor y = true)
    (body : ∀ (p : Program) (e : Env) (s : State) (m : MethodId) (below : List Frame) (meth : Method) (c : Code) (s₁ : State), Stand p l e rm s m as' below meth c s₁ [] 0 0 → p.tables.exec = Jvm.exec → Z.Warmed39 s.vm → c.code = bytes → c.maxLocals = maxL → meth.sig.returnType = ret → meth.locks = false → s.vm.findClass y.cls = some m.cls → meth.name = y.name → s₁.heap = h0 → own_Go p e below (own_Post Qv kc ks s) s₁ (entryFrame m as' maxL)) :
    own_Met l Z y bytes maxL ret ws rm h0 as' Qv kc ks := by
  refine MetFree.of_bodySF hpl hisR ?_
  intro p e s m args below meth c s₁ Bd hml0 hP hK
  obtain ⟨rfl, hZ, hh⟩ := hP
  exact body p e s m below meth c s₁ (Stand.of_body Bd) Bd.exec hZ Bd.bytes hml0 Bd.returns Bd.notSynchronized (findClass_of_methodNamed Bd.named) (name_of_methodNamed Bd.named Bd.method).1 (by rw [← hh, Bd.state]; rfl)
def own_PostW (Qv : Option Value → Heap → Vm → List Loc → Prop) (kc ks : Nat) (U : State) (o : Outcome) (U' : State) : Prop := ∃ v L, o = .returned v ∧ Qv v U'.heap U'.vm L ∧ ReturnedEndW U o U' L kc ks
def own_MetW (l : Launch) (Z : State) (y : MethodName) (bytes : ByteArray) (maxL : Nat) (ret : Option FieldType) (ws : List Jvm.Cond) (rm : Room) (h0 : Heap) (J : Vm → Prop) (as' : Array Value) (Qv : Option Value → Heap → Vm → List Loc → Prop) (kc ks : Nat) : Prop :=
  MetFree l y (head1 (Jvm.Cond.code y bytes maxL ret :: ws) rm) (fun a U => a = as' ∧ Z.Warmed39 U.vm ∧ U.heap = h0 ∧ J U.vm) (fun _ _ _ _ _ => True) (fun _ U o U' => own_PostW Qv kc ks U o U')
theorem own_startW {y : MethodName} {bytes : ByteArray} {maxL : Nat} {ret : Option FieldType} {ws : List Jvm.Cond} {rm : Room} {h0 : Heap} {J : Vm → Prop} {as' : Array Value} {Qv : Option Value → Heap → Vm → List Loc → Prop} {kc ks : Nat} (hpl : plainFor y = true)
    (body : ∀ (p : Program) (e : Env) (s : State) (m : MethodId) (below : List Frame) (meth : Method) (c : Code) (s₁ : State), Stand p l e rm (s.setVm s.vm) m as' below meth c s₁ [] 0 0 → p.tables.exec = Jvm.exec → Z.Warmed39 s.vm → c.code = bytes → c.maxLocals = maxL → meth.sig.returnType = ret → meth.locks = false → s.vm.findClass y.cls = some m.cls → meth.name = y.name → s₁.heap = h0 → s.Since s.vm 0 → s.heap = h0 → J s.vm → own_Go p e below (own_PostW Qv kc ks s) s₁ (entryFrame m as' maxL)) :
    own_MetW l Z y bytes maxL ret ws rm h0 J as' Qv kc ks := by
  refine MetFree.of_bodySF hpl hisR ?_
  intro p e s m args below meth c s₁ Bd hml0 hP hK
  obtain ⟨rfl, hZ, hh, hJ⟩ := hP
  exact body p e s m below meth c s₁ (Stand.of_body Bd) Bd.exec hZ Bd.bytes hml0 Bd.returns Bd.notSynchronized (findClass_of_methodNamed Bd.named) (name_of_methodNamed Bd.named Bd.method).1 (by rw [← hh, Bd.state]; rfl) ((State.WarmedH.refl s).since 0) hh hJ
def own_End (e : Env) (below : List Frame) (m : MethodId) (T : State) (v : Option Value) (P : Outcome → State → Prop) : Prop := ∃ fs, (∀ (f : JFrame) (acts : List Action), f.method = m → f.locked = none → f.entered = [] → (doReturn e (T.setTop f) acts v).1 = T.setFrames fs) ∧ (T.setFrames fs).status = .running ∧ Ended (T.setFrames fs) below (.returned v) ∧ P (.returned v) (T.setFrames fs)
theorem own_end {Qv : Option Value → Heap → List Loc → Prop} {kc ks : Nat} (X : Stand p l e R s m args below meth c T locs cells slots) {v : Option Value} (hv : meth.sig.returnType = none → v = none) (hlocks : meth.locks = false) (hc : cells ≤ kc) (hs : slots ≤ ks) (eT : T.heap = h) (q : Qv v h locs) : own_End e below m T v (own_Post Qv kc ks s) := by
  obtain ⟨fs, hr, hrun, hended, hW, hsame⟩ := X.leave hv hlocks
  exact ⟨fs, hr, hrun, hended, _, _, rfl, (by show Qv v T.heap locs; rw [eT]; exact q), ⟨_, rfl⟩, hW, hsame.mono hc hs⟩
theorem own_endW {Qv : Option Value → Heap → Vm → List Loc → Prop} {kc ks : Nat} {vm1 : Vm} (X : Stand p l e R (s.setVm vm1) m args below meth c T locs cells slots) {n : Nat} (hS : s.Since vm1 n) {v : Option Value} (hv : meth.sig.returnType = none → v = none) (hlocks : meth.locks = false) (hc : cells ≤ kc) (hs : slots ≤ ks) (eT : T.heap = h) (hk : n ≤ h.size) (q : ∀ vm', (s.setVm vm1).WarmedH vm' → Qv v h vm' locs) : own_End e below m T v (own_PostW Qv kc ks s) := by
  obtain ⟨fs, hr, hrun, hended, hE⟩ := X.leaveW hS (by rw [eT]; exact hk) hv hlocks
  exact ⟨fs, hr, hrun, hended, _, _, rfl, (by show Qv v T.heap T.vm locs; rw [eT]; exact q _ X.warmed), hE.1, hE.2.1, hE.2.2.1, hE.2.2.2.mono hc hs⟩
theorem own_fin {P : Outcome → State → Prop} {v : Option Value} {g : JFrame} (E : own_End e below m T v P) (st : ∀ fs, (∀ (f : JFrame) (acts : List Action), f.method = m → f.locked = none → f.entered = [] → (doReturn e (T.setTop f) acts v).1 = T.setFrames fs) → Steps p.tables e below (T.setTop g) (T.setFrames fs)) : own_Go p e below P T g := by
  obtain ⟨fs, hr, hrun, hended, q⟩ := E
  exact ⟨_, _, st fs hr, hrun, hended, q⟩
theorem own_some {t : FieldType} {v : Option Value} (hret : meth.sig.returnType = some t) : meth.sig.returnType = none → v = none := fun h => by rw [hret] at h; cases h
theorem own_finV {P : Outcome → State → Prop} (X : Stand p l e R s m args below meth c T locs cells slots) (hx : p.tables.exec = Jvm.exec) (hret : meth.sig.returnType = none) {pc : Nat} {Ls : Array Slot} (hd : decode c.code pc = .ok (.return_, 1)) (E : own_End e below m T none P) : own_Go p e below P T (mkF m pc Ls []) :=
  own_fin E (fun fs hr => X.returnOut hx hret hd hr)
theorem own_finX {P : Outcome → State → Prop} (X : Stand p l e R s m args below meth c T locs cells slots) (hx : p.tables.exec = Jvm.exec) {t : FieldType} (hret : meth.sig.returnType = some t) {pc : Nat} {Ls : Array Slot} {w : Value} {i : Instr} {rest : List Value} (hn : narrow t w = w)
    (hi : (i = .ireturn ∧ (t = .int ∨ t = .boolean ∨ t = .byte ∨ t = .char ∨ t = .short) ∧ ∃ z, w = .int z) ∨ (i = .lreturn ∧ t = .long ∧ ∃ z, w = .long z) ∨ (i = .dreturn ∧ t = .double ∧ ∃ z, w = .double z) ∨ (i = .freturn ∧ t = .float ∧ ∃ z, w = .float z) ∨ (i = .areturn ∧ t.isReference = true ∧ w.isRef = true))
    (hd : decode c.code pc = .ok (i, 1)) (E : own_End e below m T (some w) P) : own_Go p e below P T (mkF m pc Ls (w :: rest)) :=
  own_fin E (fun fs hr => retOut X hx hret hn hi hd hr)
theorem own_finI {P : Outcome → State → Prop} (X : Stand p l e R s m args below meth c T locs cells slots) (hx : p.tables.exec = Jvm.exec) (hret : meth.sig.returnType = some .int) {pc : Nat} {Ls : Array Slot} {z : Int32} {rest : List Value} (hd : decode c.code pc = .ok (.ireturn, 1)) (E : own_End e below m T (some (.int z)) P) : own_Go p e below P T (mkF m pc Ls (.int z :: rest)) :=
  own_finX X hx hret rfl (Or.inl ⟨rfl, Or.inl rfl, _, rfl⟩) hd E
theorem own_finL {P : Outcome → State → Prop} (X : Stand p l e R s m args below meth c T locs cells slots) (hx : p.tables.exec = Jvm.exec) (hret : meth.sig.returnType = some .long) {pc : Nat} {Ls : Array Slot} {z : Int64} {rest : List Value} (hd : decode c.code pc = .ok (.lreturn, 1)) (E : own_End e below m T (some (.long z)) P) : own_Go p e below P T (mkF m pc Ls (.long z :: rest)) :=
  own_finX X hx hret rfl (Or.inr (Or.inl ⟨rfl, rfl, _, rfl⟩)) hd E
theorem own_finD {P : Outcome → State → Prop} (X : Stand p l e R s m args below meth c T locs cells slots) (hx : p.tables.exec = Jvm.exec) (hret : meth.sig.returnType = some .double) {pc : Nat} {Ls : Array Slot} {z : UInt64} {rest : List Value} (hd : decode c.code pc = .ok (.dreturn, 1)) (E : own_End e below m T (some (.double z)) P) : own_Go p e below P T (mkF m pc Ls (.double z :: rest)) :=
  own_finX X hx hret rfl (Or.inr (Or.inr (Or.inl ⟨rfl, rfl, _, rfl⟩))) hd E
theorem own_finA {P : Outcome → State → Prop} (X : Stand p l e R s m args below meth c T locs cells slots) (hx : p.tables.exec = Jvm.exec) {t : FieldType} (hret : meth.sig.returnType = some t) (ht : t.isReference = true) {pc : Nat} {Ls : Array Slot} {w : Value} {rest : List Value} (hw : w.isRef = true) (hd : decode c.code pc = .ok (.areturn, 1)) (E : own_End e below m T (some w) P) : own_Go p e below P T (mkF m pc Ls (w :: rest)) :=
  own_finX X hx hret (by rcases ref_cases hw with rfl | ⟨z, rfl⟩ <;> cases t <;> first | rfl | cases ht) (Or.inr (Or.inr (Or.inr (Or.inr ⟨rfl, ht, hw⟩)))) hd E
theorem own_finZ {P : Outcome → State → Prop} (X : Stand p l e R s m args below meth c T locs cells slots) (hx : p.tables.exec = Jvm.exec) {t : FieldType} (hret : meth.sig.returnType = some t) (ht : t = .boolean ∨ t = .byte ∨ t = .char ∨ t = .short) {pc : Nat} {Ls : Array Slot} {z z' : Int32} {rest : List Value} (hz : nar t z = z') (hd : decode c.code pc = .ok (.ireturn, 1)) (E : own_End e below m T (some (.int z')) P) : own_Go p e below P T (mkF m pc Ls (.int z :: rest)) :=
  own_fin E (fun fs hr => by subst hz; exact retN X hx hret ht hd hr)
theorem own_callS (X : Stand p l e R s m args below meth c T locs cells slots) (hx : p.tables.exec = Jvm.exec) (hZ : Z.Warmed39 s.vm) {own : String} {index : Nat} {y : MethodName} {bytes : ByteArray} {maxL : Nat} {ret : Option FieldType} {rm : Room} {W : Nat} {Q : Option Value → Heap → List Loc → Prop} {argsL rest : List Value} {as' : Array Value}
    (hown : s.vm.findClass own = some m.cls) (w1 : (Cond.methodLink own index y).before a0 Z = true) (w2 : (Cond.static y).before a0 Z = true) (w3 : (Cond.initialized y.cls).before a0 Z = true) (w4 : (Cond.code y bytes maxL ret).before a0 Z = true) (hy : y.cls ≠ "java/lang/invoke/MethodHandle" ∧ y.cls ≠ "java/lang/invoke/VarHandle")
    (hM : own_Met l Z y bytes maxL ret [] rm h as' Q rm.cells rm.slots) (hf : rm.frames + 1 ≤ R.frames) (hl : W + (maxL + 11) + rm.locals ≤ R.locals) {g : JFrame} (hg : g.method = m) (hsz : g.locals.size = c.maxLocals) (has : argsL.toArray = as') (hlen : ∀ sig, parseMethodDescriptor y.desc = some sig → argsL.length = sig.parameters.length) (hstk : g.stack = argsL.reverse ++ rest) (hW : 2 * g.monitorRoom + (rest.map fun v => v.category).sum ≤ W)
    (hd : decode c.code g.pc = .ok (.invokestatic index, 3)) (eT : T.heap = h) (hc : cells + rm.cells ≤ R.cells) (hs : slots + rm.slots ≤ R.slots) :
    ∃ v T' L, Stand p l e R s m args below meth c T' (locs ++ L) (cells + rm.cells) (slots + rm.slots) ∧ Q v T'.heap L ∧ ∀ target, Steps p.tables e below (T'.setTop { g with pc := g.pc + 3, stack := v.toList ++ rest }) target → Steps p.tables e below (T.setTop g) target := by
  obtain ⟨v, _, ⟨T', L', k', n'⟩, -, X', ⟨Lc, hQ, l', y', z'⟩, st⟩ := Jvm.LawKit.callS X hx (y := y) hown (mvT hZ w1) (mvT hZ w2) (mvT hZ w3) (mvT hZ w4) hy (backOf (W := W) hM hZ w4 w3 hf hl) (g := g) hg hsz (argsL := argsL) (rest := rest) hlen hstk hW hd (fun _ _ => ⟨has, eT, hc, hs⟩)
  dsimp only [Pt.U, Pt.locs, Pt.cells, Pt.slots] at X' l' y' z' st hQ
  subst l' y' z'
  exact ⟨v, T', Lc, X', hQ, st⟩
theorem own_callI (X : Stand p l e R s m args below meth c T locs cells slots) (hx : p.tables.exec = Jvm.exec) (hZ : Z.Warmed39 s.vm) {own : String} {index : Nat} {y : MethodName} {bytes : ByteArray} {maxL : Nat} {rm : Room} {W : Nat} {Q : Option Value → Heap → List Loc → Prop} {a : Addr} {argsL rest : List Value} {as' : Array Value} (hyn : y.name = "<init>")
    (hown : s.vm.findClass own = some m.cls) (w1 : (Cond.methodLink own index y).before a0 Z = true) (w2 : (Cond.instanceMethod y).before a0 Z = true) (w3 : (Cond.initialized y.cls).before a0 Z = true) (w4 : (Cond.code y bytes maxL none).before a0 Z = true) (hy : y.cls ≠ "java/lang/invoke/MethodHandle" ∧ y.cls ≠ "java/lang/invoke/VarHandle")
    (hM : own_Met l Z y bytes maxL none [] rm h as' Q rm.cells rm.slots) (hf : rm.frames + 1 ≤ R.frames) (hl : W + (maxL + 11) + rm.locals ≤ R.locals) {g : JFrame} (hg : g.method = m) (hsz : g.locals.size = c.maxLocals) (has : (Value.ref a :: argsL).toArray = as') (hlen : ∀ sig, parseMethodDescriptor y.desc = some sig → argsL.length = sig.parameters.length) (hstk : g.stack = argsL.reverse ++ .ref a :: rest) (hW : 2 * g.monitorRoom + (rest.map fun v => v.category).sum ≤ W)
    (hd : decode c.code g.pc = .ok (.invokespecial index, 3)) (eT : T.heap = h) (hc : cells + rm.cells ≤ R.cells) (hs : slots + rm.slots ≤ R.slots) :
    ∃ v T' L, Stand p l e R s m args below meth c T' (locs ++ L) (cells + rm.cells) (slots + rm.slots) ∧ Q v T'.heap L ∧ ∀ target, Steps p.tables e below (T'.setTop { g with pc := g.pc + 3, stack := v.toList ++ rest }) target → Steps p.tables e below (T.setTop g) target := by
  obtain ⟨v, _, ⟨T', L', k', n'⟩, -, X', ⟨Lc, hQ, l', y', z'⟩, st⟩ := X.specialBack hx (y := y) hyn hown (mvT hZ w1) (mvT hZ w2) (mvT hZ w4) hy (backOf (W := W) hM hZ w4 w3 hf hl) (g := g) hg hsz (Steps.refl _) (a := a) (argsL := argsL) (rest := rest) hlen hstk hW hd (fun _ _ => ⟨has, eT, hc, hs⟩)
  dsimp only [Pt.U, Pt.locs, Pt.cells, Pt.slots] at X' l' y' z' st hQ
  subst l' y' z'
  exact ⟨v, T', Lc, X', hQ, fun t k => st.trans k⟩
theorem own_callV (X : Stand p l e R s m args below meth c T locs cells slots) (hx : p.tables.exec = Jvm.exec) (hZ : Z.Warmed39 s.vm) {own C : String} {index : Nat} {y z : MethodName} {bytes : ByteArray} {maxL : Nat} {ret : Option FieldType} {rm : Room} {W : Nat} {Q : Option Value → Heap → List Loc → Prop} {a : Addr} {argsL rest : List Value} {as' : Array Value}
    (hown : s.vm.findClass own = some m.cls) (w1 : (Cond.methodLink own index y).before a0 Z = true) (w2 : (Cond.declares y).before a0 Z = true) (hnf : NotFace s y) (wsel : (Cond.selects C y z).before a0 Z = true) (wi : (Cond.instanceMethod z).before a0 Z = true) (w3 : (Cond.initialized z.cls).before a0 Z = true) (w4 : (Cond.code z bytes maxL ret).before a0 Z = true) (hy : y.cls ≠ "java/lang/invoke/MethodHandle" ∧ y.cls ≠ "java/lang/invoke/VarHandle")
    (hM : own_Met l Z z bytes maxL ret [] rm h as' Q rm.cells rm.slots) (hf : rm.frames + 1 ≤ R.frames) (hl : W + (maxL + 11) + rm.locals ≤ R.locals) (E : Exa Z h a C) {g : JFrame} (hg : g.method = m) (hsz : g.locals.size = c.maxLocals) (has : (Value.ref a :: argsL).toArray = as') (hlen : ∀ sig, parseMethodDescriptor y.desc = some sig → argsL.length = sig.parameters.length) (hstk : g.stack = argsL.reverse ++ .ref a :: rest) (hW : 2 * g.monitorRoom + (rest.map fun v => v.category).sum ≤ W)
    (hd : decode c.code g.pc = .ok (.invokevirtual index, 3)) (eT : T.heap = h) (hc : cells + rm.cells ≤ R.cells) (hs : slots + rm.slots ≤ R.slots) :
    ∃ v T' L, Stand p l e R s m args below meth c T' (locs ++ L) (cells + rm.cells) (slots + rm.slots) ∧ Q v T'.heap L ∧ ∀ target, Steps p.tables e below (T'.setTop { g with pc := g.pc + 3, stack := v.toList ++ rest }) target → Steps p.tables e below (T.setTop g) target := by
  obtain ⟨cq, kq, qa, qb, qc⟩ := isOf hZ eT E
  obtain ⟨v, _, ⟨T', L', k', n'⟩, -, X', ⟨Lc, hQ, l', y', z'⟩, st⟩ := X.virtualBack hx (y := y) (z := z) hown (mvT hZ w1) (mvT hZ w2) hnf (mvT hZ wsel) (mvT hZ wi) hy (backOf (W := W) hM hZ w4 w3 hf hl) qa qc (g := g) hg hsz (Steps.refl _) (argsL := argsL) (rest := rest) hlen hstk hW hd (fun _ _ => ⟨has, eT, hc, hs⟩)
  dsimp only [Pt.U, Pt.locs, Pt.cells, Pt.slots] at X' l' y' z' st hQ
  subst l' y' z'
  exact ⟨v, T', Lc, X', hQ, fun t k => st.trans k⟩
theorem own_callP (X : Stand p l e R s m args below meth c T locs cells slots) (hx : p.tables.exec = Jvm.exec) (hZ : Z.Warmed39 s.vm) {own C : String} {index : Nat} {y : MethodName} {bytes : ByteArray} {maxL : Nat} {ret : Option FieldType} {rm : Room} {W : Nat} {Q : Option Value → Heap → List Loc → Prop} {a : Addr} {argsL rest : List Value} {as' : Array Value}
    (hown : s.vm.findClass own = some m.cls) (w1 : (Cond.methodLink own index y).before a0 Z = true) (wi : (Cond.instanceMethod y).before a0 Z = true) {kk : Nat} (wn : (Cond.instantiable y.cls kk).before a0 Z = true) (wp : (Cond.privateMethod y).before a0 Z = true) (w3 : (Cond.initialized y.cls).before a0 Z = true) (w4 : (Cond.code y bytes maxL ret).before a0 Z = true) (hy : y.cls ≠ "java/lang/invoke/MethodHandle" ∧ y.cls ≠ "java/lang/invoke/VarHandle")
    (hM : own_Met l Z y bytes maxL ret [] rm h as' Q rm.cells rm.slots) (hf : rm.frames + 1 ≤ R.frames) (hl : W + (maxL + 11) + rm.locals ≤ R.locals) (E : Exa Z h a C) {g : JFrame} (hg : g.method = m) (hsz : g.locals.size = c.maxLocals) (has : (Value.ref a :: argsL).toArray = as') (hlen : ∀ sig, parseMethodDescriptor y.desc = some sig → argsL.length = sig.parameters.length) (hstk : g.stack = argsL.reverse ++ .ref a :: rest) (hW : 2 * g.monitorRoom + (rest.map fun v => v.category).sum ≤ W)
    (hd : decode c.code g.pc = .ok (.invokevirtual index, 3)) (eT : T.heap = h) (hc : cells + rm.cells ≤ R.cells) (hs : slots + rm.slots ≤ R.slots) :
    ∃ v T' L, Stand p l e R s m args below meth c T' (locs ++ L) (cells + rm.cells) (slots + rm.slots) ∧ Q v T'.heap L ∧ ∀ target, Steps p.tables e below (T'.setTop { g with pc := g.pc + 3, stack := v.toList ++ rest }) target → Steps p.tables e below (T.setTop g) target := by
  obtain ⟨cq, q1, q2⟩ := E.cell
  obtain ⟨ci, ki, hi1, hi2, -, hi4, -⟩ := Cond.instantiable_spec (mvT (args := args) hZ wn)
  have hsel : (Cond.selects y.cls y y).before args s = true := selects_self_of_private hi1 hi2 (by simp only [Bool.or_eq_false_iff] at hi4; exact hi4.1) (Cond.privateMethod_at (mvP hZ wp (args := #[]))) (mvT hZ wi) hy
  obtain ⟨v, _, ⟨T', L', k', n'⟩, -, X', ⟨Lc, hQ, l', y', z'⟩, st⟩ := X.privateBack hx (y := y) hown (mvT hZ w1) (mvT hZ wi) hsel (Cond.privateMethod_at (mvP hZ wp (args := #[]))) (mvT hZ w4) hy (backOf (W := W) hM hZ w4 w3 hf hl) (g := g) hg hsz (Steps.refl _) (a := a) (by rw [eT]; exact q1) q2 (argsL := argsL) (rest := rest) hlen hstk hW hd (fun _ _ => ⟨has, eT, hc, hs⟩)
  dsimp only [Pt.U, Pt.locs, Pt.cells, Pt.slots] at X' l' y' z' st hQ
  subst l' y' z'
  exact ⟨v, T', Lc, X', hQ, fun t k => st.trans k⟩
end Own

theorem own_h {a0 : Array Value} {Z : State} (hw : ∀ d ∈ tables_1, d.before a0 Z = true) (i : Nat) {d : Jvm.Cond} (h : tables_1[i]? = some d) : d.before a0 Z = true := hw d (List.mem_of_getElem? h)
theorem own_at {T : State} {h : Heap} {a : Addr} {c : Cell} (eT : T.heap = h) (q : h[a]? = some c) : T.heap[a]? = some c := by rw [eT]; exact q
theorem own_nl {a x n : Nat} (h : a < n) (g : n ≤ x) : a ≠ x := Nat.ne_of_lt (Nat.lt_of_lt_of_le h g)
theorem own_nf {a x n : Nat} (h : a < n) (g : x = n) : a ≠ x := fun q => Nat.ne_of_lt h (q.trans g)
def own_b (b : Bool) : Int32 := cond b 1 0
theorem own_b0 {b : Bool} (h : b = false) : own_b b = 0 := by subst h; rfl
theorem own_b1 {b : Bool} (h : ¬ b = false) : ¬ own_b b = 0 := by cases b; exact absurd rfl h; decide
theorem own_narb (b : Bool) : nar .boolean (own_b b) = own_b b := by cases b <;> rfl
theorem own_lclt {a b : Int64} (h : a < b) : lcmpW a b < 0 := by rw [lcW]; exact (lc_lt a b).mpr h
theorem own_lcltN {a b : Int64} (h : ¬ a < b) : ¬ lcmpW a b < 0 := fun q => by rw [lcW] at q; exact h ((lc_lt a b).mp q)
theorem own_lcgt {a b : Int64} (h : b < a) : 0 < lcmpW a b := by rw [lcW]; exact (lc_gt a b).mpr h
theorem own_lcgtN {a b : Int64} (h : ¬ b < a) : ¬ 0 < lcmpW a b := fun q => by rw [lcW] at q; exact h ((lc_gt a b).mp q)
theorem own_lceq {a b : Int64} (h : a = b) : lcmpW a b = 0 := by rw [lcW]; exact (lc_eq a b).mpr h
theorem own_lceqN {a b : Int64} (h : ¬ a = b) : ¬ lcmpW a b = 0 := fun q => by rw [lcW] at q; exact h ((lc_eq a b).mp q)
theorem own_insKeep {Z : State} {h h' : Heap} {a : Addr} {C : String} {bo : Bool} {ws : List Addr} (F : Ins Z h a C bo) (K : Keep h h' ws) : Ins Z h' a C bo := by
  obtain ⟨cell, cT, h1, h2, h3⟩ := F
  obtain ⟨c', q1, q2, q3, -⟩ := K.2.2 _ _ h1
  exact ⟨c', cT, q1, h2, by rw [q2, q3]; exact h3⟩
theorem own_staKeep {Z : State} {h h' : Heap} {C n d : String} {v : Value} (F : Sta Z h C n d v) (K : Keep h h' []) : Sta Z h' C n d v := by
  obtain ⟨cf, i, k, f, st, cell, h1, h2, h3, h4, h5, r⟩ := F
  exact ⟨cf, i, k, f, st, cell, h1, h2, h3, h4, K.2.1 _ _ h5 nin0, r⟩
theorem own_staKeepW {Z : State} {h h' : Heap} {C n d : String} {v : Value} {ws : List Addr} (F : Sta Z h C n d v) (K : Keep h h' ws) (hw : ∀ x ∈ ws, ∀ cell : Cell, h[x]? = some cell → cell.vm.isStatics = false) : Sta Z h' C n d v := by
  obtain ⟨cf, i, k, f, st, cell, h1, h2, h3, h4, h5, h6, r⟩ := F
  exact ⟨cf, i, k, f, st, cell, h1, h2, h3, h4, K.2.1 _ _ h5 (fun q => by rw [hw _ q _ h5] at h6; cases h6), h6, r⟩
theorem own_narR {t : FieldType} {w : Value} (hw : w.isRef = true) : narrow t w = w := by rcases ref_cases hw with rfl | ⟨z, rfl⟩ <;> cases t <;> rfl
theorem own_fitR {t : FieldType} {w : Value} (hw : w.isRef = true) (ht : t.isReference = true := by rfl) : fits t w = true := by rcases ref_cases hw with rfl | ⟨z, rfl⟩ <;> cases t <;> first | rfl | cases ht
theorem own_catR {w : Value} (hw : w.isRef = true) : w.category = 1 := by rcases ref_cases hw with rfl | ⟨z, rfl⟩ <;> rfl
theorem own_stV {l l' : Array Slot} {i : Nat} {w : Value} {o : Slot} (hw : w.isRef = true) (hold : l[i]? = some o) (ho : o = .unset ∨ ∃ x, o = .val x ∧ x.category = 1) (e : l.setIfInBounds i (.val w) = l') : storeLocals l i w = some l' := (XS.store1 hold ho (own_catR hw)).trans (congrArg some e)
theorem own_len {p : Program} {l : Launch} {e : Env} {R : Room} {s : State} {m : MethodId} {args : Array Value} {below : List Frame} {meth : Method} {c : Code} {T : State} {locs : List Loc} {cells slots : Nat} {Z : State} {h : Heap} (X : Stand p l e R s m args below meth c T locs cells slots) (hx : p.tables.exec = Jvm.exec) (hZ : Z.Warmed39 s.vm) (eT : T.heap = h) {a : Addr} {cl : Cell} {ty : FieldType} {z : Int32} (A : Arr Z h a cl ty) (S : cl.slots.size = z.toNatClampNeg) (hz : ¬ z < 0)
    {g : JFrame} (hg : g.method = m) {rest : List Value} (hs : g.stack = .ref a :: rest) (hd : decode c.code g.pc = .ok (.arraylength, 1)) {target : State} (k : Steps p.tables e below (T.setTop { g with pc := g.pc + 1, stack := .int z :: rest }) target) : Steps p.tables e below (T.setTop g) target := by
  refine X.arraylength hx (by rw [eT]; exact A.1) (State.isArrayOf_alike hZ.alike A.2.1) (g := g) hg hs hd _ ?_
  rw [len_of S hz]
  exact k
section OwnW
variable {p : Program} {l : Launch} {e : Env} {R : Room} {s : State} {vm0 : Vm} {m : MethodId} {args : Array Value} {below : List Frame} {meth : Method} {c : Code} {T : State} {locs : List Loc} {cells slots : Nat} {Z : State} {a0 : Array Value} {h : Heap}
theorem own_backS {y : MethodName} {bytes : ByteArray} {maxL : Nat} {ret : Option FieldType} {rm : Room} {len W : Nat} {J : Vm → Prop} {as' : Array Value} {Q : Option Value → Heap → Vm → List Loc → Prop} (hM : own_MetW l Z y bytes maxL ret [] rm h J as' Q rm.cells rm.slots)
    (hZ : Z.Warmed39 s.vm) (wc : (Cond.code y bytes maxL ret).before a0 Z = true) (wz : (Cond.initialized y.cls).before a0 Z = true) (hf : rm.frames + 1 ≤ R.frames) (hl : W + (maxL + 11) + rm.locals ≤ R.locals) :
    BackS l R p e below s args y len W (fun A a => a = as' ∧ A.U.heap = h ∧ J A.U.vm ∧ A.cells + rm.cells ≤ R.cells ∧ A.slots + rm.slots ≤ R.slots)
      (fun A _ v B => ∃ L, Q v B.U.heap B.U.vm L ∧ B.locs = A.locs ++ L ∧ B.cells = A.cells + rm.cells ∧ B.slots = A.slots + rm.slots) :=
  BackS.of_freeW (bytes := bytes) (maxL := maxL) (ret := ret) (E := fun _ _ o t L k n => k = rm.cells ∧ n = rm.slots ∧ ∃ v, o = .returned v ∧ Q v t.heap t.vm L) hM hf hl
    (fun m meth c A a Y hp => have hU : Z.Warmed39 A.U.vm := wtrans hZ Y.warmed
      ⟨by show (Cond.and _ .tt).before a A.U = true; rw [Cond.before_and, mv hU wc]; rfl, mv hU wc, mv hU wz, hp.2.2.2.1, hp.2.2.2.2⟩)
    (fun m meth c A a g mk Y hp => ⟨hp.1, wtrans hZ Y.warmed, hp.2.1, hp.2.2.1⟩) (fun _ _ _ _ _ _ _ _ _ => trivial)
    (fun _ _ _ _ ⟨v, L, h1, h2, h3⟩ => ⟨L, _, _, h3, rfl, rfl, v, h1, h2⟩)
    (fun m meth c A a g mk v t L k n Y hp _ _ ⟨e1, e2, v', e3, e4⟩ => by cases e3; subst e1 e2; exact ⟨L, e4, rfl, rfl, rfl⟩)
theorem own_callSW (X : Stand p l e R (s.setVm vm0) m args below meth c T locs cells slots) (hx : p.tables.exec = Jvm.exec) (hZ : Z.Warmed39 vm0) {k0 : Nat} (hS : s.Since vm0 k0) (hk : k0 ≤ h.size) {own : String} {index : Nat} {y : MethodName} {bytes : ByteArray} {maxL : Nat} {ret : Option FieldType} {rm : Room} {W : Nat} {J : Vm → Prop} {Q : Option Value → Heap → Vm → List Loc → Prop} {argsL rest : List Value} {as' : Array Value}
    (hown : vm0.findClass own = some m.cls) (w1 : (Cond.methodLink own index y).before a0 Z = true) (w2 : (Cond.static y).before a0 Z = true) (w3 : (Cond.initialized y.cls).before a0 Z = true) (w4 : (Cond.code y bytes maxL ret).before a0 Z = true) (hy : y.cls ≠ "java/lang/invoke/MethodHandle" ∧ y.cls ≠ "java/lang/invoke/VarHandle")
    (hM : own_MetW l Z y bytes maxL ret [] rm h J as' Q rm.cells rm.slots) (hJ : ∀ vm', (s.setVm vm0).WarmedH vm' → J vm') (hf : rm.frames + 1 ≤ R.frames) (hl : W + (maxL + 11) + rm.locals ≤ R.locals) {g : JFrame} (hg : g.method = m) (hsz : g.locals.size = c.maxLocals) (has : argsL.toArray = as') (hlen : ∀ sig, parseMethodDescriptor y.desc = some sig → argsL.length = sig.parameters.length) (hstk : g.stack = argsL.reverse ++ rest) (hW : 2 * g.monitorRoom + (rest.map fun v => v.category).sum ≤ W)
    (hd : decode c.code g.pc = .ok (.invokestatic index, 3)) (eT : T.heap = h) (hc : cells + rm.cells ≤ R.cells) (hs : slots + rm.slots ≤ R.slots) :
    ∃ v T' L, Stand p l e R (s.setVm T'.vm) m args below meth c T' (locs ++ L) (cells + rm.cells) (slots + rm.slots) ∧ Q v T'.heap T'.vm L ∧ s.Since T'.vm T'.heap.size ∧ h.size ≤ T'.heap.size ∧ Z.Warmed39 (s.setVm T'.vm).vm ∧ (s.setVm T'.vm).vm.findClass own = some m.cls ∧ ∀ target, Steps p.tables e below (T'.setTop { g with pc := g.pc + 3, stack := v.toList ++ rest }) target → Steps p.tables e below (T.setTop g) target := by
  obtain ⟨v, _, ⟨T', L', k', n'⟩, -, X', hS', hg', ⟨Lc, hQ, l', y', z'⟩, st⟩ := callSS X hx (y := y) hown (mvT hZ w1) (mvT hZ w2) (mvT hZ w3) (mvT hZ w4) hy (own_backS (W := W) hM hZ w4 w3 hf hl) (g := g) hg hsz (argsL := argsL) (rest := rest) hlen hstk hW hd (fun vm' hv => ⟨has, eT, hJ vm' hv, hc, hs⟩)
  dsimp only [Pt.U, Pt.locs, Pt.cells, Pt.slots] at X' l' y' z' st hQ hS' hg'
  subst l' y' z'
  rw [eT] at hg'
  exact ⟨v, T', Lc, X', hQ, hS.trans hS' (Nat.le_trans hk hg'), hg', State.Warmed39.trans (t := s.setVm vm0) hZ hS'.1, by rw [show (s.setVm T'.vm).vm = T'.vm from rfl, hS'.1.alike.findClass]; exact hown, fun t k => st.trans k⟩
theorem own_callIW (X : Stand p l e R (s.setVm vm0) m args below meth c T locs cells slots) (hx : p.tables.exec = Jvm.exec) (hZ : Z.Warmed39 vm0) {k0 : Nat} (hS : s.Since vm0 k0) (hk : k0 ≤ h.size) {own : String} {index : Nat} {y : MethodName} {bytes : ByteArray} {maxL : Nat} {rm : Room} {W : Nat} {J : Vm → Prop} {Q : Option Value → Heap → Vm → List Loc → Prop} {a : Addr} {argsL rest : List Value} {as' : Array Value} (hyn : y.name = "<init>")
    (hown : vm0.findClass own = some m.cls) (w1 : (Cond.methodLink own index y).before a0 Z = true) (w2 : (Cond.instanceMethod y).before a0 Z = true) (w3 : (Cond.initialized y.cls).before a0 Z = true) (w4 : (Cond.code y bytes maxL none).before a0 Z = true) (hy : y.cls ≠ "java/lang/invoke/MethodHandle" ∧ y.cls ≠ "java/lang/invoke/VarHandle")
    (hM : own_MetW l Z y bytes maxL none [] rm h J as' Q rm.cells rm.slots) (hJ : ∀ vm', (s.setVm vm0).WarmedH vm' → J vm') (hf : rm.frames + 1 ≤ R.frames) (hl : W + (maxL + 11) + rm.locals ≤ R.locals) {g : JFrame} (hg : g.method = m) (hsz : g.locals.size = c.maxLocals) (has : (Value.ref a :: argsL).toArray = as') (hlen : ∀ sig, parseMethodDescriptor y.desc = some sig → argsL.length = sig.parameters.length) (hstk : g.stack = argsL.reverse ++ .ref a :: rest) (hW : 2 * g.monitorRoom + (rest.map fun v => v.category).sum ≤ W)
    (hd : decode c.code g.pc = .ok (.invokespecial index, 3)) (eT : T.heap = h) (hc : cells + rm.cells ≤ R.cells) (hs : slots + rm.slots ≤ R.slots) :
    ∃ v T' L, Stand p l e R (s.setVm T'.vm) m args below meth c T' (locs ++ L) (cells + rm.cells) (slots + rm.slots) ∧ Q v T'.heap T'.vm L ∧ s.Since T'.vm T'.heap.size ∧ h.size ≤ T'.heap.size ∧ Z.Warmed39 (s.setVm T'.vm).vm ∧ (s.setVm T'.vm).vm.findClass own = some m.cls ∧ ∀ target, Steps p.tables e below (T'.setTop { g with pc := g.pc + 3, stack := v.toList ++ rest }) target → Steps p.tables e below (T.setTop g) target := by
  obtain ⟨v, _, ⟨T', L', k', n'⟩, -, X', hS', hg', ⟨Lc, hQ, l', y', z'⟩, st⟩ := X.specialBackS hx (y := y) hyn hown (mvT hZ w1) (mvT hZ w2) (mvT hZ w4) hy (own_backS (W := W) hM hZ w4 w3 hf hl) (g := g) hg hsz (Steps.refl _) (a := a) (argsL := argsL) (rest := rest) hlen hstk hW hd (fun vm' hv => ⟨has, eT, hJ vm' hv, hc, hs⟩)
  dsimp only [Pt.U, Pt.locs, Pt.cells, Pt.slots] at X' l' y' z' st hQ hS' hg'
  subst l' y' z'
  rw [eT] at hg'
  exact ⟨v, T', Lc, X', hQ, hS.trans hS' (Nat.le_trans hk hg'), hg', State.Warmed39.trans (t := s.setVm vm0) hZ hS'.1, by rw [show (s.setVm T'.vm).vm = T'.vm from rfl, hS'.1.alike.findClass]; exact hown, fun t k => st.trans k⟩
theorem own_callVW (X : Stand p l e R (s.setVm vm0) m args below meth c T locs cells slots) (hx : p.tables.exec = Jvm.exec) (hZ : Z.Warmed39 vm0) {k0 : Nat} (hS : s.Since vm0 k0) (hk : k0 ≤ h.size) {own C : String} {index : Nat} {y z : MethodName} {bytes : ByteArray} {maxL : Nat} {ret : Option FieldType} {rm : Room} {W : Nat} {J : Vm → Prop} {Q : Option Value → Heap → Vm → List Loc → Prop} {a : Addr} {argsL rest : List Value} {as' : Array Value}
    (hown : vm0.findClass own = some m.cls) (w1 : (Cond.methodLink own index y).before a0 Z = true) (w2 : (Cond.declares y).before a0 Z = true) (hnf : NotFace (s.setVm vm0) y) (wsel : (Cond.selects C y z).before a0 Z = true) (wi : (Cond.instanceMethod z).before a0 Z = true) (w3 : (Cond.initialized z.cls).before a0 Z = true) (w4 : (Cond.code z bytes maxL ret).before a0 Z = true) (hy : y.cls ≠ "java/lang/invoke/MethodHandle" ∧ y.cls ≠ "java/lang/invoke/VarHandle")
    (hM : own_MetW l Z z bytes maxL ret [] rm h J as' Q rm.cells rm.slots) (hJ : ∀ vm', (s.setVm vm0).WarmedH vm' → J vm') (hf : rm.frames + 1 ≤ R.frames) (hl : W + (maxL + 11) + rm.locals ≤ R.locals) (E : Exa Z h a C) {g : JFrame} (hg : g.method = m) (hsz : g.locals.size = c.maxLocals) (has : (Value.ref a :: argsL).toArray = as') (hlen : ∀ sig, parseMethodDescriptor y.desc = some sig → argsL.length = sig.parameters.length) (hstk : g.stack = argsL.reverse ++ .ref a :: rest) (hW : 2 * g.monitorRoom + (rest.map fun v => v.category).sum ≤ W)
    (hd : decode c.code g.pc = .ok (.invokevirtual index, 3)) (eT : T.heap = h) (hc : cells + rm.cells ≤ R.cells) (hs : slots + rm.slots ≤ R.slots) :
    ∃ v T' L, Stand p l e R (s.setVm T'.vm) m args below meth c T' (locs ++ L) (cells + rm.cells) (slots + rm.slots) ∧ Q v T'.heap T'.vm L ∧ s.Since T'.vm T'.heap.size ∧ h.size ≤ T'.heap.size ∧ Z.Warmed39 (s.setVm T'.vm).vm ∧ (s.setVm T'.vm).vm.findClass own = some m.cls ∧ ∀ target, Steps p.tables e below (T'.setTop { g with pc := g.pc + 3, stack := v.toList ++ rest }) target → Steps p.tables e below (T.setTop g) target := by
  obtain ⟨cq, kq, qa, qb, qc⟩ := isOf (s := s.setVm vm0) hZ eT E
  obtain ⟨v, _, ⟨T', L', k', n'⟩, -, X', hS', hg', ⟨Lc, hQ, l', y', z'⟩, st⟩ := X.virtualBackS hx (y := y) (z := z) hown (mvT hZ w1) (mvT hZ w2) hnf (mvT hZ wsel) (mvT hZ wi) hy (own_backS (W := W) hM hZ w4 w3 hf hl) qa qc (g := g) hg hsz (Steps.refl _) (argsL := argsL) (rest := rest) hlen hstk hW hd (fun vm' hv => ⟨has, eT, hJ vm' hv, hc, hs⟩)
  dsimp only [Pt.U, Pt.locs, Pt.cells, Pt.slots] at X' l' y' z' st hQ hS' hg'
  subst l' y' z'
  rw [eT] at hg'
  exact ⟨v, T', Lc, X', hQ, hS.trans hS' (Nat.le_trans hk hg'), hg', State.Warmed39.trans (t := s.setVm vm0) hZ hS'.1, by rw [show (s.setVm T'.vm).vm = T'.vm from rfl, hS'.1.alike.findClass]; exact hown, fun t k => st.trans k⟩
theorem own_ibW {Ts : List String} {vm' : Vm} (I : IB Z vm0 Ts) (hv : (s.setVm vm0).WarmedH vm') : IB Z vm' Ts := by
  obtain ⟨more, h1, h2⟩ := I
  exact ⟨more, by rw [hv.interned_eq]; exact h1, h2⟩
theorem own_litW {own : String} {index : Nat} {a : Addr} {vm' : Vm} (L : Lit (s.setVm vm0) own index a) (hv : (s.setVm vm0).WarmedH vm') : Lit (s.setVm vm') own index a := Lit.stays L hv.wide
end OwnW
theorem own_callF {p : Program} {l : Launch} {e : Env} {R : Room} {s : State} {m : MethodId} {args : Array Value} {below : List Frame} {meth : Method} {c : Code} {T : State} {locs : List Loc} {cells slots : Nat} {Z : State} {a0 : Array Value} {h : Heap} (X : Stand p l e R s m args below meth c T locs cells slots) (hx : p.tables.exec = Jvm.exec) (hZ : Z.Warmed39 s.vm) {own C : String} {index count : Nat} {y z : MethodName} {bytes : ByteArray} {maxL : Nat} {ret : Option FieldType} {rm : Room} {W : Nat} {Q : Option Value → Heap → List Loc → Prop} {a : Addr} {argsL rest : List Value} {as' : Array Value}
    (hown : s.vm.findClass own = some m.cls) (w1 : (Cond.methodLink own index y).before a0 Z = true) (w2 : (Cond.declares y).before a0 Z = true) (wf : (Cond.interfaceMethod y.cls y.cls y.name y.desc).before args s = true) (wsel : (Cond.selects C y z).before a0 Z = true) (wi : (Cond.instanceMethod z).before a0 Z = true) (wp : (Cond.publicMethod z).before a0 Z = true) (wu : (Cond.unhidden C y.name y.desc).before a0 Z = true) (wc : (Cond.castable C y.cls).before a0 Z = true) (w3 : (Cond.initialized z.cls).before a0 Z = true) (w4 : (Cond.code z bytes maxL ret).before a0 Z = true) (hy : y.cls ≠ "java/lang/invoke/MethodHandle" ∧ y.cls ≠ "java/lang/invoke/VarHandle")
    (hM : own_Met l Z z bytes maxL ret [] rm h as' Q rm.cells rm.slots) (hf : rm.frames + 1 ≤ R.frames) (hl : W + (maxL + 11) + rm.locals ≤ R.locals) (E : Exa Z h a C) {g : JFrame} (hg : g.method = m) (hsz : g.locals.size = c.maxLocals) (has : (Value.ref a :: argsL).toArray = as') (hlen : ∀ sig, parseMethodDescriptor y.desc = some sig → argsL.length = sig.parameters.length) (hstk : g.stack = argsL.reverse ++ .ref a :: rest) (hW : 2 * g.monitorRoom + (rest.map fun v => v.category).sum ≤ W)
    (hd : decode c.code g.pc = .ok (.invokeinterface index count, 5)) (eT : T.heap = h) (hc : cells + rm.cells ≤ R.cells) (hs : slots + rm.slots ≤ R.slots) :
    ∃ v T' L, Stand p l e R s m args below meth c T' (locs ++ L) (cells + rm.cells) (slots + rm.slots) ∧ Q v T'.heap L ∧ ∀ target, Steps p.tables e below (T'.setTop { g with pc := g.pc + 5, stack := v.toList ++ rest }) target → Steps p.tables e below (T.setTop g) target := by
  obtain ⟨cq, kq, qa, qb, qc⟩ := isOf hZ eT E
  obtain ⟨v, _, ⟨T', L', k', n'⟩, -, X', ⟨Lc, hQ, l', y', z'⟩, st⟩ := X.interfaceBack hx (xi := y) (y := z) hown (mvT hZ w1) (mvT hZ w2) wf (mvT hZ wsel) (mvT hZ wi) (mvT hZ wp) (mvT hZ wu) (mvT hZ wc) hy (backOf (W := W) hM hZ w4 w3 hf hl) qa qb qc (g := g) hg hsz (Steps.refl _) (argsL := argsL) (rest := rest) hlen hstk hW hd (fun _ _ => ⟨has, eT, hc, hs⟩)
  dsimp only [Pt.U, Pt.locs, Pt.cells, Pt.slots] at X' l' y' z' st hQ
  subst l' y' z'
  exact ⟨v, T', Lc, X', hQ, fun t k => st.trans k⟩
theorem own_wS {a0 : Array Value} {Z : State} (hw : ∀ d ∈ tables_1, d.before a0 Z = true) : ∀ a ∈ Bundle.stringAtoms, a.before a0 Z = true := fun d hd => by
  simp only [Bundle.stringAtoms, List.mem_cons, List.not_mem_nil, or_false] at hd
  rcases hd with rfl | rfl | rfl | rfl | rfl | rfl | rfl
  · exact own_h hw 9 rfl
  · exact own_h hw 10 rfl
  · exact own_h hw 11 rfl
  · exact own_h hw 12 rfl
  · exact own_h hw 13 rfl
  · exact own_h hw 14 rfl
  · exact own_h hw 15 rfl
theorem own_eqI {args : Array Value} {s : State} {a b : Term} {z k : Int32} (hx : a.eval args s none [] s = some (.int z)) (hy : b.eval args s none [] s = some (.int k)) (h : (Jvm.Cond.eq a b).value args s none s [] = some true) : z = k := by
  simpa [Cond.value, hx, hy] using h
theorem own_fldAt {args : Array Value} {s : State} {t : Term} {a : Addr} {Cc n d : String} {k : Int32} (h : (Jvm.Cond.eq (.field t Cc n d) (.int k)).value args s none s [] = some true) (ht : t.eval args s none [] s = some (.ref a)) : Fld s s.heap a Cc n d (.int k) := by
  obtain ⟨x, y, hx, hy, k1, k2⟩ := cmp_v (Or.inl h)
  have hy' : some (Value.int k) = some y := hy
  cases hy'
  obtain ⟨z, rfl⟩ := k2
  have e : z = k := own_eqI hx hy h
  subst e
  exact Fld.start ((fld_at ht).symm.trans hx)
theorem own_fldR {args : Array Value} {s : State} {t : Term} {a b : Addr} {Cc n d : String} (ht : t.eval args s none [] s = some (.ref a)) (hx : (Term.field t Cc n d).eval args s none [] s = some (.ref b)) : Fld s s.heap a Cc n d (.ref b) := Fld.start ((fld_at ht).symm.trans hx)
theorem own_elemAt {args : Array Value} {s : State} {t u : Term} {a o : Addr} {cl : Cell} {i : Int32} {j : Nat} (h : (Jvm.Cond.eq (.elem t (.int i)) u).value args s none s [] = some true) (ht : t.eval args s none [] s = some (.ref a)) (hu : u.eval args s none [] s = some (.ref o)) (hc : s.heap[a]? = some cl) (hij : i.toNatClampNeg = j) : cl.slots[j]? = some (.ref o) := by
  obtain ⟨x, y, hx, hy, k1, k2⟩ := cmp_v (Or.inl h)
  cases hu.symm.trans hy
  have q := gotT (eq_R hx hy k2.2 rfl) h
  subst q
  have := (elem_in hx ht rfl hc).2
  rw [hij] at this
  exact this
theorem own_elemI {args : Array Value} {s : State} {t : Term} {a : Addr} {cl : Cell} {i k : Int32} {j : Nat} (h : (Jvm.Cond.eq (.elem t (.int i)) (.int k)).value args s none s [] = some true) (ht : t.eval args s none [] s = some (.ref a)) (hc : s.heap[a]? = some cl) (hij : i.toNatClampNeg = j) : cl.slots[j]? = some (.int k) := by
  obtain ⟨x, y, hx, hy, k1, k2⟩ := cmp_v (Or.inl h)
  have hy' : some (Value.int k) = some y := hy
  cases hy'
  obtain ⟨z, rfl⟩ := k2
  have e : z = k := own_eqI hx hy h
  subst e
  have := (elem_in hx ht rfl hc).2
  rw [hij] at this
  exact this
theorem own_lenAt {args : Array Value} {s : State} {t : Term} {a : Addr} {cl : Cell} {ty : FieldType} {k : Int32} (h : (Jvm.Cond.eq (.length t) (.int k)).value args s none s [] = some true) (ht : t.eval args s none [] s = some (.ref a)) (A : Arr s s.heap a cl ty) : cl.slots.size < 2 ^ 31 ∧ cl.slots.size.toInt32 = k := by
  obtain ⟨x, y, hx, hy, k1, k2⟩ := cmp_v (Or.inl h)
  have hy' : some (Value.int k) = some y := hy
  cases hy'
  obtain ⟨z, rfl⟩ := k2
  have e : z = k := own_eqI hx hy h
  subst e
  have ha := Arr.fin (U := s) (Vm.Alike.refl _) A
  simp only [Term.eval, ht, ha, Option.bind_eq_bind, Option.bind_some] at hx
  split at hx
  · rename_i q; exact ⟨q, Value.int.inj (Option.some.inj hx)⟩
  · cases hx
theorem own_staI {args : Array Value} {s : State} {Cc n d : String} (h : (Jvm.Cond.isInt (.static Cc n d)).value args s none s [] = some true) (hi : (Jvm.Cond.initializedFor Cc n d).before args s = true) : ∃ z, Sta s s.heap Cc n d (.int z) ∧ (Term.static Cc n d).eval args s none [] s = some (.int z) := by
  obtain ⟨z, e⟩ := is_v h
  exact ⟨z, Sta.start e (Or.inl hi), e⟩
theorem own_not0 {args : Array Value} {s : State} {t : Term} {z k : Int32} (e : t.eval args s none [] s = some (.int z)) (h : (Jvm.Cond.not (.eq t (.int k))).value args s none s [] = some true) : ¬ z = k := fun q => by
  subst q
  have h2 := not_v h
  simp [Cond.value, e, Term.eval] at h2
theorem own_staR {args : Array Value} {s : State} {Cc n d : String} (h : (Jvm.Cond.isRef (.static Cc n d)).value args s none s [] = some true) (hi : (Jvm.Cond.initializedFor Cc n d).before args s = true) : ∃ z, Sta s s.heap Cc n d z ∧ z.isRef = true := by
  obtain ⟨z, e, r⟩ := isR_v h
  exact ⟨z, Sta.start e (Or.inl hi), r⟩
theorem own_c255 (x : Int32) : ¬ (255 : Int32) < nar .char ((x &&& (255 : Int32)).toUInt32.toUInt16.toUInt32.toInt32) := by
  have e : nar .char ((x &&& (255 : Int32)).toUInt32.toUInt16.toUInt32.toInt32) = x &&& 255 := by
    show (((x &&& (255 : Int32)).toUInt32.toUInt16.toUInt32.toInt32).toUInt32.toUInt16.toUInt32.toInt32) = _
    rw [i2c_mask, i2c_mask]
  rw [e]
  exact Int32.not_lt.mpr (Jvm.Kit.i32_and_bounds x (m := 255) (by decide)).2
theorem own_d255 (x : Int32) : ¬ (255 : Int32) < (x &&& (255 : Int32)).toUInt32.toUInt16.toUInt32.toInt32 := by
  rw [i2c_mask]
  exact Int32.not_lt.mpr (Jvm.Kit.i32_and_bounds x (m := 255) (by decide)).2
def own_chr (b k : Int32) : Int32 := ((((b.toUInt32 >>> (((8 : Int32) * k) &&& 31).toUInt32).toInt32) &&& (255 : Int32)).toUInt32.toUInt16.toUInt32.toInt32)
theorem own_and3 (x : Int32) : (x &&& (3 : Int32)) = (0 : Int32) ∨ (x &&& (3 : Int32)) = (1 : Int32) ∨ (x &&& (3 : Int32)) = (2 : Int32) ∨ (x &&& (3 : Int32)) = (3 : Int32) := by
  obtain ⟨h1, h2⟩ := Jvm.Kit.i32_and_bounds x (m := 3) (by decide)
  rw [Int32.le_iff_toInt_le] at h1 h2
  have e0 : (0 : Int32).toInt = 0 := rfl
  have e3 : (3 : Int32).toInt = 3 := rfl
  rw [e0] at h1; rw [e3] at h2
  rcases (by omega : (x &&& (3 : Int32)).toInt = 0 ∨ (x &&& (3 : Int32)).toInt = 1 ∨ (x &&& (3 : Int32)).toInt = 2 ∨ (x &&& (3 : Int32)).toInt = 3) with h | h | h | h
  · exact Or.inl (Int32.toInt_inj.mp h)
  · exact Or.inr (Or.inl (Int32.toInt_inj.mp h))
  · exact Or.inr (Or.inr (Or.inl (Int32.toInt_inj.mp h)))
  · exact Or.inr (Or.inr (Or.inr (Int32.toInt_inj.mp h)))
def own_by (c : Int32) : Int32 := nar .byte (c.toInt8.toInt32)
abbrev own_y0 : MethodName := ⟨"java/lang/StringLatin1", "canEncode", "(C)Z"⟩
theorem own_pn0 : plainName "java/lang/StringLatin1" = true := by first | (simp [plainName, overriddenIn]; done) | decide +kernel
theorem od_jdk_43_m_3_0 : decode jdk_43_method_3_code 0 = .ok (.iload_n 0, 1) := by decide +kernel
theorem od_jdk_43_m_3_1 : decode jdk_43_method_3_code 1 = .ok (.sipush 255, 3) := by decide +kernel
theorem od_jdk_43_m_3_4 : decode jdk_43_method_3_code 4 = .ok (.if_icmp .gt 7, 3) := by decide +kernel
theorem od_jdk_43_m_3_7 : decode jdk_43_method_3_code 7 = .ok (.iconst 1, 1) := by decide +kernel
theorem od_jdk_43_m_3_8 : decode jdk_43_method_3_code 8 = .ok (.goto 4, 3) := by decide +kernel
theorem od_jdk_43_m_3_12 : decode jdk_43_method_3_code 12 = .ok (.ireturn, 1) := by decide +kernel
theorem own_efcan (m : MethodId) (x0 : Int32) : entryFrame m #[(.int x0)] 1 = mkF m 0 #[iv x0] [] := by first | (simp [entryFrame, mkF, argsToLocals, Value.category]; done) | rfl
def own_Qcan (Z : State) (p1 : Int32) (h0 : Heap) (n0 : Nat) : Option Value → Heap → List Loc → Prop := fun v h L => v = some (.int 1) ∧ Fr n0 L ∧ h = h0
def own_Rcan : Room := { frames := 0, cells := 0, slots := 0, locals := 0 }
set_option maxRecDepth 65536 in
set_option maxHeartbeats 40000000 in
theorem own_rmcan (l : Launch) (Z : State) (a0 : Array Value) (hw : ∀ d ∈ tables_1, d.before a0 Z = true) (ws : List Jvm.Cond) (p1 : Int32) (h0 : Heap) (n0 : Nat) (Z0 : n0 ≤ h0.size) (hc : ¬ (255 : Int32) < p1) :
    own_Met l Z own_y0 jdk_43_method_3_code 1 (some .boolean) ws own_Rcan h0 #[(.int p1)] (own_Qcan Z p1 h0 n0) own_Rcan.cells own_Rcan.slots := by
  refine own_start (plainFor_of_name own_pn0) ?_
  intro p e s m below meth c s₁ X0 hx hZ hby hml hret hlk hown hnm e0
  have hown : s.vm.findClass "java/lang/StringLatin1" = some m.cls := hown
  have hml : c.maxLocals = 1 := hml
  have N0 := Fr.nil n0
  refine own_cast (own_efcan m p1) ?_
  refine own_s s₁ (mkF m 12 #[iv p1] [(.int 1)]) (fun _ k => XS.iloadN X0.here hx rfl (hb hby od_jdk_43_m_3_0) rfl  (XS.sipush X0.here hx rfl (hb hby od_jdk_43_m_3_1) (XS.icmpNo X0.here hx rfl (hb hby od_jdk_43_m_3_4) rfl (flt hc).2.2.1 (XS.iconst X0.here hx rfl (hb hby od_jdk_43_m_3_7) (XS.goto X0.here hx rfl (pc0 := 8) (pc' := 12) rfl (hb hby od_jdk_43_m_3_8) (by decide) (by decide) k))))) ?_
  exact own_finZ X0 hx (t := .boolean) hret (by simp) (z' := (1 : Int32)) rfl (hb hby od_jdk_43_m_3_12) (own_end (Qv := (own_Qcan Z p1 h0 n0)) X0 (own_some hret) hlk (by decide) (by decide) e0 ⟨rfl, N0, rfl⟩)
abbrev own_y1 : MethodName := ⟨"java/lang/StringLatin1", "toBytes", "(C)[B"⟩
theorem od_jdk_43_m_46_0 : decode jdk_43_method_46_code 0 = .ok (.iconst 1, 1) := by decide +kernel
theorem od_jdk_43_m_46_1 : decode jdk_43_method_46_code 1 = .ok (.newarray .byte, 2) := by decide +kernel
theorem od_jdk_43_m_46_3 : decode jdk_43_method_46_code 3 = .ok (.dup, 1) := by decide +kernel
theorem od_jdk_43_m_46_4 : decode jdk_43_method_46_code 4 = .ok (.iconst 0, 1) := by decide +kernel
theorem od_jdk_43_m_46_5 : decode jdk_43_method_46_code 5 = .ok (.iload_n 0, 1) := by decide +kernel
theorem od_jdk_43_m_46_6 : decode jdk_43_method_46_code 6 = .ok (.i2b, 1) := by decide +kernel
theorem od_jdk_43_m_46_7 : decode jdk_43_method_46_code 7 = .ok (.bastore, 1) := by decide +kernel
theorem od_jdk_43_m_46_8 : decode jdk_43_method_46_code 8 = .ok (.areturn, 1) := by decide +kernel
theorem own_eftob (m : MethodId) (x0 : Int32) : entryFrame m #[(.int x0)] 1 = mkF m 0 #[iv x0] [] := by first | (simp [entryFrame, mkF, argsToLocals, Value.category]; done) | rfl
def own_Qtob (Z : State) (p1 : Int32) (h0 : Heap) (n0 : Nat) : Option Value → Heap → List Loc → Prop := fun v h L => (∃ (b : Addr) (k : ClassId), v = some (.ref b) ∧ n0 ≤ b ∧ h0.size ≤ b ∧ Arv Z h b k .byte (1 : Int32) [(.int (own_by p1))] (.int 0)) ∧ Fr n0 L ∧ Keep h0 h []
def own_Rtob : Room := { frames := 0, cells := 1, slots := 1, locals := 0 }
set_option maxRecDepth 65536 in
set_option maxHeartbeats 40000000 in
theorem own_rmtob (l : Launch) (Z : State) (a0 : Array Value) (hw : ∀ d ∈ tables_1, d.before a0 Z = true) (ws : List Jvm.Cond) (p1 : Int32) (h0 : Heap) (n0 : Nat) (Z0 : n0 ≤ h0.size) :
    own_Met l Z own_y1 jdk_43_method_46_code 1 (some (.array .byte)) ws own_Rtob h0 #[(.int p1)] (own_Qtob Z p1 h0 n0) own_Rtob.cells own_Rtob.slots := by
  refine own_start (plainFor_of_name own_pn0) ?_
  intro p e s m below meth c s₁ X0 hx hZ hby hml hret hlk hown hnm e0
  have hown : s.vm.findClass "java/lang/StringLatin1" = some m.cls := hown
  have hml : c.maxLocals = 1 := hml
  have N0 := Fr.nil n0
  refine own_cast (own_eftob m p1) ?_
  refine own_s s₁ (mkF m 1 #[iv p1] [(.int 1)]) (fun _ k => XS.iconst X0.here hx rfl (hb hby od_jdk_43_m_46_0) k) ?_
  obtain ⟨T1, h1, k1, X1, e1, E1, A1, st1⟩ := newP X0 hx hZ (own_h hw 11 rfl) e0 (g := (mkF m 1 #[iv p1] [(.int 1)])) rfl (hb hby od_jdk_43_m_46_1) rfl (by decide) (cap := 1) (by decide) (by decide) (by decide) (by decide)
  obtain ⟨b1, g1⟩ : ∃ z, z = h0.size := ⟨_, rfl⟩
  have g_b1 : n0 ≤ b1 := Nat.le_trans Z0 (Nat.le_of_eq g1.symm)
  have sz_b1 : h0.size ≤ b1 := Nat.le_trans (Keep.refl h0 []).1 (Nat.le_of_eq g1.symm)
  rw [← g1] at A1 st1
  have K1 : Keep h0 h1 [] := (Keep.refl h0 []).ext E1
  have Z1 := Nat.le_trans Z0 E1.1
  have f1 : Arv Z h1 b1 k1 .byte 1 [(.int 0)] (.int 0) := (Arv.new A1 (by decide)).pad (pad_rep [] (.int 0) 1)
  refine own_s T1 (mkF m 3 #[iv p1] [(.ref b1)]) st1 ?_
  refine own_s T1 (mkF m 7 #[iv p1] [(.int (p1.toInt8.toInt32)), (.int 0), (.ref b1), (.ref b1)]) (fun _ k => XS.dup X1.here hx rfl (hb hby od_jdk_43_m_46_3) rfl rfl (XS.iconst X1.here hx rfl (hb hby od_jdk_43_m_46_4) (XS.iloadN X1.here hx rfl (hb hby od_jdk_43_m_46_5) rfl  (XS.i2b X1.here hx rfl (hb hby od_jdk_43_m_46_6) rfl k)))) ?_
  obtain ⟨cl2, Ar2, q2, S2, Nn2, H2, G2⟩ := id f1
  have hin2 : ¬ ((0 : Int32) < 0 ∨ cl2.slots.size ≤ ((0 : Int32)).toNatClampNeg) := (inb_of S2 ⟨by decide, by decide⟩)
  obtain ⟨T2, h2, X2, e2, W2, st2⟩ := stB X1 hx hZ e1 Ar2 (j := (0 : Int32)) hin2 (g := (mkF m 7 #[iv p1] [(.int (p1.toInt8.toInt32)), (.int 0), (.ref b1), (.ref b1)])) rfl rfl (hb hby od_jdk_43_m_46_7)
  have f2 : Arv Z h2 b1 k1 .byte (1 : Int32) [(.int (own_by p1))] (.int 0) := Arv.set Ar2 q2 S2 Nn2 H2 G2 (fits_nar_byte _) W2 0 rfl (Nat.le_of_ble_eq_true rfl)
  have K2 : Keep h0 h2 [] := K1.wr W2 (Or.inr sz_b1)
  have Z2 := Nat.le_trans Z1 (Nat.le_of_eq W2.size.symm)
  have N2 := Fr.snoc X2 N0 g_b1
  refine own_s T2 (mkF m 8 #[iv p1] [(.ref b1)]) st2 ?_
  exact own_finA X2 hx hret rfl rfl (hb hby od_jdk_43_m_46_8) (own_end (Qv := (own_Qtob Z p1 h0 n0)) X2 (own_some hret) hlk (by decide) (by decide) e2 ⟨⟨b1, _, rfl, g_b1, sz_b1, f2⟩, N2, K2⟩)
abbrev own_y2 : MethodName := ⟨"java/lang/String", "<init>", "([BB)V"⟩
theorem own_pn1 : plainName "java/lang/String" = true := by first | (simp [plainName, overriddenIn]; done) | decide +kernel
theorem od_jdk_42_m_151_0 : decode jdk_42_method_151_code 0 = .ok (.aload_n 0, 1) := by decide +kernel
theorem od_jdk_42_m_151_1 : decode jdk_42_method_151_code 1 = .ok (.invokespecial 1, 3) := by decide +kernel
theorem od_jdk_42_m_151_4 : decode jdk_42_method_151_code 4 = .ok (.aload_n 0, 1) := by decide +kernel
theorem od_jdk_42_m_151_5 : decode jdk_42_method_151_code 5 = .ok (.aload_n 1, 1) := by decide +kernel
theorem od_jdk_42_m_151_6 : decode jdk_42_method_151_code 6 = .ok (.putfield 9, 3) := by decide +kernel
theorem od_jdk_42_m_151_9 : decode jdk_42_method_151_code 9 = .ok (.aload_n 0, 1) := by decide +kernel
theorem od_jdk_42_m_151_10 : decode jdk_42_method_151_code 10 = .ok (.iload_n 2, 1) := by decide +kernel
theorem od_jdk_42_m_151_11 : decode jdk_42_method_151_code 11 = .ok (.putfield 15, 3) := by decide +kernel
theorem od_jdk_42_m_151_14 : decode jdk_42_method_151_code 14 = .ok (.return_, 1) := by decide +kernel
theorem own_efsib (m : MethodId) (x0 : Addr) (x1 : Addr) (x2 : Int32) : entryFrame m #[(.ref x0), (.ref x1), (.int x2)] 3 = mkF m 0 #[rv x0, rv x1, iv x2] [] := by first | (simp [entryFrame, mkF, argsToLocals, Value.category]; done) | rfl
def own_Qsib (Z : State) (a1 : Addr) (a2 : Addr) (h0 : Heap) (n0 : Nat) : Option Value → Heap → List Loc → Prop := fun v h L => v = none ∧ Fr n0 L ∧ Keep h0 h [a1] ∧ Exa Z h a1 "java/lang/String" ∧ Fld Z h a1 "java/lang/String" "coder" "B" (.int 0) ∧ Fld Z h a1 "java/lang/String" "value" "[B" (.ref a2)
def own_Rsib : Room := { frames := 1, cells := 0, slots := 0, locals := 12 }
set_option maxRecDepth 65536 in
set_option maxHeartbeats 40000000 in
theorem own_rmsib (l : Launch) (Z : State) (a0 : Array Value) (hw : ∀ d ∈ tables_1, d.before a0 Z = true) (ws : List Jvm.Cond) (a1 : Addr) (a2 : Addr) (h0 : Heap) (n0 : Nat) (Z0 : n0 ≤ h0.size) (g_a1 : n0 ≤ a1) (E1 : Exa Z h0 a1 "java/lang/String") (C1 : Fld Z h0 a1 "java/lang/String" "coder" "B" (.int 0)) (W1 : Fld Z h0 a1 "java/lang/String" "value" "[B" .null) :
    own_Met l Z own_y2 jdk_42_method_151_code 3 none ws own_Rsib h0 #[(.ref a1), (.ref a2), (.int 0)] (own_Qsib Z a1 a2 h0 n0) own_Rsib.cells own_Rsib.slots := by
  refine own_start (plainFor_of_name own_pn1) ?_
  intro p e s m below meth c s₁ X0 hx hZ hby hml hret hlk hown hnm e0
  have hown : s.vm.findClass "java/lang/String" = some m.cls := hown
  have hml : c.maxLocals = 3 := hml
  have N0 := Fr.nil n0
  refine own_cast (own_efsib m a1 a2 (0 : Int32)) ?_
  refine own_s s₁ (mkF m 1 #[rv a1, rv a2, iv 0] [(.ref a1)]) (fun _ k => XS.aloadN X0.here hx rfl (hb hby od_jdk_42_m_151_0) rfl rfl k) ?_
  obtain ⟨T1, X1, e1, st1⟩ := initO X0 hx hZ hown (own_h hw 101 rfl) (own_h hw 35 rfl) (own_h hw 36 rfl) e0 (g := (mkF m 1 #[rv a1, rv a2, iv 0] [(.ref a1)])) rfl (by rw [hml]; rfl) rfl (hb hby od_jdk_42_m_151_1) (by decide) (W := 0) (by show 2 * 0 + _ ≤ _; exact Nat.le_of_eq rfl) (by decide)
  refine own_s T1 (mkF m 4 #[rv a1, rv a2, iv 0] []) st1 ?_
  refine own_s T1 (mkF m 6 #[rv a1, rv a2, iv 0] [(.ref a2), (.ref a1)]) (fun _ k => XS.aloadN X1.here hx rfl (hb hby od_jdk_42_m_151_4) rfl rfl (XS.aloadN X1.here hx rfl (hb hby od_jdk_42_m_151_5) rfl rfl k)) ?_
  obtain ⟨T2, h2, X2, e2, W2, st2⟩ := putF X1 hx hZ hown (host := "") (Or.inl (own_h hw 102 rfl)) Via.refl e1 W1 E1 (Or.inr ⟨(own_h hw 12 rfl), rfl, hnm⟩) (own_h hw 10 rfl) (ty := (.array .byte)) (by decide) rfl rfl (g := (mkF m 6 #[rv a1, rv a2, iv 0] [(.ref a2), (.ref a1)])) rfl rfl (hb hby od_jdk_42_m_151_6)
  have Fw2 := Fld.same W2 W1
  have f3 := Exa.wr W2 E1
  have f4 := Fld.other W2 C1 (Or.inr (slot_ne (Or.inr (own_h hw 13 rfl)) (Or.inr (own_h hw 12 rfl)) (by decide) (t := .byte) (t' := (.array .byte)) (by decide) (by decide)))
  have K2 : Keep h0 h2 [a1] := (Keep.refl h0 [a1]).wr W2 (Or.inl (List.mem_of_getElem? (i := 0) rfl))
  have Z2 := Nat.le_trans Z0 (Nat.le_of_eq W2.size.symm)
  have N2 := Fr.snoc X2 N0 g_a1
  refine own_s T2 (mkF m 9 #[rv a1, rv a2, iv 0] []) st2 ?_
  refine own_s T2 (mkF m 11 #[rv a1, rv a2, iv 0] [(.int 0), (.ref a1)]) (fun _ k => XS.aloadN X2.here hx rfl (hb hby od_jdk_42_m_151_9) rfl rfl (XS.iloadN X2.here hx rfl (hb hby od_jdk_42_m_151_10) rfl  k)) ?_
  obtain ⟨T5, h5, X5, e5, W5, st5⟩ := putFN X2 hx hZ hown (own_h hw 103 rfl) Via.refl e2 f4 f3 (Or.inr ⟨(own_h hw 13 rfl), rfl, hnm⟩) (own_h hw 10 rfl) (ty := .byte) (v' := (.int 0)) (by decide) rfl rfl (g := (mkF m 11 #[rv a1, rv a2, iv 0] [(.int 0), (.ref a1)])) rfl rfl (hb hby od_jdk_42_m_151_11)
  have Fw5 := Fld.same W5 f4
  have f6 := Exa.wr W5 f3
  have f7 := Fld.other W5 Fw2 (Or.inr (slot_ne (Or.inr (own_h hw 12 rfl)) (Or.inr (own_h hw 13 rfl)) (by decide) (t := (.array .byte)) (t' := .byte) (by decide) (by decide)))
  have K5 : Keep h0 h5 [a1] := K2.wr W5 (Or.inl (List.mem_of_getElem? (i := 0) rfl))
  have Z5 := Nat.le_trans Z2 (Nat.le_of_eq W5.size.symm)
  have N5 := Fr.snoc X5 N2 g_a1
  refine own_s T5 (mkF m 14 #[rv a1, rv a2, iv 0] []) st5 ?_
  exact own_finV X5 hx hret (hb hby od_jdk_42_m_151_14) (own_end (Qv := (own_Qsib Z a1 a2 h0 n0)) X5 (fun _ => rfl) hlk (by decide) (by decide) e5 ⟨rfl, N5, K5, f6, Fw5, f7⟩)
theorem own_pd0 : parseMethodDescriptor "(C)Z" = some ⟨[.char], some .boolean⟩ := by decide +kernel
theorem own_pd1 : parseMethodDescriptor "(C)[B" = some ⟨[.char], some (.array .byte)⟩ := by decide +kernel
theorem own_pd2 : parseMethodDescriptor "([BB)V" = some ⟨[(.array .byte), .byte], none⟩ := by decide +kernel
abbrev own_y3 : MethodName := ⟨"java/lang/String", "valueOf", "(C)Ljava/lang/String;"⟩
theorem od_jdk_42_m_139_0 : decode jdk_42_method_139_code 0 = .ok (.getstatic 38, 3) := by decide +kernel
theorem od_jdk_42_m_139_3 : decode jdk_42_method_139_code 3 = .ok (.ifCond .eq 23, 3) := by decide +kernel
theorem od_jdk_42_m_139_6 : decode jdk_42_method_139_code 6 = .ok (.iload_n 0, 1) := by decide +kernel
theorem od_jdk_42_m_139_7 : decode jdk_42_method_139_code 7 = .ok (.invokestatic 1015, 3) := by decide +kernel
theorem od_jdk_42_m_139_10 : decode jdk_42_method_139_code 10 = .ok (.ifCond .eq 16, 3) := by decide +kernel
theorem od_jdk_42_m_139_13 : decode jdk_42_method_139_code 13 = .ok (.new 10, 3) := by decide +kernel
theorem od_jdk_42_m_139_16 : decode jdk_42_method_139_code 16 = .ok (.dup, 1) := by decide +kernel
theorem od_jdk_42_m_139_17 : decode jdk_42_method_139_code 17 = .ok (.iload_n 0, 1) := by decide +kernel
theorem od_jdk_42_m_139_18 : decode jdk_42_method_139_code 18 = .ok (.invokestatic 1018, 3) := by decide +kernel
theorem od_jdk_42_m_139_21 : decode jdk_42_method_139_code 21 = .ok (.iconst 0, 1) := by decide +kernel
theorem od_jdk_42_m_139_22 : decode jdk_42_method_139_code 22 = .ok (.invokespecial 209, 3) := by decide +kernel
theorem od_jdk_42_m_139_25 : decode jdk_42_method_139_code 25 = .ok (.areturn, 1) := by decide +kernel
theorem own_efvof (m : MethodId) (x0 : Int32) : entryFrame m #[(.int x0)] 1 = mkF m 0 #[iv x0] [] := by first | (simp [entryFrame, mkF, argsToLocals, Value.category]; done) | rfl
def own_Qvof (Z : State) (p1 : Int32) (gC : Int32) (h0 : Heap) (n0 : Nat) : Option Value → Heap → List Loc → Prop := fun v h L => (∃ (a b : Addr) (k : ClassId), v = some (.ref a) ∧ n0 ≤ a ∧ h0.size ≤ a ∧ n0 ≤ b ∧ h0.size ≤ b ∧ Exa Z h a "java/lang/String" ∧ Fld Z h a "java/lang/String" "coder" "B" (.int 0) ∧ Fld Z h a "java/lang/String" "value" "[B" (.ref b) ∧ Arv Z h b k .byte (1 : Int32) [(.int (own_by p1))] (.int 0)) ∧ Fr n0 L ∧ Keep h0 h []
def own_Rvof : Room := { frames := 2, cells := 2, slots := 5, locals := 27 }
set_option maxRecDepth 65536 in
set_option maxHeartbeats 40000000 in
theorem own_rmvof (l : Launch) (Z : State) (a0 : Array Value) (hw : ∀ d ∈ tables_1, d.before a0 Z = true) (ws : List Jvm.Cond) (p1 : Int32) (gC : Int32) (h0 : Heap) (n0 : Nat) (Z0 : n0 ≤ h0.size) (hc : ¬ (255 : Int32) < p1) (SC : Sta Z h0 "java/lang/String" "COMPACT_STRINGS" "Z" (.int gC)) (hG : ¬ gC = (0 : Int32)) :
    own_Met l Z own_y3 jdk_42_method_139_code 1 (some (.object "java/lang/String")) ws own_Rvof h0 #[(.int p1)] (own_Qvof Z p1 gC h0 n0) own_Rvof.cells own_Rvof.slots := by
  refine own_start (plainFor_of_name own_pn1) ?_
  intro p e s m below meth c s₁ X0 hx hZ hby hml hret hlk hown hnm e0
  have hown : s.vm.findClass "java/lang/String" = some m.cls := hown
  have hml : c.maxLocals = 1 := hml
  have N0 := Fr.nil n0
  refine own_cast (own_efvof m p1) ?_
  obtain ⟨T1, X1, e1, st1⟩ := getS2 X0 hx hZ hown (host := "") (Or.inl (own_h hw 88 rfl)) Via.refl e0 SC (g := (mkF m 0 #[iv p1] [])) rfl (hb hby od_jdk_42_m_139_0)
  refine own_s T1 (mkF m 3 #[iv p1] [(.int gC)]) st1 ?_
  refine own_s T1 (mkF m 7 #[iv p1] [(.int p1)]) (fun _ k => XS.ifNo X1.here hx rfl (hb hby od_jdk_42_m_139_3) rfl ((if0 _ _).trans (feq hG).1) (XS.iloadN X1.here hx rfl (hb hby od_jdk_42_m_139_6) rfl  k)) ?_
  obtain ⟨v2, T2, L2, X2, hQ2, st2⟩ := own_callS X1 hx hZ (y := own_y0) (W := 0) hown (own_h hw 89 rfl) (own_h hw 90 rfl) (own_h hw 91 rfl) (own_h hw 92 rfl) (by decide) (own_rmcan l Z a0 hw [] p1 h0 n0 Z0 hc) (by decide) (by decide) (g := (mkF m 7 #[iv p1] [(.int p1)])) rfl (by rw [hml]; rfl) (argsL := [(.int p1)]) (rest := []) rfl (lenOf own_pd0 rfl) rfl (by show 2 * 0 + _ ≤ _; exact Nat.le_of_eq rfl) (hb hby od_jdk_42_m_139_7) e1 (by decide) (by decide)
  obtain ⟨rfl, Nq2, e2⟩ := hQ2
  have N2 := Fr.app N0 Nq2
  refine own_s T2 (mkF m 10 #[iv p1] [(.int 1)]) st2 ?_
  refine own_s T2 (mkF m 13 #[iv p1] []) (fun _ k => XS.ifNo X2.here hx rfl (hb hby od_jdk_42_m_139_10) rfl ((if0 _ _).trans (feq (by decide : ¬ ((1 : Int32) = (0 : Int32)))).1) k) ?_
  obtain ⟨T3, h3, X3, e3, E3, A3, D3, -, st3⟩ := newO X2 hx hZ hown (own_h hw 93 rfl) (own_h hw 10 rfl) (own_h hw 9 rfl) e2 (g := (mkF m 13 #[iv p1] [])) rfl (hb hby od_jdk_42_m_139_13) (by decide) (by decide)
  obtain ⟨b3, g3⟩ : ∃ z, z = h0.size := ⟨_, rfl⟩
  have g_b3 : n0 ≤ b3 := Nat.le_trans Z0 (Nat.le_of_eq g3.symm)
  have sz_b3 : h0.size ≤ b3 := Nat.le_trans (Keep.refl h0 []).1 (Nat.le_of_eq g3.symm)
  rw [← g3] at A3 D3 st3
  have f4 := Sta.ext E3 SC
  have K3 : Keep h0 h3 [] := (Keep.refl h0 []).ext E3
  have Z3 := Nat.le_trans Z0 E3.1
  have f5 : Fld Z h3 b3 "java/lang/String" "value" "[B" .null := D3 (Or.inr (own_h hw 12 rfl)) (ty := (.array .byte)) (by decide)
  have f6 : Fld Z h3 b3 "java/lang/String" "coder" "B" (.int 0) := D3 (Or.inr (own_h hw 13 rfl)) (ty := .byte) (by decide)
  refine own_s T3 (mkF m 16 #[iv p1] [(.ref b3)]) st3 ?_
  refine own_s T3 (mkF m 18 #[iv p1] [(.int p1), (.ref b3), (.ref b3)]) (fun _ k => XS.dup X3.here hx rfl (hb hby od_jdk_42_m_139_16) rfl rfl (XS.iloadN X3.here hx rfl (hb hby od_jdk_42_m_139_17) rfl  k)) ?_
  obtain ⟨v7, T7, L7, X7, hQ7, st7⟩ := own_callS X3 hx hZ (y := own_y1) (W := 2) hown (own_h hw 94 rfl) (own_h hw 95 rfl) (own_h hw 91 rfl) (own_h hw 96 rfl) (by decide) (own_rmtob l Z a0 hw [] p1 h3 n0 Z3) (by decide) (by decide) (g := (mkF m 18 #[iv p1] [(.int p1), (.ref b3), (.ref b3)])) rfl (by rw [hml]; rfl) (argsL := [(.int p1)]) (rest := [(.ref b3), (.ref b3)]) rfl (lenOf own_pd1 rfl) rfl (by show 2 * 0 + _ ≤ _; exact Nat.le_of_eq rfl) (hb hby od_jdk_42_m_139_18) e3 (by decide) (by decide)
  obtain ⟨⟨b7, k7, rfl, g_b7, sq7, Vq7⟩, Nq7, Kq7⟩ := hQ7
  have N7 := Fr.app N2 Nq7
  have ne_b3_b7 : b3 ≠ b7 := Nat.ne_of_lt (Nat.lt_of_lt_of_le A3.lt sq7)
  have sz_b7 : h0.size ≤ b7 := Nat.le_trans K3.1 sq7
  have f8 := own_staKeep f4 Kq7
  have f9 := A3.keep Kq7
  have f10 := f5.keep Kq7 nin0
  have f11 := f6.keep Kq7 nin0
  have K7 : Keep h0 T7.heap [] := K3.trans Kq7 all0
  have Z7 := Nat.le_trans Z3 Kq7.1
  refine own_s T7 (mkF m 21 #[iv p1] [(.ref b7), (.ref b3), (.ref b3)]) st7 ?_
  refine own_s T7 (mkF m 22 #[iv p1] [(.int 0), (.ref b7), (.ref b3), (.ref b3)]) (fun _ k => XS.iconst X7.here hx rfl (hb hby od_jdk_42_m_139_21) k) ?_
  obtain ⟨v12, T12, L12, X12, hQ12, st12⟩ := own_callI X7 hx hZ (y := own_y2) (W := 1) (a := b3) rfl hown (own_h hw 97 rfl) (own_h hw 98 rfl) (own_h hw 9 rfl) (own_h hw 100 rfl) (by decide) (own_rmsib l Z a0 hw [] b3 b7 T7.heap n0 Z7 g_b3 f9 f11 f10) (by decide) (by decide) (g := (mkF m 22 #[iv p1] [(.int 0), (.ref b7), (.ref b3), (.ref b3)])) rfl (by rw [hml]; rfl) (argsL := [(.ref b7), (.int 0)]) (rest := [(.ref b3)]) rfl (lenOf own_pd2 rfl) rfl (by show 2 * 0 + _ ≤ _; exact Nat.le_of_eq rfl) (hb hby od_jdk_42_m_139_22) rfl (by decide) (by decide)
  obtain ⟨rfl, Nq12, Kq12, Eq12, Cq12, Wq12⟩ := hQ12
  have N12 := Fr.app N7 Nq12
  have f13 := own_staKeepW f8 Kq12 (allS f9.nostat all0)
  have f14 := Vq7.keep Kq12 (ninS (Ne.symm ne_b3_b7) nin0)
  have K12 : Keep h0 T12.heap [] := K7.trans Kq12 (allS (Or.inr sz_b3) all0)
  have Z12 := Nat.le_trans Z7 Kq12.1
  refine own_s T12 (mkF m 25 #[iv p1] [(.ref b3)]) st12 ?_
  exact own_finA X12 hx hret rfl rfl (hb hby od_jdk_42_m_139_25) (own_end (Qv := (own_Qvof Z p1 gC h0 n0)) X12 (own_some hret) hlk (by decide) (by decide) rfl ⟨⟨b3, b7, _, rfl, g_b3, sz_b3, g_b7, sz_b7, Eq12, Cq12, Wq12, f14⟩, N12, K12⟩)
theorem own_pd3 : parseMethodDescriptor "(C)Ljava/lang/String;" = some ⟨[.char], some (.object "java/lang/String")⟩ := by decide +kernel
abbrev own_y4 : MethodName := ⟨"com/example/tagwright/tagwright/XmlElementNewAttributesPinLaw", "str", "(II)Ljava/lang/String;"⟩
theorem own_pn2 : plainName "com/example/tagwright/tagwright/XmlElementNewAttributesPinLaw" = true := by first | (simp [plainName, overriddenIn]; done) | decide +kernel
theorem od_m_3_0 : decode method_3_code 0 = .ok (.iload_n 0, 1) := by decide +kernel
theorem od_m_3_1 : decode method_3_code 1 = .ok (.bipush 8, 2) := by decide +kernel
theorem od_m_3_3 : decode method_3_code 3 = .ok (.iload_n 1, 1) := by decide +kernel
theorem od_m_3_4 : decode method_3_code 4 = .ok (.imul, 1) := by decide +kernel
theorem od_m_3_5 : decode method_3_code 5 = .ok (.iushr, 1) := by decide +kernel
theorem od_m_3_6 : decode method_3_code 6 = .ok (.sipush 255, 3) := by decide +kernel
theorem od_m_3_9 : decode method_3_code 9 = .ok (.iand, 1) := by decide +kernel
theorem od_m_3_10 : decode method_3_code 10 = .ok (.i2c, 1) := by decide +kernel
theorem od_m_3_11 : decode method_3_code 11 = .ok (.invokestatic 35, 3) := by decide +kernel
theorem od_m_3_14 : decode method_3_code 14 = .ok (.areturn, 1) := by decide +kernel
theorem own_efstr (m : MethodId) (x0 : Int32) (x1 : Int32) : entryFrame m #[(.int x0), (.int x1)] 2 = mkF m 0 #[iv x0, iv x1] [] := by first | (simp [entryFrame, mkF, argsToLocals, Value.category]; done) | rfl
def own_Qstr (Z : State) (p1 : Int32) (p2 : Int32) (gC : Int32) (h0 : Heap) (n0 : Nat) : Option Value → Heap → List Loc → Prop := fun v h L => ∃ (a : Addr) (b : Addr) (k : ClassId), v = some (.ref a) ∧ Fr n0 L ∧ Keep h0 h [] ∧ n0 ≤ a ∧ h0.size ≤ a ∧ n0 ≤ b ∧ h0.size ≤ b ∧ Exa Z h a "java/lang/String" ∧ Fld Z h a "java/lang/String" "coder" "B" (.int 0) ∧ Fld Z h a "java/lang/String" "value" "[B" (.ref b) ∧ Arv Z h b k .byte (1 : Int32) [(.int (own_by (own_chr p1 p2)))] (.int 0)
def own_Rstr : Room := { frames := 3, cells := 2, slots := 5, locals := 39 }
set_option maxRecDepth 65536 in
set_option maxHeartbeats 40000000 in
theorem own_rmstr (l : Launch) (Z : State) (a0 : Array Value) (hw : ∀ d ∈ tables_1, d.before a0 Z = true) (ws : List Jvm.Cond) (p1 : Int32) (p2 : Int32) (gC : Int32) (h0 : Heap) (n0 : Nat) (Z0 : n0 ≤ h0.size) (pr0 : Sta Z h0 "java/lang/String" "COMPACT_STRINGS" "Z" (.int gC)) (hG : ¬ gC = (0 : Int32)) :
    own_Met l Z own_y4 method_3_code 2 (some (.object "java/lang/String")) ws own_Rstr h0 #[(.int p1), (.int p2)] (own_Qstr Z p1 p2 gC h0 n0) own_Rstr.cells own_Rstr.slots := by
  refine own_start (plainFor_of_name own_pn2) ?_
  intro p e s m below meth c s₁ X0 hx hZ hby hml hret hlk hown hnm e0
  have hown : s.vm.findClass "com/example/tagwright/tagwright/XmlElementNewAttributesPinLaw" = some m.cls := hown
  have hml : c.maxLocals = 2 := hml
  have N0 := Fr.nil n0
  refine own_cast (own_efstr m p1 p2) ?_
  refine own_s s₁ (mkF m 11 #[iv p1, iv p2] [(.int ((((p1.toUInt32 >>> (((8 : Int32) * p2) &&& 31).toUInt32).toInt32) &&& (255 : Int32)).toUInt32.toUInt16.toUInt32.toInt32))]) (fun _ k => XS.iloadN X0.here hx rfl (hb hby od_m_3_0) rfl  (XS.bipush X0.here hx rfl (hb hby od_m_3_1) (XS.iloadN X0.here hx rfl (hb hby od_m_3_3) rfl  (XS.imul X0.here hx rfl (hb hby od_m_3_4) rfl (XS.iushr X0.here hx rfl (hb hby od_m_3_5) rfl (XS.sipush X0.here hx rfl (hb hby od_m_3_6) (XS.iand X0.here hx rfl (hb hby od_m_3_9) rfl (XS.i2c X0.here hx rfl (hb hby od_m_3_10) rfl k)))))))) ?_
  obtain ⟨v1, T1, L1, X1, hQ1, st1⟩ := own_callS X0 hx hZ (y := own_y3) (W := 0) hown (own_h hw 85 rfl) (own_h hw 86 rfl) (own_h hw 9 rfl) (own_h hw 87 rfl) (by decide) (own_rmvof l Z a0 hw [] ((((p1.toUInt32 >>> (((8 : Int32) * p2) &&& 31).toUInt32).toInt32) &&& (255 : Int32)).toUInt32.toUInt16.toUInt32.toInt32) gC h0 n0 Z0 (own_d255 _) pr0 hG) (by decide) (by decide) (g := (mkF m 11 #[iv p1, iv p2] [(.int ((((p1.toUInt32 >>> (((8 : Int32) * p2) &&& 31).toUInt32).toInt32) &&& (255 : Int32)).toUInt32.toUInt16.toUInt32.toInt32))])) rfl (by rw [hml]; rfl) (argsL := [(.int ((((p1.toUInt32 >>> (((8 : Int32) * p2) &&& 31).toUInt32).toInt32) &&& (255 : Int32)).toUInt32.toUInt16.toUInt32.toInt32))]) (rest := []) rfl (lenOf own_pd3 rfl) rfl (by show 2 * 0 + _ ≤ _; exact Nat.le_of_eq rfl) (hb hby od_m_3_11) e0 (by decide) (by decide)
  obtain ⟨⟨b1, d1, k1, rfl, g_b1, sq1, g_d1, sr1, Eq1, Cq1, Wq1, Vq1⟩, Nq1, Kq1⟩ := hQ1
  have N1 := Fr.app N0 Nq1
  have sz_b1 : h0.size ≤ b1 := Nat.le_trans (Keep.refl h0 []).1 sq1
  have sz_d1 : h0.size ≤ d1 := Nat.le_trans (Keep.refl h0 []).1 sr1
  have f2 := own_staKeep pr0 Kq1
  have K1 : Keep h0 T1.heap [] := (Keep.refl h0 []).trans Kq1 all0
  have Z1 := Nat.le_trans Z0 Kq1.1
  refine own_s T1 (mkF m 14 #[iv p1, iv p2] [(.ref b1)]) st1 ?_
  exact own_finA X1 hx hret rfl rfl (hb hby od_m_3_14) (own_end (Qv := (own_Qstr Z p1 p2 gC h0 n0)) X1 (own_some hret) hlk (by decide) (by decide) rfl ⟨b1, d1, k1, rfl, N1, K1, g_b1, sz_b1, g_d1, sz_d1, Eq1, Cq1, Wq1, Vq1⟩)
abbrev own_y5 : MethodName := ⟨"java/lang/StringLatin1", "equals", "([B[B)Z"⟩
theorem od_jdk_43_m_13_0 : decode jdk_43_method_13_code 0 = .ok (.aload_n 0, 1) := by decide +kernel
theorem od_jdk_43_m_13_1 : decode jdk_43_method_13_code 1 = .ok (.arraylength, 1) := by decide +kernel
theorem od_jdk_43_m_13_2 : decode jdk_43_method_13_code 2 = .ok (.aload_n 1, 1) := by decide +kernel
theorem od_jdk_43_m_13_3 : decode jdk_43_method_13_code 3 = .ok (.arraylength, 1) := by decide +kernel
theorem od_jdk_43_m_13_4 : decode jdk_43_method_13_code 4 = .ok (.if_icmp .ne 30, 3) := by decide +kernel
theorem od_jdk_43_m_13_7 : decode jdk_43_method_13_code 7 = .ok (.iconst 0, 1) := by decide +kernel
theorem od_jdk_43_m_13_8 : decode jdk_43_method_13_code 8 = .ok (.istore_n 2, 1) := by decide +kernel
theorem od_jdk_43_m_13_9 : decode jdk_43_method_13_code 9 = .ok (.iload_n 2, 1) := by decide +kernel
theorem od_jdk_43_m_13_10 : decode jdk_43_method_13_code 10 = .ok (.aload_n 0, 1) := by decide +kernel
theorem od_jdk_43_m_13_11 : decode jdk_43_method_13_code 11 = .ok (.arraylength, 1) := by decide +kernel
theorem od_jdk_43_m_13_12 : decode jdk_43_method_13_code 12 = .ok (.if_icmp .ge 20, 3) := by decide +kernel
theorem od_jdk_43_m_13_15 : decode jdk_43_method_13_code 15 = .ok (.aload_n 0, 1) := by decide +kernel
theorem od_jdk_43_m_13_16 : decode jdk_43_method_13_code 16 = .ok (.iload_n 2, 1) := by decide +kernel
theorem od_jdk_43_m_13_17 : decode jdk_43_method_13_code 17 = .ok (.baload, 1) := by decide +kernel
theorem od_jdk_43_m_13_18 : decode jdk_43_method_13_code 18 = .ok (.aload_n 1, 1) := by decide +kernel
theorem od_jdk_43_m_13_19 : decode jdk_43_method_13_code 19 = .ok (.iload_n 2, 1) := by decide +kernel
theorem od_jdk_43_m_13_20 : decode jdk_43_method_13_code 20 = .ok (.baload, 1) := by decide +kernel
theorem od_jdk_43_m_13_21 : decode jdk_43_method_13_code 21 = .ok (.if_icmp .eq 5, 3) := by decide +kernel
theorem od_jdk_43_m_13_26 : decode jdk_43_method_13_code 26 = .ok (.iinc 2 1, 3) := by decide +kernel
theorem od_jdk_43_m_13_29 : decode jdk_43_method_13_code 29 = .ok (.goto (-20), 3) := by decide +kernel
theorem od_jdk_43_m_13_32 : decode jdk_43_method_13_code 32 = .ok (.iconst 1, 1) := by decide +kernel
theorem od_jdk_43_m_13_33 : decode jdk_43_method_13_code 33 = .ok (.ireturn, 1) := by decide +kernel
theorem own_efleq (m : MethodId) (x0 : Addr) (x1 : Addr) : entryFrame m #[(.ref x0), (.ref x1)] 3 = mkF m 0 #[rv x0, rv x1, u_] [] := by first | (simp [entryFrame, mkF, argsToLocals, Value.category]; done) | rfl
def own_Qleq (Z : State) (a1 : Addr) (a2 : Addr) (k1 : ClassId) (x : Int32) (k2 : ClassId) (h0 : Heap) (n0 : Nat) : Option Value → Heap → List Loc → Prop := fun v h L => v = some (.int 1) ∧ Fr n0 L ∧ h = h0
def own_Rleq : Room := { frames := 0, cells := 0, slots := 0, locals := 0 }
set_option maxRecDepth 65536 in
set_option maxHeartbeats 40000000 in
theorem own_rmleq (l : Launch) (Z : State) (a0 : Array Value) (hw : ∀ d ∈ tables_1, d.before a0 Z = true) (ws : List Jvm.Cond) (a1 : Addr) (a2 : Addr) (k1 : ClassId) (x : Int32) (k2 : ClassId) (h0 : Heap) (n0 : Nat) (Z0 : n0 ≤ h0.size) (pr0 : Arv Z h0 a1 k1 .byte (1 : Int32) [(.int x)] (.int 0)) (pr1 : Arv Z h0 a2 k2 .byte (1 : Int32) [(.int x)] (.int 0)) :
    own_Met l Z own_y5 jdk_43_method_13_code 3 (some .boolean) ws own_Rleq h0 #[(.ref a1), (.ref a2)] (own_Qleq Z a1 a2 k1 x k2 h0 n0) own_Rleq.cells own_Rleq.slots := by
  refine own_start (plainFor_of_name own_pn0) ?_
  intro p e s m below meth c s₁ X0 hx hZ hby hml hret hlk hown hnm e0
  have hown : s.vm.findClass "java/lang/StringLatin1" = some m.cls := hown
  have hml : c.maxLocals = 3 := hml
  have N0 := Fr.nil n0
  refine own_cast (own_efleq m a1 a2) ?_
  refine own_s s₁ (mkF m 1 #[rv a1, rv a2, u_] [(.ref a1)]) (fun _ k => XS.aloadN X0.here hx rfl (hb hby od_jdk_43_m_13_0) rfl rfl k) ?_
  obtain ⟨cl1, Ar1, q1, S1, Nn1, H1, G1⟩ := id pr0
  refine own_s s₁ (mkF m 3 #[rv a1, rv a2, u_] [(.ref a2), (.int 1)]) (fun _ k => own_len X0 hx hZ e0 Ar1 S1 Nn1 (g := (mkF m 1 #[rv a1, rv a2, u_] [(.ref a1)])) rfl rfl (hb hby od_jdk_43_m_13_1) (XS.aloadN X0.here hx rfl (hb hby od_jdk_43_m_13_2) rfl rfl k)) ?_
  obtain ⟨cl2, Ar2, q2, S2, Nn2, H2, G2⟩ := id pr1
  refine own_s s₁ (mkF m 11 #[rv a1, rv a2, iv 0] [(.ref a1), (.int 0)]) (fun _ k => own_len X0 hx hZ e0 Ar2 S2 Nn2 (g := (mkF m 3 #[rv a1, rv a2, u_] [(.ref a2), (.int 1)])) rfl rfl (hb hby od_jdk_43_m_13_3) (XS.icmpNo X0.here hx rfl (hb hby od_jdk_43_m_13_4) rfl (teq (by decide : ((1 : Int32) = (1 : Int32)))).2 (XS.iconst X0.here hx rfl (hb hby od_jdk_43_m_13_7) (XS.istoreN X0.here hx rfl (hb hby od_jdk_43_m_13_8) rfl (l' := #[rv a1, rv a2, iv 0]) rfl (XS.iloadN X0.here hx rfl (hb hby od_jdk_43_m_13_9) rfl  (XS.aloadN X0.here hx rfl (hb hby od_jdk_43_m_13_10) rfl rfl k)))))) ?_
  obtain ⟨cl3, Ar3, q3, S3, Nn3, H3, G3⟩ := id pr0
  refine own_s s₁ (mkF m 17 #[rv a1, rv a2, iv 0] [(.int 0), (.ref a1)]) (fun _ k => own_len X0 hx hZ e0 Ar3 S3 Nn3 (g := (mkF m 11 #[rv a1, rv a2, iv 0] [(.ref a1), (.int 0)])) rfl rfl (hb hby od_jdk_43_m_13_11) (XS.icmpNo X0.here hx rfl (hb hby od_jdk_43_m_13_12) rfl (tlt (by decide : ((0 : Int32) < (1 : Int32)))).2.1 (XS.aloadN X0.here hx rfl (hb hby od_jdk_43_m_13_15) rfl rfl (XS.iloadN X0.here hx rfl (hb hby od_jdk_43_m_13_16) rfl  k)))) ?_
  obtain ⟨cl4, Ar4, q4, S4, Nn4, H4, G4⟩ := id pr0
  have hin4 : ¬ ((0 : Int32) < 0 ∨ cl4.slots.size ≤ ((0 : Int32)).toNatClampNeg) := (inb_of S4 ⟨by decide, by decide⟩)
  refine own_s s₁ (mkF m 20 #[rv a1, rv a2, iv 0] [(.int 0), (.ref a2), (.int x)]) (fun _ k => X0.baloadBytes hx (j := (0 : Int32)) (v := (.int x)) (own_at e0 Ar4.1) (State.isArrayOf_alike hZ.alike Ar4.2.1) Ar4.2.2 hin4 (Has.at H4 hin4 rfl) (g := (mkF m 17 #[rv a1, rv a2, iv 0] [(.int 0), (.ref a1)])) rfl rfl (hb hby od_jdk_43_m_13_17) _ (XS.aloadN X0.here hx rfl (hb hby od_jdk_43_m_13_18) rfl rfl (XS.iloadN X0.here hx rfl (hb hby od_jdk_43_m_13_19) rfl  k))) ?_
  obtain ⟨cl5, Ar5, q5, S5, Nn5, H5, G5⟩ := id pr1
  have hin5 : ¬ ((0 : Int32) < 0 ∨ cl5.slots.size ≤ ((0 : Int32)).toNatClampNeg) := (inb_of S5 ⟨by decide, by decide⟩)
  refine own_s s₁ (mkF m 11 #[rv a1, rv a2, iv 1] [(.ref a1), (.int 1)]) (fun _ k => X0.baloadBytes hx (j := (0 : Int32)) (v := (.int x)) (own_at e0 Ar5.1) (State.isArrayOf_alike hZ.alike Ar5.2.1) Ar5.2.2 hin5 (Has.at H5 hin5 rfl) (g := (mkF m 20 #[rv a1, rv a2, iv 0] [(.int 0), (.ref a2), (.int x)])) rfl rfl (hb hby od_jdk_43_m_13_20) _ (XS.icmpYes X0.here hx rfl (pc0 := 21) (pc' := 26) rfl (hb hby od_jdk_43_m_13_21) rfl (teq rfl).1 (by decide) (by decide) (XS.iinc X0.here hx rfl (hb hby od_jdk_43_m_13_26) rfl (l' := #[rv a1, rv a2, iv 1]) rfl (XS.goto X0.here hx rfl (pc0 := 29) (pc' := 9) rfl (hb hby od_jdk_43_m_13_29) (by decide) (by decide) (XS.iloadN X0.here hx rfl (hb hby od_jdk_43_m_13_9) rfl  (XS.aloadN X0.here hx rfl (hb hby od_jdk_43_m_13_10) rfl rfl k)))))) ?_
  obtain ⟨cl6, Ar6, q6, S6, Nn6, H6, G6⟩ := id pr0
  refine own_s s₁ (mkF m 33 #[rv a1, rv a2, iv 1] [(.int 1)]) (fun _ k => own_len X0 hx hZ e0 Ar6 S6 Nn6 (g := (mkF m 11 #[rv a1, rv a2, iv 1] [(.ref a1), (.int 1)])) rfl rfl (hb hby od_jdk_43_m_13_11) (XS.icmpYes X0.here hx rfl (pc0 := 12) (pc' := 32) rfl (hb hby od_jdk_43_m_13_12) rfl (flt (by decide : ¬ ((1 : Int32) < (1 : Int32)))).2.1 (by decide) (by decide) (XS.iconst X0.here hx rfl (hb hby od_jdk_43_m_13_32) k))) ?_
  exact own_finZ X0 hx (t := .boolean) hret (by simp) (z' := (1 : Int32)) rfl (hb hby od_jdk_43_m_13_33) (own_end (Qv := (own_Qleq Z a1 a2 k1 x k2 h0 n0)) X0 (own_some hret) hlk (by decide) (by decide) e0 ⟨rfl, N0, rfl⟩)
abbrev own_y6 : MethodName := ⟨"java/lang/String", "equals", "(Ljava/lang/Object;)Z"⟩
theorem od_jdk_42_m_66_0 : decode jdk_42_method_66_code 0 = .ok (.aload_n 0, 1) := by decide +kernel
theorem od_jdk_42_m_66_1 : decode jdk_42_method_66_code 1 = .ok (.aload_n 1, 1) := by decide +kernel
theorem od_jdk_42_m_66_2 : decode jdk_42_method_66_code 2 = .ok (.if_acmp .ne 5, 3) := by decide +kernel
theorem od_jdk_42_m_66_5 : decode jdk_42_method_66_code 5 = .ok (.iconst 1, 1) := by decide +kernel
theorem od_jdk_42_m_66_6 : decode jdk_42_method_66_code 6 = .ok (.ireturn, 1) := by decide +kernel
theorem own_efeqS (m : MethodId) (x0 : Addr) (x1 : Addr) : entryFrame m #[(.ref x0), (.ref x1)] 3 = mkF m 0 #[rv x0, rv x1, u_] [] := by first | (simp [entryFrame, mkF, argsToLocals, Value.category]; done) | rfl
def own_QeqS (Z : State) (a1 : Addr) (h0 : Heap) (n0 : Nat) : Option Value → Heap → List Loc → Prop := fun v h L => v = some (.int 1) ∧ Fr n0 L ∧ h = h0
def own_ReqS : Room := { frames := 0, cells := 0, slots := 0, locals := 0 }
set_option maxRecDepth 65536 in
set_option maxHeartbeats 40000000 in
theorem own_rmeqS (l : Launch) (Z : State) (a0 : Array Value) (hw : ∀ d ∈ tables_1, d.before a0 Z = true) (ws : List Jvm.Cond) (a1 : Addr) (h0 : Heap) (n0 : Nat) (Z0 : n0 ≤ h0.size) :
    own_Met l Z own_y6 jdk_42_method_66_code 3 (some .boolean) ws own_ReqS h0 #[(.ref a1), (.ref a1)] (own_QeqS Z a1 h0 n0) own_ReqS.cells own_ReqS.slots := by
  refine own_start (plainFor_of_name own_pn1) ?_
  intro p e s m below meth c s₁ X0 hx hZ hby hml hret hlk hown hnm e0
  have hown : s.vm.findClass "java/lang/String" = some m.cls := hown
  have hml : c.maxLocals = 3 := hml
  have N0 := Fr.nil n0
  refine own_cast (own_efeqS m a1 a1) ?_
  refine own_s s₁ (mkF m 6 #[rv a1, rv a1, u_] [(.int 1)]) (fun _ k => XS.aloadN X0.here hx rfl (hb hby od_jdk_42_m_66_0) rfl rfl (XS.aloadN X0.here hx rfl (hb hby od_jdk_42_m_66_1) rfl rfl (Jvm.RoadKit.acmp (g := (mkF m 2 #[rv a1, rv a1, u_] [(.ref a1), (.ref a1)])) X0 hx rfl rfl rfl (pc0 := 2) (pc' := 5) (same := true) rfl (hb hby od_jdk_42_m_66_2) rfl (decide_eq_true rfl) (by decide) (by decide) (XS.iconst X0.here hx rfl (hb hby od_jdk_42_m_66_5) k)))) ?_
  exact own_finZ X0 hx (t := .boolean) hret (by simp) (z' := (1 : Int32)) rfl (hb hby od_jdk_42_m_66_6) (own_end (Qv := (own_QeqS Z a1 h0 n0)) X0 (own_some hret) hlk (by decide) (by decide) e0 ⟨rfl, N0, rfl⟩)
theorem own_pd4 : parseMethodDescriptor "([B[B)Z" = some ⟨[(.array .byte), (.array .byte)], some .boolean⟩ := by decide +kernel
theorem od_jdk_42_m_66_7 : decode jdk_42_method_66_code 7 = .ok (.aload_n 1, 1) := by decide +kernel
theorem od_jdk_42_m_66_8 : decode jdk_42_method_66_code 8 = .ok (.instanceof 10, 3) := by decide +kernel
theorem od_jdk_42_m_66_11 : decode jdk_42_method_66_code 11 = .ok (.ifCond .eq 43, 3) := by decide +kernel
theorem od_jdk_42_m_66_14 : decode jdk_42_method_66_code 14 = .ok (.aload_n 1, 1) := by decide +kernel
theorem od_jdk_42_m_66_15 : decode jdk_42_method_66_code 15 = .ok (.checkcast 10, 3) := by decide +kernel
theorem od_jdk_42_m_66_18 : decode jdk_42_method_66_code 18 = .ok (.astore_n 2, 1) := by decide +kernel
theorem od_jdk_42_m_66_19 : decode jdk_42_method_66_code 19 = .ok (.getstatic 38, 3) := by decide +kernel
theorem od_jdk_42_m_66_22 : decode jdk_42_method_66_code 22 = .ok (.ifCond .eq 14, 3) := by decide +kernel
theorem od_jdk_42_m_66_25 : decode jdk_42_method_66_code 25 = .ok (.aload_n 0, 1) := by decide +kernel
theorem od_jdk_42_m_66_26 : decode jdk_42_method_66_code 26 = .ok (.getfield 15, 3) := by decide +kernel
theorem od_jdk_42_m_66_29 : decode jdk_42_method_66_code 29 = .ok (.aload_n 2, 1) := by decide +kernel
theorem od_jdk_42_m_66_30 : decode jdk_42_method_66_code 30 = .ok (.getfield 15, 3) := by decide +kernel
theorem od_jdk_42_m_66_33 : decode jdk_42_method_66_code 33 = .ok (.if_icmp .ne 21, 3) := by decide +kernel
theorem od_jdk_42_m_66_36 : decode jdk_42_method_66_code 36 = .ok (.aload_n 0, 1) := by decide +kernel
theorem od_jdk_42_m_66_37 : decode jdk_42_method_66_code 37 = .ok (.getfield 9, 3) := by decide +kernel
theorem od_jdk_42_m_66_40 : decode jdk_42_method_66_code 40 = .ok (.aload_n 2, 1) := by decide +kernel
theorem od_jdk_42_m_66_41 : decode jdk_42_method_66_code 41 = .ok (.getfield 9, 3) := by decide +kernel
theorem od_jdk_42_m_66_44 : decode jdk_42_method_66_code 44 = .ok (.invokestatic 541, 3) := by decide +kernel
theorem od_jdk_42_m_66_47 : decode jdk_42_method_66_code 47 = .ok (.ifCond .eq 7, 3) := by decide +kernel
theorem od_jdk_42_m_66_50 : decode jdk_42_method_66_code 50 = .ok (.iconst 1, 1) := by decide +kernel
theorem od_jdk_42_m_66_51 : decode jdk_42_method_66_code 51 = .ok (.goto 4, 3) := by decide +kernel
theorem od_jdk_42_m_66_55 : decode jdk_42_method_66_code 55 = .ok (.ireturn, 1) := by decide +kernel
theorem own_efeqD (m : MethodId) (x0 : Addr) (x1 : Addr) : entryFrame m #[(.ref x0), (.ref x1)] 3 = mkF m 0 #[rv x0, rv x1, u_] [] := by first | (simp [entryFrame, mkF, argsToLocals, Value.category]; done) | rfl
def own_QeqD (Z : State) (a1 : Addr) (a2 : Addr) (b1 : Addr) (k1 : ClassId) (x : Int32) (b2 : Addr) (k2 : ClassId) (gC : Int32) (h0 : Heap) (n0 : Nat) : Option Value → Heap → List Loc → Prop := fun v h L => v = some (.int 1) ∧ Fr n0 L ∧ h = h0
def own_ReqD : Room := { frames := 1, cells := 0, slots := 0, locals := 14 }
set_option maxRecDepth 65536 in
set_option maxHeartbeats 40000000 in
theorem own_rmeqD (l : Launch) (Z : State) (a0 : Array Value) (hw : ∀ d ∈ tables_1, d.before a0 Z = true) (ws : List Jvm.Cond) (a1 : Addr) (a2 : Addr) (b1 : Addr) (k1 : ClassId) (x : Int32) (b2 : Addr) (k2 : ClassId) (gC : Int32) (h0 : Heap) (n0 : Nat) (Z0 : n0 ≤ h0.size) (pr0 : Exa Z h0 a1 "java/lang/String") (pr1 : Fld Z h0 a1 "java/lang/String" "coder" "B" (.int 0)) (pr2 : Fld Z h0 a1 "java/lang/String" "value" "[B" (.ref b1)) (pr3 : Arv Z h0 b1 k1 .byte (1 : Int32) [(.int x)] (.int 0)) (pr4 : Exa Z h0 a2 "java/lang/String") (pr5 : Fld Z h0 a2 "java/lang/String" "coder" "B" (.int 0)) (pr6 : Fld Z h0 a2 "java/lang/String" "value" "[B" (.ref b2)) (pr7 : Arv Z h0 b2 k2 .byte (1 : Int32) [(.int x)] (.int 0)) (pr8 : Sta Z h0 "java/lang/String" "COMPACT_STRINGS" "Z" (.int gC)) (hG : ¬ gC = (0 : Int32)) (pr10 : a1 ≠ a2) :
    own_Met l Z own_y6 jdk_42_method_66_code 3 (some .boolean) ws own_ReqD h0 #[(.ref a1), (.ref a2)] (own_QeqD Z a1 a2 b1 k1 x b2 k2 gC h0 n0) own_ReqD.cells own_ReqD.slots := by
  refine own_start (plainFor_of_name own_pn1) ?_
  intro p e s m below meth c s₁ X0 hx hZ hby hml hret hlk hown hnm e0
  have hown : s.vm.findClass "java/lang/String" = some m.cls := hown
  have hml : c.maxLocals = 3 := hml
  have N0 := Fr.nil n0
  refine own_cast (own_efeqD m a1 a2) ?_
  refine own_s s₁ (mkF m 8 #[rv a1, rv a2, u_] [(.ref a2)]) (fun _ k => XS.aloadN X0.here hx rfl (hb hby od_jdk_42_m_66_0) rfl rfl (XS.aloadN X0.here hx rfl (hb hby od_jdk_42_m_66_1) rfl rfl (Jvm.RoadKit.acmp (g := (mkF m 2 #[rv a1, rv a2, u_] [(.ref a2), (.ref a1)])) X0 hx rfl rfl rfl (pc0 := 2) (pc' := 7) (same := false) rfl (hb hby od_jdk_42_m_66_2) rfl (decide_eq_false fun q => pr10 (Value.ref.inj q)) (by decide) (by decide) (XS.aloadN X0.here hx rfl (hb hby od_jdk_42_m_66_7) rfl rfl k)))) ?_
  obtain ⟨T1, X1, e1, st1⟩ := instY X0 hx hZ hown (own_h hw 93 rfl) e0 (Ins.self pr4) (g := (mkF m 8 #[rv a1, rv a2, u_] [(.ref a2)])) rfl rfl (hb hby od_jdk_42_m_66_8)
  refine own_s T1 (mkF m 11 #[rv a1, rv a2, u_] [(.int 1)]) st1 ?_
  refine own_s T1 (mkF m 15 #[rv a1, rv a2, u_] [(.ref a2)]) (fun _ k => XS.ifNo X1.here hx rfl (hb hby od_jdk_42_m_66_11) rfl ((if0 _ _).trans (feq (by decide : ¬ ((1 : Int32) = (0 : Int32)))).1) (XS.aloadN X1.here hx rfl (hb hby od_jdk_42_m_66_14) rfl rfl k)) ?_
  obtain ⟨T2, X2, e2, st2⟩ := castY X1 hx hZ hown (own_h hw 93 rfl) e1 (Ins.self pr4) (g := (mkF m 15 #[rv a1, rv a2, u_] [(.ref a2)])) rfl rfl (hb hby od_jdk_42_m_66_15)
  refine own_s T2 (mkF m 18 #[rv a1, rv a2, u_] [(.ref a2)]) st2 ?_
  refine own_s T2 (mkF m 19 #[rv a1, rv a2, rv a2] []) (fun _ k => XS.astoreN X2.here hx rfl (hb hby od_jdk_42_m_66_18) rfl rfl (l' := #[rv a1, rv a2, rv a2]) rfl k) ?_
  obtain ⟨T3, X3, e3, st3⟩ := getS2 X2 hx hZ hown (host := "") (Or.inl (own_h hw 88 rfl)) Via.refl e2 pr8 (g := (mkF m 19 #[rv a1, rv a2, rv a2] [])) rfl (hb hby od_jdk_42_m_66_19)
  refine own_s T3 (mkF m 22 #[rv a1, rv a2, rv a2] [(.int gC)]) st3 ?_
  refine own_s T3 (mkF m 26 #[rv a1, rv a2, rv a2] [(.ref a1)]) (fun _ k => XS.ifNo X3.here hx rfl (hb hby od_jdk_42_m_66_22) rfl ((if0 _ _).trans (feq hG).1) (XS.aloadN X3.here hx rfl (hb hby od_jdk_42_m_66_25) rfl rfl k)) ?_
  obtain ⟨T4, X4, e4, st4⟩ := getF X3 hx hZ hown (host := "") (Or.inl (own_h hw 103 rfl)) Via.refl e3 pr1 (g := (mkF m 26 #[rv a1, rv a2, rv a2] [(.ref a1)])) rfl rfl (hb hby od_jdk_42_m_66_26)
  refine own_s T4 (mkF m 29 #[rv a1, rv a2, rv a2] [(.int 0)]) st4 ?_
  refine own_s T4 (mkF m 30 #[rv a1, rv a2, rv a2] [(.ref a2), (.int 0)]) (fun _ k => XS.aloadN X4.here hx rfl (hb hby od_jdk_42_m_66_29) rfl rfl k) ?_
  obtain ⟨T5, X5, e5, st5⟩ := getF X4 hx hZ hown (host := "") (Or.inl (own_h hw 103 rfl)) Via.refl e4 pr5 (g := (mkF m 30 #[rv a1, rv a2, rv a2] [(.ref a2), (.int 0)])) rfl rfl (hb hby od_jdk_42_m_66_30)
  refine own_s T5 (mkF m 33 #[rv a1, rv a2, rv a2] [(.int 0), (.int 0)]) st5 ?_
  refine own_s T5 (mkF m 37 #[rv a1, rv a2, rv a2] [(.ref a1)]) (fun _ k => XS.icmpNo X5.here hx rfl (hb hby od_jdk_42_m_66_33) rfl (teq (by decide : ((0 : Int32) = (0 : Int32)))).2 (XS.aloadN X5.here hx rfl (hb hby od_jdk_42_m_66_36) rfl rfl k)) ?_
  obtain ⟨T6, X6, e6, st6⟩ := getF X5 hx hZ hown (host := "") (Or.inl (own_h hw 102 rfl)) Via.refl e5 pr2 (g := (mkF m 37 #[rv a1, rv a2, rv a2] [(.ref a1)])) rfl rfl (hb hby od_jdk_42_m_66_37)
  refine own_s T6 (mkF m 40 #[rv a1, rv a2, rv a2] [(.ref b1)]) st6 ?_
  refine own_s T6 (mkF m 41 #[rv a1, rv a2, rv a2] [(.ref a2), (.ref b1)]) (fun _ k => XS.aloadN X6.here hx rfl (hb hby od_jdk_42_m_66_40) rfl rfl k) ?_
  obtain ⟨T7, X7, e7, st7⟩ := getF X6 hx hZ hown (host := "") (Or.inl (own_h hw 102 rfl)) Via.refl e6 pr6 (g := (mkF m 41 #[rv a1, rv a2, rv a2] [(.ref a2), (.ref b1)])) rfl rfl (hb hby od_jdk_42_m_66_41)
  refine own_s T7 (mkF m 44 #[rv a1, rv a2, rv a2] [(.ref b2), (.ref b1)]) st7 ?_
  obtain ⟨v8, T8, L8, X8, hQ8, st8⟩ := own_callS X7 hx hZ (y := own_y5) (W := 0) hown (own_h hw 121 rfl) (own_h hw 122 rfl) (own_h hw 91 rfl) (own_h hw 123 rfl) (by decide) (own_rmleq l Z a0 hw [] b1 b2 k1 x k2 h0 n0 Z0 pr3 pr7) (by decide) (by decide) (g := (mkF m 44 #[rv a1, rv a2, rv a2] [(.ref b2), (.ref b1)])) rfl (by rw [hml]; rfl) (argsL := [(.ref b1), (.ref b2)]) (rest := []) rfl (lenOf own_pd4 rfl) rfl (by show 2 * 0 + _ ≤ _; exact Nat.le_of_eq rfl) (hb hby od_jdk_42_m_66_44) e7 (by decide) (by decide)
  obtain ⟨rfl, Nq8, e8⟩ := hQ8
  have N8 := Fr.app N0 Nq8
  refine own_s T8 (mkF m 47 #[rv a1, rv a2, rv a2] [(.int 1)]) st8 ?_
  refine own_s T8 (mkF m 55 #[rv a1, rv a2, rv a2] [(.int 1)]) (fun _ k => XS.ifNo X8.here hx rfl (hb hby od_jdk_42_m_66_47) rfl ((if0 _ _).trans (feq (by decide : ¬ ((1 : Int32) = (0 : Int32)))).1) (XS.iconst X8.here hx rfl (hb hby od_jdk_42_m_66_50) (XS.goto X8.here hx rfl (pc0 := 51) (pc' := 55) rfl (hb hby od_jdk_42_m_66_51) (by decide) (by decide) k))) ?_
  exact own_finZ X8 hx (t := .boolean) hret (by simp) (z' := (1 : Int32)) rfl (hb hby od_jdk_42_m_66_55) (own_end (Qv := (own_QeqD Z a1 a2 b1 k1 x b2 k2 gC h0 n0)) X8 (own_some hret) hlk (by decide) (by decide) e8 ⟨rfl, N8, rfl⟩)
abbrev own_y7 : MethodName := ⟨"com/example/tagwright/tagwright/XmlElement", "isNamespaced", "([Ljava/lang/String;)Z"⟩
theorem own_pn3 : plainName "com/example/tagwright/tagwright/XmlElement" = true := by first | (simp [plainName, overriddenIn]; done) | decide +kernel
theorem od_prog_100_m_5_0 : decode prog_100_method_5_code 0 = .ok (.aload_n 0, 1) := by decide +kernel
theorem od_prog_100_m_5_1 : decode prog_100_method_5_code 1 = .ok (.arraylength, 1) := by decide +kernel
theorem od_prog_100_m_5_2 : decode prog_100_method_5_code 2 = .ok (.iconst 2, 1) := by decide +kernel
theorem od_prog_100_m_5_3 : decode prog_100_method_5_code 3 = .ok (.irem, 1) := by decide +kernel
theorem od_prog_100_m_5_4 : decode prog_100_method_5_code 4 = .ok (.iconst 1, 1) := by decide +kernel
theorem od_prog_100_m_5_5 : decode prog_100_method_5_code 5 = .ok (.if_icmp .ne 7, 3) := by decide +kernel
theorem od_prog_100_m_5_8 : decode prog_100_method_5_code 8 = .ok (.iconst 1, 1) := by decide +kernel
theorem od_prog_100_m_5_9 : decode prog_100_method_5_code 9 = .ok (.goto 4, 3) := by decide +kernel
theorem od_prog_100_m_5_13 : decode prog_100_method_5_code 13 = .ok (.ireturn, 1) := by decide +kernel
theorem own_efisnO (m : MethodId) (x0 : Addr) : entryFrame m #[(.ref x0)] 1 = mkF m 0 #[rv x0] [] := by first | (simp [entryFrame, mkF, argsToLocals, Value.category]; done) | rfl
def own_QisnO (Z : State) (a1 : Addr) (ka : ClassId) (vs : List Value) (z : Int32) (h0 : Heap) (n0 : Nat) : Option Value → Heap → List Loc → Prop := fun v h L => v = some (.int 1) ∧ Fr n0 L ∧ h = h0
def own_RisnO : Room := { frames := 0, cells := 0, slots := 0, locals := 0 }
set_option maxRecDepth 65536 in
set_option maxHeartbeats 40000000 in
theorem own_rmisnO (l : Launch) (Z : State) (a0 : Array Value) (hw : ∀ d ∈ tables_1, d.before a0 Z = true) (ws : List Jvm.Cond) (a1 : Addr) (ka : ClassId) (vs : List Value) (z : Int32) (h0 : Heap) (n0 : Nat) (Z0 : n0 ≤ h0.size) (pr0 : Arv Z h0 a1 ka (.object "java/lang/String") z vs .null) (hm : z % (2 : Int32) = (1 : Int32)) :
    own_Met l Z own_y7 prog_100_method_5_code 1 (some .boolean) ws own_RisnO h0 #[(.ref a1)] (own_QisnO Z a1 ka vs z h0 n0) own_RisnO.cells own_RisnO.slots := by
  refine own_start (plainFor_of_name own_pn3) ?_
  intro p e s m below meth c s₁ X0 hx hZ hby hml hret hlk hown hnm e0
  have hown : s.vm.findClass "com/example/tagwright/tagwright/XmlElement" = some m.cls := hown
  have hml : c.maxLocals = 1 := hml
  have N0 := Fr.nil n0
  refine own_cast (own_efisnO m a1) ?_
  refine own_s s₁ (mkF m 1 #[rv a1] [(.ref a1)]) (fun _ k => XS.aloadN X0.here hx rfl (hb hby od_prog_100_m_5_0) rfl rfl k) ?_
  obtain ⟨cl1, Ar1, q1, S1, Nn1, H1, G1⟩ := id pr0
  refine own_s s₁ (mkF m 13 #[rv a1] [(.int 1)]) (fun _ k => own_len X0 hx hZ e0 Ar1 S1 Nn1 (g := (mkF m 1 #[rv a1] [(.ref a1)])) rfl rfl (hb hby od_prog_100_m_5_1) (XS.iconst X0.here hx rfl (hb hby od_prog_100_m_5_2) (iremM X0 hx rfl (hb hby od_prog_100_m_5_3) rfl (by decide) (XS.iconst X0.here hx rfl (hb hby od_prog_100_m_5_4) (XS.icmpNo X0.here hx rfl (hb hby od_prog_100_m_5_5) rfl (teq hm).2 (XS.iconst X0.here hx rfl (hb hby od_prog_100_m_5_8) (XS.goto X0.here hx rfl (pc0 := 9) (pc' := 13) rfl (hb hby od_prog_100_m_5_9) (by decide) (by decide) k))))))) ?_
  exact own_finZ X0 hx (t := .boolean) hret (by simp) (z' := (1 : Int32)) rfl (hb hby od_prog_100_m_5_13) (own_end (Qv := (own_QisnO Z a1 ka vs z h0 n0)) X0 (own_some hret) hlk (by decide) (by decide) e0 ⟨rfl, N0, rfl⟩)
theorem od_prog_100_m_5_12 : decode prog_100_method_5_code 12 = .ok (.iconst 0, 1) := by decide +kernel
theorem own_efisnE (m : MethodId) (x0 : Addr) : entryFrame m #[(.ref x0)] 1 = mkF m 0 #[rv x0] [] := by first | (simp [entryFrame, mkF, argsToLocals, Value.category]; done) | rfl
def own_QisnE (Z : State) (a1 : Addr) (ka : ClassId) (vs : List Value) (z : Int32) (h0 : Heap) (n0 : Nat) : Option Value → Heap → List Loc → Prop := fun v h L => v = some (.int 0) ∧ Fr n0 L ∧ h = h0
def own_RisnE : Room := { frames := 0, cells := 0, slots := 0, locals := 0 }
set_option maxRecDepth 65536 in
set_option maxHeartbeats 40000000 in
theorem own_rmisnE (l : Launch) (Z : State) (a0 : Array Value) (hw : ∀ d ∈ tables_1, d.before a0 Z = true) (ws : List Jvm.Cond) (a1 : Addr) (ka : ClassId) (vs : List Value) (z : Int32) (h0 : Heap) (n0 : Nat) (Z0 : n0 ≤ h0.size) (pr0 : Arv Z h0 a1 ka (.object "java/lang/String") z vs .null) (hm : ¬ z % (2 : Int32) = (1 : Int32)) :
    own_Met l Z own_y7 prog_100_method_5_code 1 (some .boolean) ws own_RisnE h0 #[(.ref a1)] (own_QisnE Z a1 ka vs z h0 n0) own_RisnE.cells own_RisnE.slots := by
  refine own_start (plainFor_of_name own_pn3) ?_
  intro p e s m below meth c s₁ X0 hx hZ hby hml hret hlk hown hnm e0
  have hown : s.vm.findClass "com/example/tagwright/tagwright/XmlElement" = some m.cls := hown
  have hml : c.maxLocals = 1 := hml
  have N0 := Fr.nil n0
  refine own_cast (own_efisnE m a1) ?_
  refine own_s s₁ (mkF m 1 #[rv a1] [(.ref a1)]) (fun _ k => XS.aloadN X0.here hx rfl (hb hby od_prog_100_m_5_0) rfl rfl k) ?_
  obtain ⟨cl1, Ar1, q1, S1, Nn1, H1, G1⟩ := id pr0
  refine own_s s₁ (mkF m 13 #[rv a1] [(.int 0)]) (fun _ k => own_len X0 hx hZ e0 Ar1 S1 Nn1 (g := (mkF m 1 #[rv a1] [(.ref a1)])) rfl rfl (hb hby od_prog_100_m_5_1) (XS.iconst X0.here hx rfl (hb hby od_prog_100_m_5_2) (iremM X0 hx rfl (hb hby od_prog_100_m_5_3) rfl (by decide) (XS.iconst X0.here hx rfl (hb hby od_prog_100_m_5_4) (XS.icmpYes X0.here hx rfl (pc0 := 5) (pc' := 12) rfl (hb hby od_prog_100_m_5_5) rfl (feq hm).2 (by decide) (by decide) (XS.iconst X0.here hx rfl (hb hby od_prog_100_m_5_12) k)))))) ?_
  exact own_finZ X0 hx (t := .boolean) hret (by simp) (z' := (0 : Int32)) rfl (hb hby od_prog_100_m_5_13) (own_end (Qv := (own_QisnE Z a1 ka vs z h0 n0)) X0 (own_some hret) hlk (by decide) (by decide) e0 ⟨rfl, N0, rfl⟩)
abbrev own_y8 : MethodName := ⟨"com/example/tagwright/tagwright/XmlElement", "newAttributes", "(IZ)[Ljava/lang/String;"⟩
theorem od_prog_100_m_3_0 : decode prog_100_method_3_code 0 = .ok (.iload_n 1, 1) := by decide +kernel
theorem od_prog_100_m_3_1 : decode prog_100_method_3_code 1 = .ok (.ifCond .eq 18, 3) := by decide +kernel
theorem od_prog_100_m_3_19 : decode prog_100_method_3_code 19 = .ok (.iload_n 0, 1) := by decide +kernel
theorem od_prog_100_m_3_20 : decode prog_100_method_3_code 20 = .ok (.iconst 2, 1) := by decide +kernel
theorem od_prog_100_m_3_21 : decode prog_100_method_3_code 21 = .ok (.imul, 1) := by decide +kernel
theorem od_prog_100_m_3_22 : decode prog_100_method_3_code 22 = .ok (.anewarray 60, 3) := by decide +kernel
theorem od_prog_100_m_3_25 : decode prog_100_method_3_code 25 = .ok (.areturn, 1) := by decide +kernel
theorem own_efna0_0 (m : MethodId) (x0 : Int32) (x1 : Int32) : entryFrame m #[(.int x0), (.int x1)] 2 = mkF m 0 #[iv x0, iv x1] [] := by first | (simp [entryFrame, mkF, argsToLocals, Value.category]; done) | rfl
def own_Qna0_0 (Z : State)  (h0 : Heap) (n0 : Nat) : Option Value → Heap → List Loc → Prop := fun v h L => ∃ (d : Addr) (kd : ClassId), v = some (.ref d) ∧ Fr n0 L ∧ Keep h0 h [] ∧ n0 ≤ d ∧ h0.size ≤ d ∧ Arv Z h d kd (.object "java/lang/String") (0 : Int32) [.null, .null, .null, .null, .null, .null, .null, .null, .null, .null, .null, .null, .null] .null ∧ Ovr Z kd "java/lang/String"
def own_Rna0_0 : Room := { frames := 0, cells := 1, slots := 0, locals := 0 }
set_option maxRecDepth 65536 in
set_option maxHeartbeats 40000000 in
theorem own_rmna0_0 (l : Launch) (Z : State) (a0 : Array Value) (hw : ∀ d ∈ tables_1, d.before a0 Z = true) (ws : List Jvm.Cond)  (h0 : Heap) (n0 : Nat) (Z0 : n0 ≤ h0.size) :
    own_Met l Z own_y8 prog_100_method_3_code 2 (some (.array (.object "java/lang/String"))) ws own_Rna0_0 h0 #[(.int 0), (.int 0)] (own_Qna0_0 Z h0 n0) own_Rna0_0.cells own_Rna0_0.slots := by
  refine own_start (plainFor_of_name own_pn3) ?_
  intro p e s m below meth c s₁ X0 hx hZ hby hml hret hlk hown hnm e0
  have hown : s.vm.findClass "com/example/tagwright/tagwright/XmlElement" = some m.cls := hown
  have hml : c.maxLocals = 2 := hml
  have N0 := Fr.nil n0
  refine own_cast (own_efna0_0 m (0 : Int32) (0 : Int32)) ?_
  refine own_s s₁ (mkF m 22 #[iv 0, iv 0] [(.int 0)]) (fun _ k => XS.iloadN X0.here hx rfl (hb hby od_prog_100_m_3_0) rfl  (XS.ifYes X0.here hx rfl (pc0 := 1) (pc' := 19) rfl (hb hby od_prog_100_m_3_1) rfl ((if0 _ _).trans (teq (by decide : ((0 : Int32) = (0 : Int32)))).1) (by decide) (by decide) (XS.iloadN X0.here hx rfl (hb hby od_prog_100_m_3_19) rfl  (XS.iconst X0.here hx rfl (hb hby od_prog_100_m_3_20) (XS.imul X0.here hx rfl (hb hby od_prog_100_m_3_21) rfl k))))) ?_
  obtain ⟨T1, h1, k1, X1, e1, E1, A1, O1, st1⟩ := newR X0 hx hZ hown (own_h hw 4 rfl) (own_h hw 5 rfl) e0 (g := (mkF m 22 #[iv 0, iv 0] [(.int 0)])) rfl (hb hby od_prog_100_m_3_22) rfl (by decide) (cap := 0) (by decide) (by decide) (by decide) (by decide)
  obtain ⟨b1, g1⟩ : ∃ z, z = h0.size := ⟨_, rfl⟩
  have g_b1 : n0 ≤ b1 := Nat.le_trans Z0 (Nat.le_of_eq g1.symm)
  have sz_b1 : h0.size ≤ b1 := Nat.le_trans (Keep.refl h0 []).1 (Nat.le_of_eq g1.symm)
  rw [← g1] at A1 st1
  have K1 : Keep h0 h1 [] := (Keep.refl h0 []).ext E1
  have Z1 := Nat.le_trans Z0 E1.1
  have f1 : Arv Z h1 b1 k1 (.object "java/lang/String") 0 [.null, .null, .null, .null, .null, .null, .null, .null, .null, .null, .null, .null, .null] .null := (Arv.new A1 (by decide)).pad (pad_rep [] .null 13)
  refine own_s T1 (mkF m 25 #[iv 0, iv 0] [(.ref b1)]) st1 ?_
  exact own_finA X1 hx hret rfl rfl (hb hby od_prog_100_m_3_25) (own_end (Qv := (own_Qna0_0 Z h0 n0)) X1 (own_some hret) hlk (by decide) (by decide) e1 ⟨b1, k1, rfl, N0, K1, g_b1, sz_b1, f1, O1⟩)
theorem own_efna1_0 (m : MethodId) (x0 : Int32) (x1 : Int32) : entryFrame m #[(.int x0), (.int x1)] 2 = mkF m 0 #[iv x0, iv x1] [] := by first | (simp [entryFrame, mkF, argsToLocals, Value.category]; done) | rfl
def own_Qna1_0 (Z : State)  (h0 : Heap) (n0 : Nat) : Option Value → Heap → List Loc → Prop := fun v h L => ∃ (d : Addr) (kd : ClassId), v = some (.ref d) ∧ Fr n0 L ∧ Keep h0 h [] ∧ n0 ≤ d ∧ h0.size ≤ d ∧ Arv Z h d kd (.object "java/lang/String") (2 : Int32) [.null, .null, .null, .null, .null, .null, .null, .null, .null, .null, .null, .null, .null] .null ∧ Ovr Z kd "java/lang/String"
def own_Rna1_0 : Room := { frames := 0, cells := 1, slots := 2, locals := 0 }
set_option maxRecDepth 65536 in
set_option maxHeartbeats 40000000 in
theorem own_rmna1_0 (l : Launch) (Z : State) (a0 : Array Value) (hw : ∀ d ∈ tables_1, d.before a0 Z = true) (ws : List Jvm.Cond)  (h0 : Heap) (n0 : Nat) (Z0 : n0 ≤ h0.size) :
    own_Met l Z own_y8 prog_100_method_3_code 2 (some (.array (.object "java/lang/String"))) ws own_Rna1_0 h0 #[(.int 1), (.int 0)] (own_Qna1_0 Z h0 n0) own_Rna1_0.cells own_Rna1_0.slots := by
  refine own_start (plainFor_of_name own_pn3) ?_
  intro p e s m below meth c s₁ X0 hx hZ hby hml hret hlk hown hnm e0
  have hown : s.vm.findClass "com/example/tagwright/tagwright/XmlElement" = some m.cls := hown
  have hml : c.maxLocals = 2 := hml
  have N0 := Fr.nil n0
  refine own_cast (own_efna1_0 m (1 : Int32) (0 : Int32)) ?_
  refine own_s s₁ (mkF m 22 #[iv 1, iv 0] [(.int 2)]) (fun _ k => XS.iloadN X0.here hx rfl (hb hby od_prog_100_m_3_0) rfl  (XS.ifYes X0.here hx rfl (pc0 := 1) (pc' := 19) rfl (hb hby od_prog_100_m_3_1) rfl ((if0 _ _).trans (teq (by decide : ((0 : Int32) = (0 : Int32)))).1) (by decide) (by decide) (XS.iloadN X0.here hx rfl (hb hby od_prog_100_m_3_19) rfl  (XS.iconst X0.here hx rfl (hb hby od_prog_100_m_3_20) (XS.imul X0.here hx rfl (hb hby od_prog_100_m_3_21) rfl k))))) ?_
  obtain ⟨T1, h1, k1, X1, e1, E1, A1, O1, st1⟩ := newR X0 hx hZ hown (own_h hw 4 rfl) (own_h hw 5 rfl) e0 (g := (mkF m 22 #[iv 1, iv 0] [(.int 2)])) rfl (hb hby od_prog_100_m_3_22) rfl (by decide) (cap := 2) (by decide) (by decide) (by decide) (by decide)
  obtain ⟨b1, g1⟩ : ∃ z, z = h0.size := ⟨_, rfl⟩
  have g_b1 : n0 ≤ b1 := Nat.le_trans Z0 (Nat.le_of_eq g1.symm)
  have sz_b1 : h0.size ≤ b1 := Nat.le_trans (Keep.refl h0 []).1 (Nat.le_of_eq g1.symm)
  rw [← g1] at A1 st1
  have K1 : Keep h0 h1 [] := (Keep.refl h0 []).ext E1
  have Z1 := Nat.le_trans Z0 E1.1
  have f1 : Arv Z h1 b1 k1 (.object "java/lang/String") 2 [.null, .null, .null, .null, .null, .null, .null, .null, .null, .null, .null, .null, .null] .null := (Arv.new A1 (by decide)).pad (pad_rep [] .null 13)
  refine own_s T1 (mkF m 25 #[iv 1, iv 0] [(.ref b1)]) st1 ?_
  exact own_finA X1 hx hret rfl rfl (hb hby od_prog_100_m_3_25) (own_end (Qv := (own_Qna1_0 Z h0 n0)) X1 (own_some hret) hlk (by decide) (by decide) e1 ⟨b1, k1, rfl, N0, K1, g_b1, sz_b1, f1, O1⟩)
theorem own_efna2_0 (m : MethodId) (x0 : Int32) (x1 : Int32) : entryFrame m #[(.int x0), (.int x1)] 2 = mkF m 0 #[iv x0, iv x1] [] := by first | (simp [entryFrame, mkF, argsToLocals, Value.category]; done) | rfl
def own_Qna2_0 (Z : State)  (h0 : Heap) (n0 : Nat) : Option Value → Heap → List Loc → Prop := fun v h L => ∃ (d : Addr) (kd : ClassId), v = some (.ref d) ∧ Fr n0 L ∧ Keep h0 h [] ∧ n0 ≤ d ∧ h0.size ≤ d ∧ Arv Z h d kd (.object "java/lang/String") (4 : Int32) [.null, .null, .null, .null, .null, .null, .null, .null, .null, .null, .null, .null, .null] .null ∧ Ovr Z kd "java/lang/String"
def own_Rna2_0 : Room := { frames := 0, cells := 1, slots := 4, locals := 0 }
set_option maxRecDepth 65536 in
set_option maxHeartbeats 40000000 in
theorem own_rmna2_0 (l : Launch) (Z : State) (a0 : Array Value) (hw : ∀ d ∈ tables_1, d.before a0 Z = true) (ws : List Jvm.Cond)  (h0 : Heap) (n0 : Nat) (Z0 : n0 ≤ h0.size) :
    own_Met l Z own_y8 prog_100_method_3_code 2 (some (.array (.object "java/lang/String"))) ws own_Rna2_0 h0 #[(.int 2), (.int 0)] (own_Qna2_0 Z h0 n0) own_Rna2_0.cells own_Rna2_0.slots := by
  refine own_start (plainFor_of_name own_pn3) ?_
  intro p e s m below meth c s₁ X0 hx hZ hby hml hret hlk hown hnm e0
  have hown : s.vm.findClass "com/example/tagwright/tagwright/XmlElement" = some m.cls := hown
  have hml : c.maxLocals = 2 := hml
  have N0 := Fr.nil n0
  refine own_cast (own_efna2_0 m (2 : Int32) (0 : Int32)) ?_
  refine own_s s₁ (mkF m 22 #[iv 2, iv 0] [(.int 4)]) (fun _ k => XS.iloadN X0.here hx rfl (hb hby od_prog_100_m_3_0) rfl  (XS.ifYes X0.here hx rfl (pc0 := 1) (pc' := 19) rfl (hb hby od_prog_100_m_3_1) rfl ((if0 _ _).trans (teq (by decide : ((0 : Int32) = (0 : Int32)))).1) (by decide) (by decide) (XS.iloadN X0.here hx rfl (hb hby od_prog_100_m_3_19) rfl  (XS.iconst X0.here hx rfl (hb hby od_prog_100_m_3_20) (XS.imul X0.here hx rfl (hb hby od_prog_100_m_3_21) rfl k))))) ?_
  obtain ⟨T1, h1, k1, X1, e1, E1, A1, O1, st1⟩ := newR X0 hx hZ hown (own_h hw 4 rfl) (own_h hw 5 rfl) e0 (g := (mkF m 22 #[iv 2, iv 0] [(.int 4)])) rfl (hb hby od_prog_100_m_3_22) rfl (by decide) (cap := 4) (by decide) (by decide) (by decide) (by decide)
  obtain ⟨b1, g1⟩ : ∃ z, z = h0.size := ⟨_, rfl⟩
  have g_b1 : n0 ≤ b1 := Nat.le_trans Z0 (Nat.le_of_eq g1.symm)
  have sz_b1 : h0.size ≤ b1 := Nat.le_trans (Keep.refl h0 []).1 (Nat.le_of_eq g1.symm)
  rw [← g1] at A1 st1
  have K1 : Keep h0 h1 [] := (Keep.refl h0 []).ext E1
  have Z1 := Nat.le_trans Z0 E1.1
  have f1 : Arv Z h1 b1 k1 (.object "java/lang/String") 4 [.null, .null, .null, .null, .null, .null, .null, .null, .null, .null, .null, .null, .null] .null := (Arv.new A1 (by decide)).pad (pad_rep [] .null 13)
  refine own_s T1 (mkF m 25 #[iv 2, iv 0] [(.ref b1)]) st1 ?_
  exact own_finA X1 hx hret rfl rfl (hb hby od_prog_100_m_3_25) (own_end (Qv := (own_Qna2_0 Z h0 n0)) X1 (own_some hret) hlk (by decide) (by decide) e1 ⟨b1, k1, rfl, N0, K1, g_b1, sz_b1, f1, O1⟩)
theorem own_efna3_0 (m : MethodId) (x0 : Int32) (x1 : Int32) : entryFrame m #[(.int x0), (.int x1)] 2 = mkF m 0 #[iv x0, iv x1] [] := by first | (simp [entryFrame, mkF, argsToLocals, Value.category]; done) | rfl
def own_Qna3_0 (Z : State)  (h0 : Heap) (n0 : Nat) : Option Value → Heap → List Loc → Prop := fun v h L => ∃ (d : Addr) (kd : ClassId), v = some (.ref d) ∧ Fr n0 L ∧ Keep h0 h [] ∧ n0 ≤ d ∧ h0.size ≤ d ∧ Arv Z h d kd (.object "java/lang/String") (6 : Int32) [.null, .null, .null, .null, .null, .null, .null, .null, .null, .null, .null, .null, .null] .null ∧ Ovr Z kd "java/lang/String"
def own_Rna3_0 : Room := { frames := 0, cells := 1, slots := 6, locals := 0 }
set_option maxRecDepth 65536 in
set_option maxHeartbeats 40000000 in
theorem own_rmna3_0 (l : Launch) (Z : State) (a0 : Array Value) (hw : ∀ d ∈ tables_1, d.before a0 Z = true) (ws : List Jvm.Cond)  (h0 : Heap) (n0 : Nat) (Z0 : n0 ≤ h0.size) :
    own_Met l Z own_y8 prog_100_method_3_code 2 (some (.array (.object "java/lang/String"))) ws own_Rna3_0 h0 #[(.int 3), (.int 0)] (own_Qna3_0 Z h0 n0) own_Rna3_0.cells own_Rna3_0.slots := by
  refine own_start (plainFor_of_name own_pn3) ?_
  intro p e s m below meth c s₁ X0 hx hZ hby hml hret hlk hown hnm e0
  have hown : s.vm.findClass "com/example/tagwright/tagwright/XmlElement" = some m.cls := hown
  have hml : c.maxLocals = 2 := hml
  have N0 := Fr.nil n0
  refine own_cast (own_efna3_0 m (3 : Int32) (0 : Int32)) ?_
  refine own_s s₁ (mkF m 22 #[iv 3, iv 0] [(.int 6)]) (fun _ k => XS.iloadN X0.here hx rfl (hb hby od_prog_100_m_3_0) rfl  (XS.ifYes X0.here hx rfl (pc0 := 1) (pc' := 19) rfl (hb hby od_prog_100_m_3_1) rfl ((if0 _ _).trans (teq (by decide : ((0 : Int32) = (0 : Int32)))).1) (by decide) (by decide) (XS.iloadN X0.here hx rfl (hb hby od_prog_100_m_3_19) rfl  (XS.iconst X0.here hx rfl (hb hby od_prog_100_m_3_20) (XS.imul X0.here hx rfl (hb hby od_prog_100_m_3_21) rfl k))))) ?_
  obtain ⟨T1, h1, k1, X1, e1, E1, A1, O1, st1⟩ := newR X0 hx hZ hown (own_h hw 4 rfl) (own_h hw 5 rfl) e0 (g := (mkF m 22 #[iv 3, iv 0] [(.int 6)])) rfl (hb hby od_prog_100_m_3_22) rfl (by decide) (cap := 6) (by decide) (by decide) (by decide) (by decide)
  obtain ⟨b1, g1⟩ : ∃ z, z = h0.size := ⟨_, rfl⟩
  have g_b1 : n0 ≤ b1 := Nat.le_trans Z0 (Nat.le_of_eq g1.symm)
  have sz_b1 : h0.size ≤ b1 := Nat.le_trans (Keep.refl h0 []).1 (Nat.le_of_eq g1.symm)
  rw [← g1] at A1 st1
  have K1 : Keep h0 h1 [] := (Keep.refl h0 []).ext E1
  have Z1 := Nat.le_trans Z0 E1.1
  have f1 : Arv Z h1 b1 k1 (.object "java/lang/String") 6 [.null, .null, .null, .null, .null, .null, .null, .null, .null, .null, .null, .null, .null] .null := (Arv.new A1 (by decide)).pad (pad_rep [] .null 13)
  refine own_s T1 (mkF m 25 #[iv 3, iv 0] [(.ref b1)]) st1 ?_
  exact own_finA X1 hx hret rfl rfl (hb hby od_prog_100_m_3_25) (own_end (Qv := (own_Qna3_0 Z h0 n0)) X1 (own_some hret) hlk (by decide) (by decide) e1 ⟨b1, k1, rfl, N0, K1, g_b1, sz_b1, f1, O1⟩)
theorem od_prog_100_m_3_4 : decode prog_100_method_3_code 4 = .ok (.iload_n 0, 1) := by decide +kernel
theorem od_prog_100_m_3_5 : decode prog_100_method_3_code 5 = .ok (.ifCond .le 14, 3) := by decide +kernel
theorem own_efna0_1 (m : MethodId) (x0 : Int32) (x1 : Int32) : entryFrame m #[(.int x0), (.int x1)] 2 = mkF m 0 #[iv x0, iv x1] [] := by first | (simp [entryFrame, mkF, argsToLocals, Value.category]; done) | rfl
def own_Qna0_1 (Z : State)  (h0 : Heap) (n0 : Nat) : Option Value → Heap → List Loc → Prop := fun v h L => ∃ (d : Addr) (kd : ClassId), v = some (.ref d) ∧ Fr n0 L ∧ Keep h0 h [] ∧ n0 ≤ d ∧ h0.size ≤ d ∧ Arv Z h d kd (.object "java/lang/String") (0 : Int32) [.null, .null, .null, .null, .null, .null, .null, .null, .null, .null, .null, .null, .null] .null ∧ Ovr Z kd "java/lang/String"
def own_Rna0_1 : Room := { frames := 0, cells := 1, slots := 0, locals := 0 }
set_option maxRecDepth 65536 in
set_option maxHeartbeats 40000000 in
theorem own_rmna0_1 (l : Launch) (Z : State) (a0 : Array Value) (hw : ∀ d ∈ tables_1, d.before a0 Z = true) (ws : List Jvm.Cond)  (h0 : Heap) (n0 : Nat) (Z0 : n0 ≤ h0.size) :
    own_Met l Z own_y8 prog_100_method_3_code 2 (some (.array (.object "java/lang/String"))) ws own_Rna0_1 h0 #[(.int 0), (.int 1)] (own_Qna0_1 Z h0 n0) own_Rna0_1.cells own_Rna0_1.slots := by
  refine own_start (plainFor_of_name own_pn3) ?_
  intro p e s m below meth c s₁ X0 hx hZ hby hml hret hlk hown hnm e0
  have hown : s.vm.findClass "com/example/tagwright/tagwright/XmlElement" = some m.cls := hown
  have hml : c.maxLocals = 2 := hml
  have N0 := Fr.nil n0
  refine own_cast (own_efna0_1 m (0 : Int32) (1 : Int32)) ?_
  refine own_s s₁ (mkF m 22 #[iv 0, iv 1] [(.int 0)]) (fun _ k => XS.iloadN X0.here hx rfl (hb hby od_prog_100_m_3_0) rfl  (XS.ifNo X0.here hx rfl (hb hby od_prog_100_m_3_1) rfl ((if0 _ _).trans (feq (by decide : ¬ ((1 : Int32) = (0 : Int32)))).1) (XS.iloadN X0.here hx rfl (hb hby od_prog_100_m_3_4) rfl  (XS.ifYes X0.here hx rfl (pc0 := 5) (pc' := 19) rfl (hb hby od_prog_100_m_3_5) rfl ((if0 _ _).trans (flt (by decide : ¬ ((0 : Int32) < (0 : Int32)))).2.2.2) (by decide) (by decide) (XS.iloadN X0.here hx rfl (hb hby od_prog_100_m_3_19) rfl  (XS.iconst X0.here hx rfl (hb hby od_prog_100_m_3_20) (XS.imul X0.here hx rfl (hb hby od_prog_100_m_3_21) rfl k))))))) ?_
  obtain ⟨T1, h1, k1, X1, e1, E1, A1, O1, st1⟩ := newR X0 hx hZ hown (own_h hw 4 rfl) (own_h hw 5 rfl) e0 (g := (mkF m 22 #[iv 0, iv 1] [(.int 0)])) rfl (hb hby od_prog_100_m_3_22) rfl (by decide) (cap := 0) (by decide) (by decide) (by decide) (by decide)
  obtain ⟨b1, g1⟩ : ∃ z, z = h0.size := ⟨_, rfl⟩
  have g_b1 : n0 ≤ b1 := Nat.le_trans Z0 (Nat.le_of_eq g1.symm)
  have sz_b1 : h0.size ≤ b1 := Nat.le_trans (Keep.refl h0 []).1 (Nat.le_of_eq g1.symm)
  rw [← g1] at A1 st1
  have K1 : Keep h0 h1 [] := (Keep.refl h0 []).ext E1
  have Z1 := Nat.le_trans Z0 E1.1
  have f1 : Arv Z h1 b1 k1 (.object "java/lang/String") 0 [.null, .null, .null, .null, .null, .null, .null, .null, .null, .null, .null, .null, .null] .null := (Arv.new A1 (by decide)).pad (pad_rep [] .null 13)
  refine own_s T1 (mkF m 25 #[iv 0, iv 1] [(.ref b1)]) st1 ?_
  exact own_finA X1 hx hret rfl rfl (hb hby od_prog_100_m_3_25) (own_end (Qv := (own_Qna0_1 Z h0 n0)) X1 (own_some hret) hlk (by decide) (by decide) e1 ⟨b1, k1, rfl, N0, K1, g_b1, sz_b1, f1, O1⟩)
theorem od_prog_100_m_3_8 : decode prog_100_method_3_code 8 = .ok (.iload_n 0, 1) := by decide +kernel
theorem od_prog_100_m_3_9 : decode prog_100_method_3_code 9 = .ok (.iconst 4, 1) := by decide +kernel
theorem od_prog_100_m_3_10 : decode prog_100_method_3_code 10 = .ok (.imul, 1) := by decide +kernel
theorem od_prog_100_m_3_11 : decode prog_100_method_3_code 11 = .ok (.iconst 1, 1) := by decide +kernel
theorem od_prog_100_m_3_12 : decode prog_100_method_3_code 12 = .ok (.iadd, 1) := by decide +kernel
theorem od_prog_100_m_3_13 : decode prog_100_method_3_code 13 = .ok (.anewarray 60, 3) := by decide +kernel
theorem od_prog_100_m_3_16 : decode prog_100_method_3_code 16 = .ok (.goto 9, 3) := by decide +kernel
theorem own_efna1_1 (m : MethodId) (x0 : Int32) (x1 : Int32) : entryFrame m #[(.int x0), (.int x1)] 2 = mkF m 0 #[iv x0, iv x1] [] := by first | (simp [entryFrame, mkF, argsToLocals, Value.category]; done) | rfl
def own_Qna1_1 (Z : State)  (h0 : Heap) (n0 : Nat) : Option Value → Heap → List Loc → Prop := fun v h L => ∃ (d : Addr) (kd : ClassId), v = some (.ref d) ∧ Fr n0 L ∧ Keep h0 h [] ∧ n0 ≤ d ∧ h0.size ≤ d ∧ Arv Z h d kd (.object "java/lang/String") (5 : Int32) [.null, .null, .null, .null, .null, .null, .null, .null, .null, .null, .null, .null, .null] .null ∧ Ovr Z kd "java/lang/String"
def own_Rna1_1 : Room := { frames := 0, cells := 1, slots := 5, locals := 0 }
set_option maxRecDepth 65536 in
set_option maxHeartbeats 40000000 in
theorem own_rmna1_1 (l : Launch) (Z : State) (a0 : Array Value) (hw : ∀ d ∈ tables_1, d.before a0 Z = true) (ws : List Jvm.Cond)  (h0 : Heap) (n0 : Nat) (Z0 : n0 ≤ h0.size) :
    own_Met l Z own_y8 prog_100_method_3_code 2 (some (.array (.object "java/lang/String"))) ws own_Rna1_1 h0 #[(.int 1), (.int 1)] (own_Qna1_1 Z h0 n0) own_Rna1_1.cells own_Rna1_1.slots := by
  refine own_start (plainFor_of_name own_pn3) ?_
  intro p e s m below meth c s₁ X0 hx hZ hby hml hret hlk hown hnm e0
  have hown : s.vm.findClass "com/example/tagwright/tagwright/XmlElement" = some m.cls := hown
  have hml : c.maxLocals = 2 := hml
  have N0 := Fr.nil n0
  refine own_cast (own_efna1_1 m (1 : Int32) (1 : Int32)) ?_
  refine own_s s₁ (mkF m 12 #[iv 1, iv 1] [(.int 1), (.int 4)]) (fun _ k => XS.iloadN X0.here hx rfl (hb hby od_prog_100_m_3_0) rfl  (XS.ifNo X0.here hx rfl (hb hby od_prog_100_m_3_1) rfl ((if0 _ _).trans (feq (by decide : ¬ ((1 : Int32) = (0 : Int32)))).1) (XS.iloadN X0.here hx rfl (hb hby od_prog_100_m_3_4) rfl  (XS.ifNo X0.here hx rfl (hb hby od_prog_100_m_3_5) rfl ((if0 _ _).trans (tlt (by decide : ((0 : Int32) < (1 : Int32)))).2.2.2) (XS.iloadN X0.here hx rfl (hb hby od_prog_100_m_3_8) rfl  (XS.iconst X0.here hx rfl (hb hby od_prog_100_m_3_9) (XS.imul X0.here hx rfl (hb hby od_prog_100_m_3_10) rfl (XS.iconst X0.here hx rfl (hb hby od_prog_100_m_3_11) k)))))))) ?_
  refine own_s s₁ (mkF m 13 #[iv 1, iv 1] [(.int 5)]) (fun _ k => XS.iadd X0.here hx rfl (hb hby od_prog_100_m_3_12) rfl k) ?_
  obtain ⟨T1, h1, k1, X1, e1, E1, A1, O1, st1⟩ := newR X0 hx hZ hown (own_h hw 4 rfl) (own_h hw 5 rfl) e0 (g := (mkF m 13 #[iv 1, iv 1] [(.int 5)])) rfl (hb hby od_prog_100_m_3_13) rfl (by decide) (cap := 5) (by decide) (by decide) (by decide) (by decide)
  obtain ⟨b1, g1⟩ : ∃ z, z = h0.size := ⟨_, rfl⟩
  have g_b1 : n0 ≤ b1 := Nat.le_trans Z0 (Nat.le_of_eq g1.symm)
  have sz_b1 : h0.size ≤ b1 := Nat.le_trans (Keep.refl h0 []).1 (Nat.le_of_eq g1.symm)
  rw [← g1] at A1 st1
  have K1 : Keep h0 h1 [] := (Keep.refl h0 []).ext E1
  have Z1 := Nat.le_trans Z0 E1.1
  have f1 : Arv Z h1 b1 k1 (.object "java/lang/String") 5 [.null, .null, .null, .null, .null, .null, .null, .null, .null, .null, .null, .null, .null] .null := (Arv.new A1 (by decide)).pad (pad_rep [] .null 13)
  refine own_s T1 (mkF m 16 #[iv 1, iv 1] [(.ref b1)]) st1 ?_
  refine own_s T1 (mkF m 25 #[iv 1, iv 1] [(.ref b1)]) (fun _ k => XS.goto X1.here hx rfl (pc0 := 16) (pc' := 25) rfl (hb hby od_prog_100_m_3_16) (by decide) (by decide) k) ?_
  exact own_finA X1 hx hret rfl rfl (hb hby od_prog_100_m_3_25) (own_end (Qv := (own_Qna1_1 Z h0 n0)) X1 (own_some hret) hlk (by decide) (by decide) e1 ⟨b1, k1, rfl, N0, K1, g_b1, sz_b1, f1, O1⟩)
theorem own_efna2_1 (m : MethodId) (x0 : Int32) (x1 : Int32) : entryFrame m #[(.int x0), (.int x1)] 2 = mkF m 0 #[iv x0, iv x1] [] := by first | (simp [entryFrame, mkF, argsToLocals, Value.category]; done) | rfl
def own_Qna2_1 (Z : State)  (h0 : Heap) (n0 : Nat) : Option Value → Heap → List Loc → Prop := fun v h L => ∃ (d : Addr) (kd : ClassId), v = some (.ref d) ∧ Fr n0 L ∧ Keep h0 h [] ∧ n0 ≤ d ∧ h0.size ≤ d ∧ Arv Z h d kd (.object "java/lang/String") (9 : Int32) [.null, .null, .null, .null, .null, .null, .null, .null, .null, .null, .null, .null, .null] .null ∧ Ovr Z kd "java/lang/String"
def own_Rna2_1 : Room := { frames := 0, cells := 1, slots := 9, locals := 0 }
set_option maxRecDepth 65536 in
set_option maxHeartbeats 40000000 in
theorem own_rmna2_1 (l : Launch) (Z : State) (a0 : Array Value) (hw : ∀ d ∈ tables_1, d.before a0 Z = true) (ws : List Jvm.Cond)  (h0 : Heap) (n0 : Nat) (Z0 : n0 ≤ h0.size) :
    own_Met l Z own_y8 prog_100_method_3_code 2 (some (.array (.object "java/lang/String"))) ws own_Rna2_1 h0 #[(.int 2), (.int 1)] (own_Qna2_1 Z h0 n0) own_Rna2_1.cells own_Rna2_1.slots := by
  refine own_start (plainFor_of_name own_pn3) ?_
  intro p e s m below meth c s₁ X0 hx hZ hby hml hret hlk hown hnm e0
  have hown : s.vm.findClass "com/example/tagwright/tagwright/XmlElement" = some m.cls := hown
  have hml : c.maxLocals = 2 := hml
  have N0 := Fr.nil n0
  refine own_cast (own_efna2_1 m (2 : Int32) (1 : Int32)) ?_
  refine own_s s₁ (mkF m 12 #[iv 2, iv 1] [(.int 1), (.int 8)]) (fun _ k => XS.iloadN X0.here hx rfl (hb hby od_prog_100_m_3_0) rfl  (XS.ifNo X0.here hx rfl (hb hby od_prog_100_m_3_1) rfl ((if0 _ _).trans (feq (by decide : ¬ ((1 : Int32) = (0 : Int32)))).1) (XS.iloadN X0.here hx rfl (hb hby od_prog_100_m_3_4) rfl  (XS.ifNo X0.here hx rfl (hb hby od_prog_100_m_3_5) rfl ((if0 _ _).trans (tlt (by decide : ((0 : Int32) < (2 : Int32)))).2.2.2) (XS.iloadN X0.here hx rfl (hb hby od_prog_100_m_3_8) rfl  (XS.iconst X0.here hx rfl (hb hby od_prog_100_m_3_9) (XS.imul X0.here hx rfl (hb hby od_prog_100_m_3_10) rfl (XS.iconst X0.here hx rfl (hb hby od_prog_100_m_3_11) k)))))))) ?_
  refine own_s s₁ (mkF m 13 #[iv 2, iv 1] [(.int 9)]) (fun _ k => XS.iadd X0.here hx rfl (hb hby od_prog_100_m_3_12) rfl k) ?_
  obtain ⟨T1, h1, k1, X1, e1, E1, A1, O1, st1⟩ := newR X0 hx hZ hown (own_h hw 4 rfl) (own_h hw 5 rfl) e0 (g := (mkF m 13 #[iv 2, iv 1] [(.int 9)])) rfl (hb hby od_prog_100_m_3_13) rfl (by decide) (cap := 9) (by decide) (by decide) (by decide) (by decide)
  obtain ⟨b1, g1⟩ : ∃ z, z = h0.size := ⟨_, rfl⟩
  have g_b1 : n0 ≤ b1 := Nat.le_trans Z0 (Nat.le_of_eq g1.symm)
  have sz_b1 : h0.size ≤ b1 := Nat.le_trans (Keep.refl h0 []).1 (Nat.le_of_eq g1.symm)
  rw [← g1] at A1 st1
  have K1 : Keep h0 h1 [] := (Keep.refl h0 []).ext E1
  have Z1 := Nat.le_trans Z0 E1.1
  have f1 : Arv Z h1 b1 k1 (.object "java/lang/String") 9 [.null, .null, .null, .null, .null, .null, .null, .null, .null, .null, .null, .null, .null] .null := (Arv.new A1 (by decide)).pad (pad_rep [] .null 13)
  refine own_s T1 (mkF m 16 #[iv 2, iv 1] [(.ref b1)]) st1 ?_
  refine own_s T1 (mkF m 25 #[iv 2, iv 1] [(.ref b1)]) (fun _ k => XS.goto X1.here hx rfl (pc0 := 16) (pc' := 25) rfl (hb hby od_prog_100_m_3_16) (by decide) (by decide) k) ?_
  exact own_finA X1 hx hret rfl rfl (hb hby od_prog_100_m_3_25) (own_end (Qv := (own_Qna2_1 Z h0 n0)) X1 (own_some hret) hlk (by decide) (by decide) e1 ⟨b1, k1, rfl, N0, K1, g_b1, sz_b1, f1, O1⟩)
theorem own_efna3_1 (m : MethodId) (x0 : Int32) (x1 : Int32) : entryFrame m #[(.int x0), (.int x1)] 2 = mkF m 0 #[iv x0, iv x1] [] := by first | (simp [entryFrame, mkF, argsToLocals, Value.category]; done) | rfl
def own_Qna3_1 (Z : State)  (h0 : Heap) (n0 : Nat) : Option Value → Heap → List Loc → Prop := fun v h L => ∃ (d : Addr) (kd : ClassId), v = some (.ref d) ∧ Fr n0 L ∧ Keep h0 h [] ∧ n0 ≤ d ∧ h0.size ≤ d ∧ Arv Z h d kd (.object "java/lang/String") (13 : Int32) [.null, .null, .null, .null, .null, .null, .null, .null, .null, .null, .null, .null, .null] .null ∧ Ovr Z kd "java/lang/String"
def own_Rna3_1 : Room := { frames := 0, cells := 1, slots := 13, locals := 0 }
set_option maxRecDepth 65536 in
set_option maxHeartbeats 40000000 in
theorem own_rmna3_1 (l : Launch) (Z : State) (a0 : Array Value) (hw : ∀ d ∈ tables_1, d.before a0 Z = true) (ws : List Jvm.Cond)  (h0 : Heap) (n0 : Nat) (Z0 : n0 ≤ h0.size) :
    own_Met l Z own_y8 prog_100_method_3_code 2 (some (.array (.object "java/lang/String"))) ws own_Rna3_1 h0 #[(.int 3), (.int 1)] (own_Qna3_1 Z h0 n0) own_Rna3_1.cells own_Rna3_1.slots := by
  refine own_start (plainFor_of_name own_pn3) ?_
  intro p e s m below meth c s₁ X0 hx hZ hby hml hret hlk hown hnm e0
  have hown : s.vm.findClass "com/example/tagwright/tagwright/XmlElement" = some m.cls := hown
  have hml : c.maxLocals = 2 := hml
  have N0 := Fr.nil n0
  refine own_cast (own_efna3_1 m (3 : Int32) (1 : Int32)) ?_
  refine own_s s₁ (mkF m 12 #[iv 3, iv 1] [(.int 1), (.int 12)]) (fun _ k => XS.iloadN X0.here hx rfl (hb hby od_prog_100_m_3_0) rfl  (XS.ifNo X0.here hx rfl (hb hby od_prog_100_m_3_1) rfl ((if0 _ _).trans (feq (by decide : ¬ ((1 : Int32) = (0 : Int32)))).1) (XS.iloadN X0.here hx rfl (hb hby od_prog_100_m_3_4) rfl  (XS.ifNo X0.here hx rfl (hb hby od_prog_100_m_3_5) rfl ((if0 _ _).trans (tlt (by decide : ((0 : Int32) < (3 : Int32)))).2.2.2) (XS.iloadN X0.here hx rfl (hb hby od_prog_100_m_3_8) rfl  (XS.iconst X0.here hx rfl (hb hby od_prog_100_m_3_9) (XS.imul X0.here hx rfl (hb hby od_prog_100_m_3_10) rfl (XS.iconst X0.here hx rfl (hb hby od_prog_100_m_3_11) k)))))))) ?_
  refine own_s s₁ (mkF m 13 #[iv 3, iv 1] [(.int 13)]) (fun _ k => XS.iadd X0.here hx rfl (hb hby od_prog_100_m_3_12) rfl k) ?_
  obtain ⟨T1, h1, k1, X1, e1, E1, A1, O1, st1⟩ := newR X0 hx hZ hown (own_h hw 4 rfl) (own_h hw 5 rfl) e0 (g := (mkF m 13 #[iv 3, iv 1] [(.int 13)])) rfl (hb hby od_prog_100_m_3_13) rfl (by decide) (cap := 13) (by decide) (by decide) (by decide) (by decide)
  obtain ⟨b1, g1⟩ : ∃ z, z = h0.size := ⟨_, rfl⟩
  have g_b1 : n0 ≤ b1 := Nat.le_trans Z0 (Nat.le_of_eq g1.symm)
  have sz_b1 : h0.size ≤ b1 := Nat.le_trans (Keep.refl h0 []).1 (Nat.le_of_eq g1.symm)
  rw [← g1] at A1 st1
  have K1 : Keep h0 h1 [] := (Keep.refl h0 []).ext E1
  have Z1 := Nat.le_trans Z0 E1.1
  have f1 : Arv Z h1 b1 k1 (.object "java/lang/String") 13 [.null, .null, .null, .null, .null, .null, .null, .null, .null, .null, .null, .null, .null] .null := (Arv.new A1 (by decide)).pad (pad_rep [] .null 13)
  refine own_s T1 (mkF m 16 #[iv 3, iv 1] [(.ref b1)]) st1 ?_
  refine own_s T1 (mkF m 25 #[iv 3, iv 1] [(.ref b1)]) (fun _ k => XS.goto X1.here hx rfl (pc0 := 16) (pc' := 25) rfl (hb hby od_prog_100_m_3_16) (by decide) (by decide) k) ?_
  exact own_finA X1 hx hret rfl rfl (hb hby od_prog_100_m_3_25) (own_end (Qv := (own_Qna3_1 Z h0 n0)) X1 (own_some hret) hlk (by decide) (by decide) e1 ⟨b1, k1, rfl, N0, K1, g_b1, sz_b1, f1, O1⟩)
theorem own_pd5 : parseMethodDescriptor "([Ljava/lang/String;)Z" = some ⟨[(.array (.object "java/lang/String"))], some .boolean⟩ := by decide +kernel
abbrev own_y9 : MethodName := ⟨"com/example/tagwright/tagwright/XmlElement", "putAttribute", "([Ljava/lang/String;ILjava/lang/String;Ljava/lang/String;Ljava/lang/String;Ljava/lang/String;)V"⟩
theorem od_prog_100_m_4_0 : decode prog_100_method_4_code 0 = .ok (.aload_n 0, 1) := by decide +kernel
theorem od_prog_100_m_4_1 : decode prog_100_method_4_code 1 = .ok (.invokestatic 36, 3) := by decide +kernel
theorem od_prog_100_m_4_4 : decode prog_100_method_4_code 4 = .ok (.ifCond .eq 7, 3) := by decide +kernel
theorem od_prog_100_m_4_7 : decode prog_100_method_4_code 7 = .ok (.iconst 4, 1) := by decide +kernel
theorem od_prog_100_m_4_8 : decode prog_100_method_4_code 8 = .ok (.goto 4, 3) := by decide +kernel
theorem od_prog_100_m_4_12 : decode prog_100_method_4_code 12 = .ok (.istore 6, 2) := by decide +kernel
theorem od_prog_100_m_4_14 : decode prog_100_method_4_code 14 = .ok (.iload 6, 2) := by decide +kernel
theorem od_prog_100_m_4_16 : decode prog_100_method_4_code 16 = .ok (.iconst 4, 1) := by decide +kernel
theorem od_prog_100_m_4_17 : decode prog_100_method_4_code 17 = .ok (.if_icmp .ne 21, 3) := by decide +kernel
theorem od_prog_100_m_4_20 : decode prog_100_method_4_code 20 = .ok (.aload_n 0, 1) := by decide +kernel
theorem od_prog_100_m_4_21 : decode prog_100_method_4_code 21 = .ok (.iload_n 1, 1) := by decide +kernel
theorem od_prog_100_m_4_22 : decode prog_100_method_4_code 22 = .ok (.iload 6, 2) := by decide +kernel
theorem od_prog_100_m_4_24 : decode prog_100_method_4_code 24 = .ok (.imul, 1) := by decide +kernel
theorem od_prog_100_m_4_25 : decode prog_100_method_4_code 25 = .ok (.iconst 2, 1) := by decide +kernel
theorem od_prog_100_m_4_26 : decode prog_100_method_4_code 26 = .ok (.iadd, 1) := by decide +kernel
theorem od_prog_100_m_4_27 : decode prog_100_method_4_code 27 = .ok (.aload_n 2, 1) := by decide +kernel
theorem od_prog_100_m_4_28 : decode prog_100_method_4_code 28 = .ok (.aastore, 1) := by decide +kernel
theorem od_prog_100_m_4_29 : decode prog_100_method_4_code 29 = .ok (.aload_n 0, 1) := by decide +kernel
theorem od_prog_100_m_4_30 : decode prog_100_method_4_code 30 = .ok (.iload_n 1, 1) := by decide +kernel
theorem od_prog_100_m_4_31 : decode prog_100_method_4_code 31 = .ok (.iload 6, 2) := by decide +kernel
theorem od_prog_100_m_4_33 : decode prog_100_method_4_code 33 = .ok (.imul, 1) := by decide +kernel
theorem od_prog_100_m_4_34 : decode prog_100_method_4_code 34 = .ok (.iconst 3, 1) := by decide +kernel
theorem od_prog_100_m_4_35 : decode prog_100_method_4_code 35 = .ok (.iadd, 1) := by decide +kernel
theorem od_prog_100_m_4_36 : decode prog_100_method_4_code 36 = .ok (.aload_n 3, 1) := by decide +kernel
theorem od_prog_100_m_4_37 : decode prog_100_method_4_code 37 = .ok (.aastore, 1) := by decide +kernel
theorem od_prog_100_m_4_38 : decode prog_100_method_4_code 38 = .ok (.iload 6, 2) := by decide +kernel
theorem od_prog_100_m_4_40 : decode prog_100_method_4_code 40 = .ok (.iconst 4, 1) := by decide +kernel
theorem od_prog_100_m_4_41 : decode prog_100_method_4_code 41 = .ok (.if_icmp .eq 16, 3) := by decide +kernel
theorem od_prog_100_m_4_57 : decode prog_100_method_4_code 57 = .ok (.aload_n 0, 1) := by decide +kernel
theorem od_prog_100_m_4_58 : decode prog_100_method_4_code 58 = .ok (.iload_n 1, 1) := by decide +kernel
theorem od_prog_100_m_4_59 : decode prog_100_method_4_code 59 = .ok (.iload 6, 2) := by decide +kernel
theorem od_prog_100_m_4_61 : decode prog_100_method_4_code 61 = .ok (.imul, 1) := by decide +kernel
theorem od_prog_100_m_4_62 : decode prog_100_method_4_code 62 = .ok (.iconst 0, 1) := by decide +kernel
theorem od_prog_100_m_4_63 : decode prog_100_method_4_code 63 = .ok (.iadd, 1) := by decide +kernel
theorem od_prog_100_m_4_64 : decode prog_100_method_4_code 64 = .ok (.aload 4, 2) := by decide +kernel
theorem od_prog_100_m_4_66 : decode prog_100_method_4_code 66 = .ok (.aastore, 1) := by decide +kernel
theorem od_prog_100_m_4_67 : decode prog_100_method_4_code 67 = .ok (.aload_n 0, 1) := by decide +kernel
theorem od_prog_100_m_4_68 : decode prog_100_method_4_code 68 = .ok (.iload_n 1, 1) := by decide +kernel
theorem od_prog_100_m_4_69 : decode prog_100_method_4_code 69 = .ok (.iload 6, 2) := by decide +kernel
theorem od_prog_100_m_4_71 : decode prog_100_method_4_code 71 = .ok (.imul, 1) := by decide +kernel
theorem od_prog_100_m_4_72 : decode prog_100_method_4_code 72 = .ok (.iconst 1, 1) := by decide +kernel
theorem od_prog_100_m_4_73 : decode prog_100_method_4_code 73 = .ok (.iadd, 1) := by decide +kernel
theorem od_prog_100_m_4_74 : decode prog_100_method_4_code 74 = .ok (.aload 5, 2) := by decide +kernel
theorem od_prog_100_m_4_76 : decode prog_100_method_4_code 76 = .ok (.aastore, 1) := by decide +kernel
theorem od_prog_100_m_4_77 : decode prog_100_method_4_code 77 = .ok (.goto 18, 3) := by decide +kernel
theorem od_prog_100_m_4_95 : decode prog_100_method_4_code 95 = .ok (.return_, 1) := by decide +kernel
theorem own_efpa0_1 (m : MethodId) (x0 : Addr) (x1 : Int32) (x2 : Addr) (x3 : Addr) (x4 : Addr) (x5 : Addr) : entryFrame m #[(.ref x0), (.int x1), (.ref x2), (.ref x3), (.ref x4), (.ref x5)] 7 = mkF m 0 #[rv x0, iv x1, rv x2, rv x3, rv x4, rv x5, u_] [] := by first | (simp [entryFrame, mkF, argsToLocals, Value.category]; done) | rfl
def own_Qpa0_1 (Z : State) (a1 : Addr) (a3 : Addr) (a4 : Addr) (a5 : Addr) (a6 : Addr) (kd : ClassId) (z : Int32) (v0 : Value) (v1 : Value) (v2 : Value) (v3 : Value) (v4 : Value) (v5 : Value) (v6 : Value) (v7 : Value) (v8 : Value) (v9 : Value) (v10 : Value) (v11 : Value) (v12 : Value) (h0 : Heap) (n0 : Nat) : Option Value → Heap → List Loc → Prop := fun v h L => v = none ∧ Fr n0 L ∧ Keep h0 h [a1] ∧ Arv Z h a1 kd (.object "java/lang/String") z [(.ref a5), (.ref a6), (.ref a3), (.ref a4), v4, v5, v6, v7, v8, v9, v10, v11, v12] .null
def own_Rpa0_1 : Room := { frames := 1, cells := 0, slots := 0, locals := 12 }
set_option maxRecDepth 65536 in
set_option maxHeartbeats 40000000 in
theorem own_rmpa0_1 (l : Launch) (Z : State) (a0 : Array Value) (hw : ∀ d ∈ tables_1, d.before a0 Z = true) (ws : List Jvm.Cond) (a1 : Addr) (a3 : Addr) (a4 : Addr) (a5 : Addr) (a6 : Addr) (kd : ClassId) (z : Int32) (v0 : Value) (v1 : Value) (v2 : Value) (v3 : Value) (v4 : Value) (v5 : Value) (v6 : Value) (v7 : Value) (v8 : Value) (v9 : Value) (v10 : Value) (v11 : Value) (v12 : Value) (h0 : Heap) (n0 : Nat) (Z0 : n0 ≤ h0.size) (g_a1 : n0 ≤ a1) (pr1 : Arv Z h0 a1 kd (.object "java/lang/String") z [v0, v1, v2, v3, v4, v5, v6, v7, v8, v9, v10, v11, v12] .null) (pr2 : Ovr Z kd "java/lang/String") (pr3 : Exa Z h0 a3 "java/lang/String") (pr4 : Exa Z h0 a4 "java/lang/String") (pr5 : Exa Z h0 a5 "java/lang/String") (pr6 : Exa Z h0 a6 "java/lang/String") (hm : z % (2 : Int32) = (1 : Int32)) (hz0 : (0 : Int32) < z) (hz1 : (1 : Int32) < z) (hz2 : (2 : Int32) < z) (hz3 : (3 : Int32) < z) :
    own_Met l Z own_y9 prog_100_method_4_code 7 none ws own_Rpa0_1 h0 #[(.ref a1), (.int 0), (.ref a3), (.ref a4), (.ref a5), (.ref a6)] (own_Qpa0_1 Z a1 a3 a4 a5 a6 kd z v0 v1 v2 v3 v4 v5 v6 v7 v8 v9 v10 v11 v12 h0 n0) own_Rpa0_1.cells own_Rpa0_1.slots := by
  refine own_start (plainFor_of_name own_pn3) ?_
  intro p e s m below meth c s₁ X0 hx hZ hby hml hret hlk hown hnm e0
  have hown : s.vm.findClass "com/example/tagwright/tagwright/XmlElement" = some m.cls := hown
  have hml : c.maxLocals = 7 := hml
  have N0 := Fr.nil n0
  refine own_cast (own_efpa0_1 m a1 (0 : Int32) a3 a4 a5 a6) ?_
  refine own_s s₁ (mkF m 1 #[rv a1, iv 0, rv a3, rv a4, rv a5, rv a6, u_] [(.ref a1)]) (fun _ k => XS.aloadN X0.here hx rfl (hb hby od_prog_100_m_4_0) rfl rfl k) ?_
  obtain ⟨v1, T1, L1, X1, hQ1, st1⟩ := own_callS X0 hx hZ (y := own_y7) (W := 0) hown (own_h hw 62 rfl) (own_h hw 63 rfl) (own_h hw 2 rfl) (own_h hw 64 rfl) (by decide) (own_rmisnO l Z a0 hw [] a1 kd [v0, v1, v2, v3, v4, v5, v6, v7, v8, v9, v10, v11, v12] z h0 n0 Z0 pr1 hm) (by decide) (by decide) (g := (mkF m 1 #[rv a1, iv 0, rv a3, rv a4, rv a5, rv a6, u_] [(.ref a1)])) rfl (by rw [hml]; rfl) (argsL := [(.ref a1)]) (rest := []) rfl (lenOf own_pd5 rfl) rfl (by show 2 * 0 + _ ≤ _; exact Nat.le_of_eq rfl) (hb hby od_prog_100_m_4_1) e0 (by decide) (by decide)
  obtain ⟨rfl, Nq1, e1⟩ := hQ1
  have N1 := Fr.app N0 Nq1
  refine own_s T1 (mkF m 4 #[rv a1, iv 0, rv a3, rv a4, rv a5, rv a6, u_] [(.int 1)]) st1 ?_
  refine own_s T1 (mkF m 21 #[rv a1, iv 0, rv a3, rv a4, rv a5, rv a6, iv 4] [(.ref a1)]) (fun _ k => XS.ifNo X1.here hx rfl (hb hby od_prog_100_m_4_4) rfl ((if0 _ _).trans (feq (by decide : ¬ ((1 : Int32) = (0 : Int32)))).1) (XS.iconst X1.here hx rfl (hb hby od_prog_100_m_4_7) (XS.goto X1.here hx rfl (pc0 := 8) (pc' := 12) rfl (hb hby od_prog_100_m_4_8) (by decide) (by decide) (XS.istore X1.here hx rfl (hb hby od_prog_100_m_4_12) rfl (l' := #[rv a1, iv 0, rv a3, rv a4, rv a5, rv a6, iv 4]) rfl (XS.iload X1.here hx rfl (hb hby od_prog_100_m_4_14) rfl  (XS.iconst X1.here hx rfl (hb hby od_prog_100_m_4_16) (XS.icmpNo X1.here hx rfl (hb hby od_prog_100_m_4_17) rfl (teq (by decide : ((4 : Int32) = (4 : Int32)))).2 (XS.aloadN X1.here hx rfl (hb hby od_prog_100_m_4_20) rfl rfl k)))))))) ?_
  refine own_s T1 (mkF m 28 #[rv a1, iv 0, rv a3, rv a4, rv a5, rv a6, iv 4] [(.ref a3), (.int 2), (.ref a1)]) (fun _ k => XS.iloadN X1.here hx rfl (hb hby od_prog_100_m_4_21) rfl  (XS.iload X1.here hx rfl (hb hby od_prog_100_m_4_22) rfl  (XS.imul X1.here hx rfl (hb hby od_prog_100_m_4_24) rfl (XS.iconst X1.here hx rfl (hb hby od_prog_100_m_4_25) (XS.iadd X1.here hx rfl (hb hby od_prog_100_m_4_26) rfl (XS.aloadN X1.here hx rfl (hb hby od_prog_100_m_4_27) rfl rfl k)))))) ?_
  obtain ⟨cl2, Ar2, q2, S2, Nn2, H2, G2⟩ := id pr1
  have hin2 : ¬ ((2 : Int32) < 0 ∨ cl2.slots.size ≤ ((2 : Int32)).toNatClampNeg) := (inb_of S2 ⟨by decide, hz2⟩)
  obtain ⟨T2, h2, X2, e2, W2, st2⟩ := stR X1 hx hZ e1 Ar2 (j := (2 : Int32)) hin2 rfl (Sto.ofV Ar2 q2 pr2 (Ins.self pr3)) (g := (mkF m 28 #[rv a1, iv 0, rv a3, rv a4, rv a5, rv a6, iv 4] [(.ref a3), (.int 2), (.ref a1)])) rfl rfl (hb hby od_prog_100_m_4_28)
  have f2 : Arv Z h2 a1 kd (.object "java/lang/String") z [v0, v1, (.ref a3), v3, v4, v5, v6, v7, v8, v9, v10, v11, v12] .null := Arv.set Ar2 q2 S2 Nn2 H2 G2 rfl W2 2 rfl (Nat.le_of_ble_eq_true rfl)
  have f3 := Exa.wr W2 pr3
  have f4 := Exa.wr W2 pr4
  have f5 := Exa.wr W2 pr5
  have f6 := Exa.wr W2 pr6
  have K2 : Keep h0 h2 [a1] := (Keep.refl h0 [a1]).wr W2 (Or.inl (List.mem_of_getElem? (i := 0) rfl))
  have Z2 := Nat.le_trans Z0 (Nat.le_of_eq W2.size.symm)
  have N2 := Fr.snoc X2 N1 g_a1
  refine own_s T2 (mkF m 29 #[rv a1, iv 0, rv a3, rv a4, rv a5, rv a6, iv 4] []) st2 ?_
  refine own_s T2 (mkF m 37 #[rv a1, iv 0, rv a3, rv a4, rv a5, rv a6, iv 4] [(.ref a4), (.int 3), (.ref a1)]) (fun _ k => XS.aloadN X2.here hx rfl (hb hby od_prog_100_m_4_29) rfl rfl (XS.iloadN X2.here hx rfl (hb hby od_prog_100_m_4_30) rfl  (XS.iload X2.here hx rfl (hb hby od_prog_100_m_4_31) rfl  (XS.imul X2.here hx rfl (hb hby od_prog_100_m_4_33) rfl (XS.iconst X2.here hx rfl (hb hby od_prog_100_m_4_34) (XS.iadd X2.here hx rfl (hb hby od_prog_100_m_4_35) rfl (XS.aloadN X2.here hx rfl (hb hby od_prog_100_m_4_36) rfl rfl k))))))) ?_
  obtain ⟨cl7, Ar7, q7, S7, Nn7, H7, G7⟩ := id f2
  have hin7 : ¬ ((3 : Int32) < 0 ∨ cl7.slots.size ≤ ((3 : Int32)).toNatClampNeg) := (inb_of S7 ⟨by decide, hz3⟩)
  obtain ⟨T7, h7, X7, e7, W7, st7⟩ := stR X2 hx hZ e2 Ar7 (j := (3 : Int32)) hin7 rfl (Sto.ofV Ar7 q7 pr2 (Ins.self f4)) (g := (mkF m 37 #[rv a1, iv 0, rv a3, rv a4, rv a5, rv a6, iv 4] [(.ref a4), (.int 3), (.ref a1)])) rfl rfl (hb hby od_prog_100_m_4_37)
  have f7 : Arv Z h7 a1 kd (.object "java/lang/String") z [v0, v1, (.ref a3), (.ref a4), v4, v5, v6, v7, v8, v9, v10, v11, v12] .null := Arv.set Ar7 q7 S7 Nn7 H7 G7 rfl W7 3 rfl (Nat.le_of_ble_eq_true rfl)
  have f8 := Exa.wr W7 f3
  have f9 := Exa.wr W7 f4
  have f10 := Exa.wr W7 f5
  have f11 := Exa.wr W7 f6
  have K7 : Keep h0 h7 [a1] := K2.wr W7 (Or.inl (List.mem_of_getElem? (i := 0) rfl))
  have Z7 := Nat.le_trans Z2 (Nat.le_of_eq W7.size.symm)
  have N7 := Fr.snoc X7 N2 g_a1
  refine own_s T7 (mkF m 38 #[rv a1, iv 0, rv a3, rv a4, rv a5, rv a6, iv 4] []) st7 ?_
  refine own_s T7 (mkF m 63 #[rv a1, iv 0, rv a3, rv a4, rv a5, rv a6, iv 4] [(.int 0), (.int 0), (.ref a1)]) (fun _ k => XS.iload X7.here hx rfl (hb hby od_prog_100_m_4_38) rfl  (XS.iconst X7.here hx rfl (hb hby od_prog_100_m_4_40) (XS.icmpYes X7.here hx rfl (pc0 := 41) (pc' := 57) rfl (hb hby od_prog_100_m_4_41) rfl (teq (by decide : ((4 : Int32) = (4 : Int32)))).1 (by decide) (by decide) (XS.aloadN X7.here hx rfl (hb hby od_prog_100_m_4_57) rfl rfl (XS.iloadN X7.here hx rfl (hb hby od_prog_100_m_4_58) rfl  (XS.iload X7.here hx rfl (hb hby od_prog_100_m_4_59) rfl  (XS.imul X7.here hx rfl (hb hby od_prog_100_m_4_61) rfl (XS.iconst X7.here hx rfl (hb hby od_prog_100_m_4_62) k)))))))) ?_
  refine own_s T7 (mkF m 66 #[rv a1, iv 0, rv a3, rv a4, rv a5, rv a6, iv 4] [(.ref a5), (.int 0), (.ref a1)]) (fun _ k => XS.iadd X7.here hx rfl (hb hby od_prog_100_m_4_63) rfl (XS.aload X7.here hx rfl (hb hby od_prog_100_m_4_64) rfl rfl k)) ?_
  obtain ⟨cl12, Ar12, q12, S12, Nn12, H12, G12⟩ := id f7
  have hin12 : ¬ ((0 : Int32) < 0 ∨ cl12.slots.size ≤ ((0 : Int32)).toNatClampNeg) := (inb_of S12 ⟨by decide, hz0⟩)
  obtain ⟨T12, h12, X12, e12, W12, st12⟩ := stR X7 hx hZ e7 Ar12 (j := (0 : Int32)) hin12 rfl (Sto.ofV Ar12 q12 pr2 (Ins.self f10)) (g := (mkF m 66 #[rv a1, iv 0, rv a3, rv a4, rv a5, rv a6, iv 4] [(.ref a5), (.int 0), (.ref a1)])) rfl rfl (hb hby od_prog_100_m_4_66)
  have f12 : Arv Z h12 a1 kd (.object "java/lang/String") z [(.ref a5), v1, (.ref a3), (.ref a4), v4, v5, v6, v7, v8, v9, v10, v11, v12] .null := Arv.set Ar12 q12 S12 Nn12 H12 G12 rfl W12 0 rfl (Nat.le_of_ble_eq_true rfl)
  have f13 := Exa.wr W12 f8
  have f14 := Exa.wr W12 f9
  have f15 := Exa.wr W12 f10
  have f16 := Exa.wr W12 f11
  have K12 : Keep h0 h12 [a1] := K7.wr W12 (Or.inl (List.mem_of_getElem? (i := 0) rfl))
  have Z12 := Nat.le_trans Z7 (Nat.le_of_eq W12.size.symm)
  have N12 := Fr.snoc X12 N7 g_a1
  refine own_s T12 (mkF m 67 #[rv a1, iv 0, rv a3, rv a4, rv a5, rv a6, iv 4] []) st12 ?_
  refine own_s T12 (mkF m 76 #[rv a1, iv 0, rv a3, rv a4, rv a5, rv a6, iv 4] [(.ref a6), (.int 1), (.ref a1)]) (fun _ k => XS.aloadN X12.here hx rfl (hb hby od_prog_100_m_4_67) rfl rfl (XS.iloadN X12.here hx rfl (hb hby od_prog_100_m_4_68) rfl  (XS.iload X12.here hx rfl (hb hby od_prog_100_m_4_69) rfl  (XS.imul X12.here hx rfl (hb hby od_prog_100_m_4_71) rfl (XS.iconst X12.here hx rfl (hb hby od_prog_100_m_4_72) (XS.iadd X12.here hx rfl (hb hby od_prog_100_m_4_73) rfl (XS.aload X12.here hx rfl (hb hby od_prog_100_m_4_74) rfl rfl k))))))) ?_
  obtain ⟨cl17, Ar17, q17, S17, Nn17, H17, G17⟩ := id f12
  have hin17 : ¬ ((1 : Int32) < 0 ∨ cl17.slots.size ≤ ((1 : Int32)).toNatClampNeg) := (inb_of S17 ⟨by decide, hz1⟩)
  obtain ⟨T17, h17, X17, e17, W17, st17⟩ := stR X12 hx hZ e12 Ar17 (j := (1 : Int32)) hin17 rfl (Sto.ofV Ar17 q17 pr2 (Ins.self f16)) (g := (mkF m 76 #[rv a1, iv 0, rv a3, rv a4, rv a5, rv a6, iv 4] [(.ref a6), (.int 1), (.ref a1)])) rfl rfl (hb hby od_prog_100_m_4_76)
  have f17 : Arv Z h17 a1 kd (.object "java/lang/String") z [(.ref a5), (.ref a6), (.ref a3), (.ref a4), v4, v5, v6, v7, v8, v9, v10, v11, v12] .null := Arv.set Ar17 q17 S17 Nn17 H17 G17 rfl W17 1 rfl (Nat.le_of_ble_eq_true rfl)
  have f18 := Exa.wr W17 f13
  have f19 := Exa.wr W17 f14
  have f20 := Exa.wr W17 f15
  have f21 := Exa.wr W17 f16
  have K17 : Keep h0 h17 [a1] := K12.wr W17 (Or.inl (List.mem_of_getElem? (i := 0) rfl))
  have Z17 := Nat.le_trans Z12 (Nat.le_of_eq W17.size.symm)
  have N17 := Fr.snoc X17 N12 g_a1
  refine own_s T17 (mkF m 77 #[rv a1, iv 0, rv a3, rv a4, rv a5, rv a6, iv 4] []) st17 ?_
  refine own_s T17 (mkF m 95 #[rv a1, iv 0, rv a3, rv a4, rv a5, rv a6, iv 4] []) (fun _ k => XS.goto X17.here hx rfl (pc0 := 77) (pc' := 95) rfl (hb hby od_prog_100_m_4_77) (by decide) (by decide) k) ?_
  exact own_finV X17 hx hret (hb hby od_prog_100_m_4_95) (own_end (Qv := (own_Qpa0_1 Z a1 a3 a4 a5 a6 kd z v0 v1 v2 v3 v4 v5 v6 v7 v8 v9 v10 v11 v12 h0 n0)) X17 (fun _ => rfl) hlk (by decide) (by decide) e17 ⟨rfl, N17, K17, f17⟩)
theorem own_pd6 : parseMethodDescriptor "(II)Ljava/lang/String;" = some ⟨[.int, .int], some (.object "java/lang/String")⟩ := by decide +kernel
theorem own_pd7 : parseMethodDescriptor "([Ljava/lang/String;ILjava/lang/String;Ljava/lang/String;Ljava/lang/String;Ljava/lang/String;)V" = some ⟨[(.array (.object "java/lang/String")), .int, (.object "java/lang/String"), (.object "java/lang/String"), (.object "java/lang/String"), (.object "java/lang/String")], none⟩ := by decide +kernel
abbrev own_y10 : MethodName := ⟨"com/example/tagwright/tagwright/XmlElementNewAttributesPinLaw", "put", "([Ljava/lang/String;IZIIII)V"⟩
theorem od_m_4_0 : decode method_4_code 0 = .ok (.iload_n 3, 1) := by decide +kernel
theorem od_m_4_1 : decode method_4_code 1 = .ok (.iload_n 1, 1) := by decide +kernel
theorem od_m_4_2 : decode method_4_code 2 = .ok (.invokestatic 41, 3) := by decide +kernel
theorem od_m_4_5 : decode method_4_code 5 = .ok (.astore 7, 2) := by decide +kernel
theorem od_m_4_7 : decode method_4_code 7 = .ok (.iload 4, 2) := by decide +kernel
theorem od_m_4_9 : decode method_4_code 9 = .ok (.iload_n 1, 1) := by decide +kernel
theorem od_m_4_10 : decode method_4_code 10 = .ok (.invokestatic 41, 3) := by decide +kernel
theorem od_m_4_13 : decode method_4_code 13 = .ok (.astore 8, 2) := by decide +kernel
theorem od_m_4_15 : decode method_4_code 15 = .ok (.iload_n 2, 1) := by decide +kernel
theorem od_m_4_16 : decode method_4_code 16 = .ok (.ifCond .eq 12, 3) := by decide +kernel
theorem od_m_4_19 : decode method_4_code 19 = .ok (.iload 6, 2) := by decide +kernel
theorem od_m_4_21 : decode method_4_code 21 = .ok (.iload_n 1, 1) := by decide +kernel
theorem od_m_4_22 : decode method_4_code 22 = .ok (.invokestatic 41, 3) := by decide +kernel
theorem od_m_4_25 : decode method_4_code 25 = .ok (.goto 4, 3) := by decide +kernel
theorem od_m_4_29 : decode method_4_code 29 = .ok (.astore 9, 2) := by decide +kernel
theorem od_m_4_31 : decode method_4_code 31 = .ok (.iload_n 2, 1) := by decide +kernel
theorem od_m_4_32 : decode method_4_code 32 = .ok (.ifCond .eq 12, 3) := by decide +kernel
theorem od_m_4_35 : decode method_4_code 35 = .ok (.iload 5, 2) := by decide +kernel
theorem od_m_4_37 : decode method_4_code 37 = .ok (.iload_n 1, 1) := by decide +kernel
theorem od_m_4_38 : decode method_4_code 38 = .ok (.invokestatic 41, 3) := by decide +kernel
theorem od_m_4_41 : decode method_4_code 41 = .ok (.goto 5, 3) := by decide +kernel
theorem od_m_4_46 : decode method_4_code 46 = .ok (.astore 10, 2) := by decide +kernel
theorem od_m_4_48 : decode method_4_code 48 = .ok (.aload_n 0, 1) := by decide +kernel
theorem od_m_4_49 : decode method_4_code 49 = .ok (.iload_n 1, 1) := by decide +kernel
theorem od_m_4_50 : decode method_4_code 50 = .ok (.aload 9, 2) := by decide +kernel
theorem od_m_4_52 : decode method_4_code 52 = .ok (.aload 10, 2) := by decide +kernel
theorem od_m_4_54 : decode method_4_code 54 = .ok (.aload 7, 2) := by decide +kernel
theorem od_m_4_56 : decode method_4_code 56 = .ok (.aload 8, 2) := by decide +kernel
theorem od_m_4_58 : decode method_4_code 58 = .ok (.invokestatic 45, 3) := by decide +kernel
theorem od_m_4_61 : decode method_4_code 61 = .ok (.return_, 1) := by decide +kernel
theorem own_efput0_1 (m : MethodId) (x0 : Addr) (x1 : Int32) (x2 : Int32) (x3 : Int32) (x4 : Int32) (x5 : Int32) (x6 : Int32) : entryFrame m #[(.ref x0), (.int x1), (.int x2), (.int x3), (.int x4), (.int x5), (.int x6)] 11 = mkF m 0 #[rv x0, iv x1, iv x2, iv x3, iv x4, iv x5, iv x6, u_, u_, u_, u_] [] := by first | (simp [entryFrame, mkF, argsToLocals, Value.category]; done) | rfl
def own_Qput0_1 (Z : State) (a1 : Addr) (p4 : Int32) (p5 : Int32) (p6 : Int32) (p7 : Int32) (kd : ClassId) (z : Int32) (v0 : Value) (v1 : Value) (v2 : Value) (v3 : Value) (v4 : Value) (v5 : Value) (v6 : Value) (v7 : Value) (v8 : Value) (v9 : Value) (v10 : Value) (v11 : Value) (v12 : Value) (gC : Int32) (h0 : Heap) (n0 : Nat) : Option Value → Heap → List Loc → Prop := fun v h L => ∃ (sn : Addr) (bn : Addr) (kn : ClassId) (sv : Addr) (bv : Addr) (kv : ClassId) (ss : Addr) (bs : Addr) (ks : ClassId) (sl : Addr) (bl : Addr) (kl : ClassId), v = none ∧ Fr n0 L ∧ Keep h0 h [a1] ∧ n0 ≤ sn ∧ h0.size ≤ sn ∧ n0 ≤ bn ∧ h0.size ≤ bn ∧ n0 ≤ sv ∧ h0.size ≤ sv ∧ n0 ≤ bv ∧ h0.size ≤ bv ∧ n0 ≤ ss ∧ h0.size ≤ ss ∧ n0 ≤ bs ∧ h0.size ≤ bs ∧ n0 ≤ sl ∧ h0.size ≤ sl ∧ n0 ≤ bl ∧ h0.size ≤ bl ∧ Arv Z h a1 kd (.object "java/lang/String") z [(.ref sn), (.ref sv), (.ref ss), (.ref sl), v4, v5, v6, v7, v8, v9, v10, v11, v12] .null ∧ Exa Z h sn "java/lang/String" ∧ Fld Z h sn "java/lang/String" "coder" "B" (.int 0) ∧ Fld Z h sn "java/lang/String" "value" "[B" (.ref bn) ∧ Arv Z h bn kn .byte (1 : Int32) [(.int (own_by (own_chr p4 (0 : Int32))))] (.int 0) ∧ Exa Z h sv "java/lang/String" ∧ Fld Z h sv "java/lang/String" "coder" "B" (.int 0) ∧ Fld Z h sv "java/lang/String" "value" "[B" (.ref bv) ∧ Arv Z h bv kv .byte (1 : Int32) [(.int (own_by (own_chr p5 (0 : Int32))))] (.int 0) ∧ Exa Z h ss "java/lang/String" ∧ Fld Z h ss "java/lang/String" "coder" "B" (.int 0) ∧ Fld Z h ss "java/lang/String" "value" "[B" (.ref bs) ∧ Arv Z h bs ks .byte (1 : Int32) [(.int (own_by (own_chr p7 (0 : Int32))))] (.int 0) ∧ Exa Z h sl "java/lang/String" ∧ Fld Z h sl "java/lang/String" "coder" "B" (.int 0) ∧ Fld Z h sl "java/lang/String" "value" "[B" (.ref bl) ∧ Arv Z h bl kl .byte (1 : Int32) [(.int (own_by (own_chr p6 (0 : Int32))))] (.int 0)
def own_Rput0_1 : Room := { frames := 4, cells := 8, slots := 20, locals := 52 }
set_option maxRecDepth 65536 in
set_option maxHeartbeats 40000000 in
theorem own_rmput0_1 (l : Launch) (Z : State) (a0 : Array Value) (hw : ∀ d ∈ tables_1, d.before a0 Z = true) (ws : List Jvm.Cond) (a1 : Addr) (p4 : Int32) (p5 : Int32) (p6 : Int32) (p7 : Int32) (kd : ClassId) (z : Int32) (v0 : Value) (v1 : Value) (v2 : Value) (v3 : Value) (v4 : Value) (v5 : Value) (v6 : Value) (v7 : Value) (v8 : Value) (v9 : Value) (v10 : Value) (v11 : Value) (v12 : Value) (gC : Int32) (h0 : Heap) (n0 : Nat) (Z0 : n0 ≤ h0.size) (g_a1 : n0 ≤ a1) (pr1 : Arv Z h0 a1 kd (.object "java/lang/String") z [v0, v1, v2, v3, v4, v5, v6, v7, v8, v9, v10, v11, v12] .null) (pr2 : Ovr Z kd "java/lang/String") (pr3 : Sta Z h0 "java/lang/String" "COMPACT_STRINGS" "Z" (.int gC)) (hG : ¬ gC = (0 : Int32)) (hm : z % (2 : Int32) = (1 : Int32)) (hz0 : (0 : Int32) < z) (hz1 : (1 : Int32) < z) (hz2 : (2 : Int32) < z) (hz3 : (3 : Int32) < z) :
    own_Met l Z own_y10 method_4_code 11 none ws own_Rput0_1 h0 #[(.ref a1), (.int 0), (.int 1), (.int p4), (.int p5), (.int p6), (.int p7)] (own_Qput0_1 Z a1 p4 p5 p6 p7 kd z v0 v1 v2 v3 v4 v5 v6 v7 v8 v9 v10 v11 v12 gC h0 n0) own_Rput0_1.cells own_Rput0_1.slots := by
  refine own_start (plainFor_of_name own_pn2) ?_
  intro p e s m below meth c s₁ X0 hx hZ hby hml hret hlk hown hnm e0
  have hown : s.vm.findClass "com/example/tagwright/tagwright/XmlElementNewAttributesPinLaw" = some m.cls := hown
  have hml : c.maxLocals = 11 := hml
  have N0 := Fr.nil n0
  refine own_cast (own_efput0_1 m a1 (0 : Int32) (1 : Int32) p4 p5 p6 p7) ?_
  refine own_s s₁ (mkF m 2 #[rv a1, iv 0, iv 1, iv p4, iv p5, iv p6, iv p7, u_, u_, u_, u_] [(.int 0), (.int p4)]) (fun _ k => XS.iloadN X0.here hx rfl (hb hby od_m_4_0) rfl  (XS.iloadN X0.here hx rfl (hb hby od_m_4_1) rfl  k)) ?_
  obtain ⟨v1, T1, L1, X1, hQ1, st1⟩ := own_callS X0 hx hZ (y := own_y4) (W := 0) hown (own_h hw 82 rfl) (own_h hw 83 rfl) (own_h hw 80 rfl) (own_h hw 84 rfl) (by decide) (own_rmstr l Z a0 hw [] p4 (0 : Int32) gC h0 n0 Z0 pr3 hG) (by decide) (by decide) (g := (mkF m 2 #[rv a1, iv 0, iv 1, iv p4, iv p5, iv p6, iv p7, u_, u_, u_, u_] [(.int 0), (.int p4)])) rfl (by rw [hml]; rfl) (argsL := [(.int p4), (.int 0)]) (rest := []) rfl (lenOf own_pd6 rfl) rfl (by show 2 * 0 + _ ≤ _; exact Nat.le_of_eq rfl) (hb hby od_m_4_2) e0 (by decide) (by decide)
  obtain ⟨za1, zb1, zk1, rfl, Nq1, Kq1, g_za1, sq_za1, g_zb1, sq_zb1, q1_0, q1_1, q1_2, q1_3⟩ := hQ1
  have N1 := Fr.app N0 Nq1
  have sz_za1 : h0.size ≤ za1 := Nat.le_trans (Keep.refl h0 [a1]).1 sq_za1
  have sz_zb1 : h0.size ≤ zb1 := Nat.le_trans (Keep.refl h0 [a1]).1 sq_zb1
  have f2 := pr1.keep Kq1 nin0
  have f3 := own_staKeep pr3 Kq1
  have K1 : Keep h0 T1.heap [a1] := (Keep.refl h0 [a1]).trans Kq1 all0
  have Z1 := Nat.le_trans Z0 Kq1.1
  refine own_s T1 (mkF m 5 #[rv a1, iv 0, iv 1, iv p4, iv p5, iv p6, iv p7, u_, u_, u_, u_] [(.ref za1)]) st1 ?_
  refine own_s T1 (mkF m 10 #[rv a1, iv 0, iv 1, iv p4, iv p5, iv p6, iv p7, rv za1, u_, u_, u_] [(.int 0), (.int p5)]) (fun _ k => XS.astore X1.here hx rfl (hb hby od_m_4_5) rfl rfl (l' := #[rv a1, iv 0, iv 1, iv p4, iv p5, iv p6, iv p7, rv za1, u_, u_, u_]) rfl (XS.iload X1.here hx rfl (hb hby od_m_4_7) rfl  (XS.iloadN X1.here hx rfl (hb hby od_m_4_9) rfl  k))) ?_
  obtain ⟨v4, T4, L4, X4, hQ4, st4⟩ := own_callS X1 hx hZ (y := own_y4) (W := 0) hown (own_h hw 82 rfl) (own_h hw 83 rfl) (own_h hw 80 rfl) (own_h hw 84 rfl) (by decide) (own_rmstr l Z a0 hw [] p5 (0 : Int32) gC T1.heap n0 Z1 f3 hG) (by decide) (by decide) (g := (mkF m 10 #[rv a1, iv 0, iv 1, iv p4, iv p5, iv p6, iv p7, rv za1, u_, u_, u_] [(.int 0), (.int p5)])) rfl (by rw [hml]; rfl) (argsL := [(.int p5), (.int 0)]) (rest := []) rfl (lenOf own_pd6 rfl) rfl (by show 2 * 0 + _ ≤ _; exact Nat.le_of_eq rfl) (hb hby od_m_4_10) rfl (by decide) (by decide)
  obtain ⟨za4, zb4, zk4, rfl, Nq4, Kq4, g_za4, sq_za4, g_zb4, sq_zb4, q4_0, q4_1, q4_2, q4_3⟩ := hQ4
  have N4 := Fr.app N1 Nq4
  have sz_za4 : h0.size ≤ za4 := Nat.le_trans K1.1 sq_za4
  have sz_zb4 : h0.size ≤ zb4 := Nat.le_trans K1.1 sq_zb4
  have f5 := f2.keep Kq4 nin0
  have f6 := own_staKeep f3 Kq4
  have f7 := q1_0.keep Kq4
  have f8 := q1_1.keep Kq4 nin0
  have f9 := q1_2.keep Kq4 nin0
  have f10 := q1_3.keep Kq4 nin0
  have K4 : Keep h0 T4.heap [a1] := K1.trans Kq4 all0
  have Z4 := Nat.le_trans Z1 Kq4.1
  refine own_s T4 (mkF m 13 #[rv a1, iv 0, iv 1, iv p4, iv p5, iv p6, iv p7, rv za1, u_, u_, u_] [(.ref za4)]) st4 ?_
  refine own_s T4 (mkF m 22 #[rv a1, iv 0, iv 1, iv p4, iv p5, iv p6, iv p7, rv za1, rv za4, u_, u_] [(.int 0), (.int p7)]) (fun _ k => XS.astore X4.here hx rfl (hb hby od_m_4_13) rfl rfl (l' := #[rv a1, iv 0, iv 1, iv p4, iv p5, iv p6, iv p7, rv za1, rv za4, u_, u_]) rfl (XS.iloadN X4.here hx rfl (hb hby od_m_4_15) rfl  (XS.ifNo X4.here hx rfl (hb hby od_m_4_16) rfl ((if0 _ _).trans (feq (by decide : ¬ ((1 : Int32) = (0 : Int32)))).1) (XS.iload X4.here hx rfl (hb hby od_m_4_19) rfl  (XS.iloadN X4.here hx rfl (hb hby od_m_4_21) rfl  k))))) ?_
  obtain ⟨v11, T11, L11, X11, hQ11, st11⟩ := own_callS X4 hx hZ (y := own_y4) (W := 0) hown (own_h hw 82 rfl) (own_h hw 83 rfl) (own_h hw 80 rfl) (own_h hw 84 rfl) (by decide) (own_rmstr l Z a0 hw [] p7 (0 : Int32) gC T4.heap n0 Z4 f6 hG) (by decide) (by decide) (g := (mkF m 22 #[rv a1, iv 0, iv 1, iv p4, iv p5, iv p6, iv p7, rv za1, rv za4, u_, u_] [(.int 0), (.int p7)])) rfl (by rw [hml]; rfl) (argsL := [(.int p7), (.int 0)]) (rest := []) rfl (lenOf own_pd6 rfl) rfl (by show 2 * 0 + _ ≤ _; exact Nat.le_of_eq rfl) (hb hby od_m_4_22) rfl (by decide) (by decide)
  obtain ⟨za11, zb11, zk11, rfl, Nq11, Kq11, g_za11, sq_za11, g_zb11, sq_zb11, q11_0, q11_1, q11_2, q11_3⟩ := hQ11
  have N11 := Fr.app N4 Nq11
  have sz_za11 : h0.size ≤ za11 := Nat.le_trans K4.1 sq_za11
  have sz_zb11 : h0.size ≤ zb11 := Nat.le_trans K4.1 sq_zb11
  have f12 := f5.keep Kq11 nin0
  have f13 := own_staKeep f6 Kq11
  have f14 := f7.keep Kq11
  have f15 := f8.keep Kq11 nin0
  have f16 := f9.keep Kq11 nin0
  have f17 := f10.keep Kq11 nin0
  have f18 := q4_0.keep Kq11
  have f19 := q4_1.keep Kq11 nin0
  have f20 := q4_2.keep Kq11 nin0
  have f21 := q4_3.keep Kq11 nin0
  have K11 : Keep h0 T11.heap [a1] := K4.trans Kq11 all0
  have Z11 := Nat.le_trans Z4 Kq11.1
  refine own_s T11 (mkF m 25 #[rv a1, iv 0, iv 1, iv p4, iv p5, iv p6, iv p7, rv za1, rv za4, u_, u_] [(.ref za11)]) st11 ?_
  refine own_s T11 (mkF m 38 #[rv a1, iv 0, iv 1, iv p4, iv p5, iv p6, iv p7, rv za1, rv za4, rv za11, u_] [(.int 0), (.int p6)]) (fun _ k => XS.goto X11.here hx rfl (pc0 := 25) (pc' := 29) rfl (hb hby od_m_4_25) (by decide) (by decide) (XS.astore X11.here hx rfl (hb hby od_m_4_29) rfl rfl (l' := #[rv a1, iv 0, iv 1, iv p4, iv p5, iv p6, iv p7, rv za1, rv za4, rv za11, u_]) rfl (XS.iloadN X11.here hx rfl (hb hby od_m_4_31) rfl  (XS.ifNo X11.here hx rfl (hb hby od_m_4_32) rfl ((if0 _ _).trans (feq (by decide : ¬ ((1 : Int32) = (0 : Int32)))).1) (XS.iload X11.here hx rfl (hb hby od_m_4_35) rfl  (XS.iloadN X11.here hx rfl (hb hby od_m_4_37) rfl  k)))))) ?_
  obtain ⟨v22, T22, L22, X22, hQ22, st22⟩ := own_callS X11 hx hZ (y := own_y4) (W := 0) hown (own_h hw 82 rfl) (own_h hw 83 rfl) (own_h hw 80 rfl) (own_h hw 84 rfl) (by decide) (own_rmstr l Z a0 hw [] p6 (0 : Int32) gC T11.heap n0 Z11 f13 hG) (by decide) (by decide) (g := (mkF m 38 #[rv a1, iv 0, iv 1, iv p4, iv p5, iv p6, iv p7, rv za1, rv za4, rv za11, u_] [(.int 0), (.int p6)])) rfl (by rw [hml]; rfl) (argsL := [(.int p6), (.int 0)]) (rest := []) rfl (lenOf own_pd6 rfl) rfl (by show 2 * 0 + _ ≤ _; exact Nat.le_of_eq rfl) (hb hby od_m_4_38) rfl (by decide) (by decide)
  obtain ⟨za22, zb22, zk22, rfl, Nq22, Kq22, g_za22, sq_za22, g_zb22, sq_zb22, q22_0, q22_1, q22_2, q22_3⟩ := hQ22
  have N22 := Fr.app N11 Nq22
  have sz_za22 : h0.size ≤ za22 := Nat.le_trans K11.1 sq_za22
  have sz_zb22 : h0.size ≤ zb22 := Nat.le_trans K11.1 sq_zb22
  have f23 := f12.keep Kq22 nin0
  have f24 := own_staKeep f13 Kq22
  have f25 := f14.keep Kq22
  have f26 := f15.keep Kq22 nin0
  have f27 := f16.keep Kq22 nin0
  have f28 := f17.keep Kq22 nin0
  have f29 := f18.keep Kq22
  have f30 := f19.keep Kq22 nin0
  have f31 := f20.keep Kq22 nin0
  have f32 := f21.keep Kq22 nin0
  have f33 := q11_0.keep Kq22
  have f34 := q11_1.keep Kq22 nin0
  have f35 := q11_2.keep Kq22 nin0
  have f36 := q11_3.keep Kq22 nin0
  have K22 : Keep h0 T22.heap [a1] := K11.trans Kq22 all0
  have Z22 := Nat.le_trans Z11 Kq22.1
  refine own_s T22 (mkF m 41 #[rv a1, iv 0, iv 1, iv p4, iv p5, iv p6, iv p7, rv za1, rv za4, rv za11, u_] [(.ref za22)]) st22 ?_
  refine own_s T22 (mkF m 58 #[rv a1, iv 0, iv 1, iv p4, iv p5, iv p6, iv p7, rv za1, rv za4, rv za11, rv za22] [(.ref za4), (.ref za1), (.ref za22), (.ref za11), (.int 0), (.ref a1)]) (fun _ k => XS.goto X22.here hx rfl (pc0 := 41) (pc' := 46) rfl (hb hby od_m_4_41) (by decide) (by decide) (XS.astore X22.here hx rfl (hb hby od_m_4_46) rfl rfl (l' := #[rv a1, iv 0, iv 1, iv p4, iv p5, iv p6, iv p7, rv za1, rv za4, rv za11, rv za22]) rfl (XS.aloadN X22.here hx rfl (hb hby od_m_4_48) rfl rfl (XS.iloadN X22.here hx rfl (hb hby od_m_4_49) rfl  (XS.aload X22.here hx rfl (hb hby od_m_4_50) rfl rfl (XS.aload X22.here hx rfl (hb hby od_m_4_52) rfl rfl (XS.aload X22.here hx rfl (hb hby od_m_4_54) rfl rfl (XS.aload X22.here hx rfl (hb hby od_m_4_56) rfl rfl k)))))))) ?_
  obtain ⟨v37, T37, L37, X37, hQ37, st37⟩ := own_callS X22 hx hZ (y := own_y9) (W := 0) hown (own_h hw 104 rfl) (own_h hw 105 rfl) (own_h hw 2 rfl) (own_h hw 106 rfl) (by decide) (own_rmpa0_1 l Z a0 hw [] a1 za11 za22 za1 za4 kd z v0 v1 v2 v3 v4 v5 v6 v7 v8 v9 v10 v11 v12 T22.heap n0 Z22 g_a1 f23 pr2 f33 q22_0 f25 f29 hm hz0 hz1 hz2 hz3) (by decide) (by decide) (g := (mkF m 58 #[rv a1, iv 0, iv 1, iv p4, iv p5, iv p6, iv p7, rv za1, rv za4, rv za11, rv za22] [(.ref za4), (.ref za1), (.ref za22), (.ref za11), (.int 0), (.ref a1)])) rfl (by rw [hml]; rfl) (argsL := [(.ref a1), (.int 0), (.ref za11), (.ref za22), (.ref za1), (.ref za4)]) (rest := []) rfl (lenOf own_pd7 rfl) rfl (by show 2 * 0 + _ ≤ _; exact Nat.le_of_eq rfl) (hb hby od_m_4_58) rfl (by decide) (by decide)
  obtain ⟨rfl, Nq37, Kq37, q37_0⟩ := hQ37
  have N37 := Fr.app N22 Nq37
  have f38 := own_staKeepW f24 Kq37 (allS f23.nostat all0)
  have f39 := f25.keep Kq37
  have f40 := f26.keep Kq37 (ninS (Ne.symm (own_nl pr1.lt sq_za1)) nin0)
  have f41 := f27.keep Kq37 (ninS (Ne.symm (own_nl pr1.lt sq_za1)) nin0)
  have f42 := f28.keep Kq37 (ninS (Ne.symm (own_nl pr1.lt sq_zb1)) nin0)
  have f43 := f29.keep Kq37
  have f44 := f30.keep Kq37 (ninS (Ne.symm (own_nl f2.lt sq_za4)) nin0)
  have f45 := f31.keep Kq37 (ninS (Ne.symm (own_nl f2.lt sq_za4)) nin0)
  have f46 := f32.keep Kq37 (ninS (Ne.symm (own_nl f2.lt sq_zb4)) nin0)
  have f47 := f33.keep Kq37
  have f48 := f34.keep Kq37 (ninS (Ne.symm (own_nl f5.lt sq_za11)) nin0)
  have f49 := f35.keep Kq37 (ninS (Ne.symm (own_nl f5.lt sq_za11)) nin0)
  have f50 := f36.keep Kq37 (ninS (Ne.symm (own_nl f5.lt sq_zb11)) nin0)
  have f51 := q22_0.keep Kq37
  have f52 := q22_1.keep Kq37 (ninS (Ne.symm (own_nl f12.lt sq_za22)) nin0)
  have f53 := q22_2.keep Kq37 (ninS (Ne.symm (own_nl f12.lt sq_za22)) nin0)
  have f54 := q22_3.keep Kq37 (ninS (Ne.symm (own_nl f12.lt sq_zb22)) nin0)
  have K37 : Keep h0 T37.heap [a1] := K22.trans Kq37 (allS (Or.inl (List.mem_of_getElem? (i := 0) rfl)) all0)
  have Z37 := Nat.le_trans Z22 Kq37.1
  refine own_s T37 (mkF m 61 #[rv a1, iv 0, iv 1, iv p4, iv p5, iv p6, iv p7, rv za1, rv za4, rv za11, rv za22] []) st37 ?_
  exact own_finV X37 hx hret (hb hby od_m_4_61) (own_end (Qv := (own_Qput0_1 Z a1 p4 p5 p6 p7 kd z v0 v1 v2 v3 v4 v5 v6 v7 v8 v9 v10 v11 v12 gC h0 n0)) X37 (fun _ => rfl) hlk (by decide) (by decide) rfl ⟨za1, zb1, zk1, za4, zb4, zk4, za11, zb11, zk11, za22, zb22, zk22, rfl, N37, K37, g_za1, sz_za1, g_zb1, sz_zb1, g_za4, sz_za4, g_zb4, sz_zb4, g_za11, sz_za11, g_zb11, sz_zb11, g_za22, sz_za22, g_zb22, sz_zb22, q37_0, f39, f40, f41, f42, f43, f44, f45, f46, f47, f48, f49, f50, f51, f52, f53, f54⟩)
theorem own_efpa1_1 (m : MethodId) (x0 : Addr) (x1 : Int32) (x2 : Addr) (x3 : Addr) (x4 : Addr) (x5 : Addr) : entryFrame m #[(.ref x0), (.int x1), (.ref x2), (.ref x3), (.ref x4), (.ref x5)] 7 = mkF m 0 #[rv x0, iv x1, rv x2, rv x3, rv x4, rv x5, u_] [] := by first | (simp [entryFrame, mkF, argsToLocals, Value.category]; done) | rfl
def own_Qpa1_1 (Z : State) (a1 : Addr) (a3 : Addr) (a4 : Addr) (a5 : Addr) (a6 : Addr) (kd : ClassId) (z : Int32) (v0 : Value) (v1 : Value) (v2 : Value) (v3 : Value) (v4 : Value) (v5 : Value) (v6 : Value) (v7 : Value) (v8 : Value) (v9 : Value) (v10 : Value) (v11 : Value) (v12 : Value) (h0 : Heap) (n0 : Nat) : Option Value → Heap → List Loc → Prop := fun v h L => v = none ∧ Fr n0 L ∧ Keep h0 h [a1] ∧ Arv Z h a1 kd (.object "java/lang/String") z [v0, v1, v2, v3, (.ref a5), (.ref a6), (.ref a3), (.ref a4), v8, v9, v10, v11, v12] .null
def own_Rpa1_1 : Room := { frames := 1, cells := 0, slots := 0, locals := 12 }
set_option maxRecDepth 65536 in
set_option maxHeartbeats 40000000 in
theorem own_rmpa1_1 (l : Launch) (Z : State) (a0 : Array Value) (hw : ∀ d ∈ tables_1, d.before a0 Z = true) (ws : List Jvm.Cond) (a1 : Addr) (a3 : Addr) (a4 : Addr) (a5 : Addr) (a6 : Addr) (kd : ClassId) (z : Int32) (v0 : Value) (v1 : Value) (v2 : Value) (v3 : Value) (v4 : Value) (v5 : Value) (v6 : Value) (v7 : Value) (v8 : Value) (v9 : Value) (v10 : Value) (v11 : Value) (v12 : Value) (h0 : Heap) (n0 : Nat) (Z0 : n0 ≤ h0.size) (g_a1 : n0 ≤ a1) (pr1 : Arv Z h0 a1 kd (.object "java/lang/String") z [v0, v1, v2, v3, v4, v5, v6, v7, v8, v9, v10, v11, v12] .null) (pr2 : Ovr Z kd "java/lang/String") (pr3 : Exa Z h0 a3 "java/lang/String") (pr4 : Exa Z h0 a4 "java/lang/String") (pr5 : Exa Z h0 a5 "java/lang/String") (pr6 : Exa Z h0 a6 "java/lang/String") (hm : z % (2 : Int32) = (1 : Int32)) (hz4 : (4 : Int32) < z) (hz5 : (5 : Int32) < z) (hz6 : (6 : Int32) < z) (hz7 : (7 : Int32) < z) :
    own_Met l Z own_y9 prog_100_method_4_code 7 none ws own_Rpa1_1 h0 #[(.ref a1), (.int 1), (.ref a3), (.ref a4), (.ref a5), (.ref a6)] (own_Qpa1_1 Z a1 a3 a4 a5 a6 kd z v0 v1 v2 v3 v4 v5 v6 v7 v8 v9 v10 v11 v12 h0 n0) own_Rpa1_1.cells own_Rpa1_1.slots := by
  refine own_start (plainFor_of_name own_pn3) ?_
  intro p e s m below meth c s₁ X0 hx hZ hby hml hret hlk hown hnm e0
  have hown : s.vm.findClass "com/example/tagwright/tagwright/XmlElement" = some m.cls := hown
  have hml : c.maxLocals = 7 := hml
  have N0 := Fr.nil n0
  refine own_cast (own_efpa1_1 m a1 (1 : Int32) a3 a4 a5 a6) ?_
  refine own_s s₁ (mkF m 1 #[rv a1, iv 1, rv a3, rv a4, rv a5, rv a6, u_] [(.ref a1)]) (fun _ k => XS.aloadN X0.here hx rfl (hb hby od_prog_100_m_4_0) rfl rfl k) ?_
  obtain ⟨v1, T1, L1, X1, hQ1, st1⟩ := own_callS X0 hx hZ (y := own_y7) (W := 0) hown (own_h hw 62 rfl) (own_h hw 63 rfl) (own_h hw 2 rfl) (own_h hw 64 rfl) (by decide) (own_rmisnO l Z a0 hw [] a1 kd [v0, v1, v2, v3, v4, v5, v6, v7, v8, v9, v10, v11, v12] z h0 n0 Z0 pr1 hm) (by decide) (by decide) (g := (mkF m 1 #[rv a1, iv 1, rv a3, rv a4, rv a5, rv a6, u_] [(.ref a1)])) rfl (by rw [hml]; rfl) (argsL := [(.ref a1)]) (rest := []) rfl (lenOf own_pd5 rfl) rfl (by show 2 * 0 + _ ≤ _; exact Nat.le_of_eq rfl) (hb hby od_prog_100_m_4_1) e0 (by decide) (by decide)
  obtain ⟨rfl, Nq1, e1⟩ := hQ1
  have N1 := Fr.app N0 Nq1
  refine own_s T1 (mkF m 4 #[rv a1, iv 1, rv a3, rv a4, rv a5, rv a6, u_] [(.int 1)]) st1 ?_
  refine own_s T1 (mkF m 21 #[rv a1, iv 1, rv a3, rv a4, rv a5, rv a6, iv 4] [(.ref a1)]) (fun _ k => XS.ifNo X1.here hx rfl (hb hby od_prog_100_m_4_4) rfl ((if0 _ _).trans (feq (by decide : ¬ ((1 : Int32) = (0 : Int32)))).1) (XS.iconst X1.here hx rfl (hb hby od_prog_100_m_4_7) (XS.goto X1.here hx rfl (pc0 := 8) (pc' := 12) rfl (hb hby od_prog_100_m_4_8) (by decide) (by decide) (XS.istore X1.here hx rfl (hb hby od_prog_100_m_4_12) rfl (l' := #[rv a1, iv 1, rv a3, rv a4, rv a5, rv a6, iv 4]) rfl (XS.iload X1.here hx rfl (hb hby od_prog_100_m_4_14) rfl  (XS.iconst X1.here hx rfl (hb hby od_prog_100_m_4_16) (XS.icmpNo X1.here hx rfl (hb hby od_prog_100_m_4_17) rfl (teq (by decide : ((4 : Int32) = (4 : Int32)))).2 (XS.aloadN X1.here hx rfl (hb hby od_prog_100_m_4_20) rfl rfl k)))))))) ?_
  refine own_s T1 (mkF m 28 #[rv a1, iv 1, rv a3, rv a4, rv a5, rv a6, iv 4] [(.ref a3), (.int 6), (.ref a1)]) (fun _ k => XS.iloadN X1.here hx rfl (hb hby od_prog_100_m_4_21) rfl  (XS.iload X1.here hx rfl (hb hby od_prog_100_m_4_22) rfl  (XS.imul X1.here hx rfl (hb hby od_prog_100_m_4_24) rfl (XS.iconst X1.here hx rfl (hb hby od_prog_100_m_4_25) (XS.iadd X1.here hx rfl (hb hby od_prog_100_m_4_26) rfl (XS.aloadN X1.here hx rfl (hb hby od_prog_100_m_4_27) rfl rfl k)))))) ?_
  obtain ⟨cl2, Ar2, q2, S2, Nn2, H2, G2⟩ := id pr1
  have hin2 : ¬ ((6 : Int32) < 0 ∨ cl2.slots.size ≤ ((6 : Int32)).toNatClampNeg) := (inb_of S2 ⟨by decide, hz6⟩)
  obtain ⟨T2, h2, X2, e2, W2, st2⟩ := stR X1 hx hZ e1 Ar2 (j := (6 : Int32)) hin2 rfl (Sto.ofV Ar2 q2 pr2 (Ins.self pr3)) (g := (mkF m 28 #[rv a1, iv 1, rv a3, rv a4, rv a5, rv a6, iv 4] [(.ref a3), (.int 6), (.ref a1)])) rfl rfl (hb hby od_prog_100_m_4_28)
  have f2 : Arv Z h2 a1 kd (.object "java/lang/String") z [v0, v1, v2, v3, v4, v5, (.ref a3), v7, v8, v9, v10, v11, v12] .null := Arv.set Ar2 q2 S2 Nn2 H2 G2 rfl W2 6 rfl (Nat.le_of_ble_eq_true rfl)
  have f3 := Exa.wr W2 pr3
  have f4 := Exa.wr W2 pr4
  have f5 := Exa.wr W2 pr5
  have f6 := Exa.wr W2 pr6
  have K2 : Keep h0 h2 [a1] := (Keep.refl h0 [a1]).wr W2 (Or.inl (List.mem_of_getElem? (i := 0) rfl))
  have Z2 := Nat.le_trans Z0 (Nat.le_of_eq W2.size.symm)
  have N2 := Fr.snoc X2 N1 g_a1
  refine own_s T2 (mkF m 29 #[rv a1, iv 1, rv a3, rv a4, rv a5, rv a6, iv 4] []) st2 ?_
  refine own_s T2 (mkF m 37 #[rv a1, iv 1, rv a3, rv a4, rv a5, rv a6, iv 4] [(.ref a4), (.int 7), (.ref a1)]) (fun _ k => XS.aloadN X2.here hx rfl (hb hby od_prog_100_m_4_29) rfl rfl (XS.iloadN X2.here hx rfl (hb hby od_prog_100_m_4_30) rfl  (XS.iload X2.here hx rfl (hb hby od_prog_100_m_4_31) rfl  (XS.imul X2.here hx rfl (hb hby od_prog_100_m_4_33) rfl (XS.iconst X2.here hx rfl (hb hby od_prog_100_m_4_34) (XS.iadd X2.here hx rfl (hb hby od_prog_100_m_4_35) rfl (XS.aloadN X2.here hx rfl (hb hby od_prog_100_m_4_36) rfl rfl k))))))) ?_
  obtain ⟨cl7, Ar7, q7, S7, Nn7, H7, G7⟩ := id f2
  have hin7 : ¬ ((7 : Int32) < 0 ∨ cl7.slots.size ≤ ((7 : Int32)).toNatClampNeg) := (inb_of S7 ⟨by decide, hz7⟩)
  obtain ⟨T7, h7, X7, e7, W7, st7⟩ := stR X2 hx hZ e2 Ar7 (j := (7 : Int32)) hin7 rfl (Sto.ofV Ar7 q7 pr2 (Ins.self f4)) (g := (mkF m 37 #[rv a1, iv 1, rv a3, rv a4, rv a5, rv a6, iv 4] [(.ref a4), (.int 7), (.ref a1)])) rfl rfl (hb hby od_prog_100_m_4_37)
  have f7 : Arv Z h7 a1 kd (.object "java/lang/String") z [v0, v1, v2, v3, v4, v5, (.ref a3), (.ref a4), v8, v9, v10, v11, v12] .null := Arv.set Ar7 q7 S7 Nn7 H7 G7 rfl W7 7 rfl (Nat.le_of_ble_eq_true rfl)
  have f8 := Exa.wr W7 f3
  have f9 := Exa.wr W7 f4
  have f10 := Exa.wr W7 f5
  have f11 := Exa.wr W7 f6
  have K7 : Keep h0 h7 [a1] := K2.wr W7 (Or.inl (List.mem_of_getElem? (i := 0) rfl))
  have Z7 := Nat.le_trans Z2 (Nat.le_of_eq W7.size.symm)
  have N7 := Fr.snoc X7 N2 g_a1
  refine own_s T7 (mkF m 38 #[rv a1, iv 1, rv a3, rv a4, rv a5, rv a6, iv 4] []) st7 ?_
  refine own_s T7 (mkF m 63 #[rv a1, iv 1, rv a3, rv a4, rv a5, rv a6, iv 4] [(.int 0), (.int 4), (.ref a1)]) (fun _ k => XS.iload X7.here hx rfl (hb hby od_prog_100_m_4_38) rfl  (XS.iconst X7.here hx rfl (hb hby od_prog_100_m_4_40) (XS.icmpYes X7.here hx rfl (pc0 := 41) (pc' := 57) rfl (hb hby od_prog_100_m_4_41) rfl (teq (by decide : ((4 : Int32) = (4 : Int32)))).1 (by decide) (by decide) (XS.aloadN X7.here hx rfl (hb hby od_prog_100_m_4_57) rfl rfl (XS.iloadN X7.here hx rfl (hb hby od_prog_100_m_4_58) rfl  (XS.iload X7.here hx rfl (hb hby od_prog_100_m_4_59) rfl  (XS.imul X7.here hx rfl (hb hby od_prog_100_m_4_61) rfl (XS.iconst X7.here hx rfl (hb hby od_prog_100_m_4_62) k)))))))) ?_
  refine own_s T7 (mkF m 66 #[rv a1, iv 1, rv a3, rv a4, rv a5, rv a6, iv 4] [(.ref a5), (.int 4), (.ref a1)]) (fun _ k => XS.iadd X7.here hx rfl (hb hby od_prog_100_m_4_63) rfl (XS.aload X7.here hx rfl (hb hby od_prog_100_m_4_64) rfl rfl k)) ?_
  obtain ⟨cl12, Ar12, q12, S12, Nn12, H12, G12⟩ := id f7
  have hin12 : ¬ ((4 : Int32) < 0 ∨ cl12.slots.size ≤ ((4 : Int32)).toNatClampNeg) := (inb_of S12 ⟨by decide, hz4⟩)
  obtain ⟨T12, h12, X12, e12, W12, st12⟩ := stR X7 hx hZ e7 Ar12 (j := (4 : Int32)) hin12 rfl (Sto.ofV Ar12 q12 pr2 (Ins.self f10)) (g := (mkF m 66 #[rv a1, iv 1, rv a3, rv a4, rv a5, rv a6, iv 4] [(.ref a5), (.int 4), (.ref a1)])) rfl rfl (hb hby od_prog_100_m_4_66)
  have f12 : Arv Z h12 a1 kd (.object "java/lang/String") z [v0, v1, v2, v3, (.ref a5), v5, (.ref a3), (.ref a4), v8, v9, v10, v11, v12] .null := Arv.set Ar12 q12 S12 Nn12 H12 G12 rfl W12 4 rfl (Nat.le_of_ble_eq_true rfl)
  have f13 := Exa.wr W12 f8
  have f14 := Exa.wr W12 f9
  have f15 := Exa.wr W12 f10
  have f16 := Exa.wr W12 f11
  have K12 : Keep h0 h12 [a1] := K7.wr W12 (Or.inl (List.mem_of_getElem? (i := 0) rfl))
  have Z12 := Nat.le_trans Z7 (Nat.le_of_eq W12.size.symm)
  have N12 := Fr.snoc X12 N7 g_a1
  refine own_s T12 (mkF m 67 #[rv a1, iv 1, rv a3, rv a4, rv a5, rv a6, iv 4] []) st12 ?_
  refine own_s T12 (mkF m 76 #[rv a1, iv 1, rv a3, rv a4, rv a5, rv a6, iv 4] [(.ref a6), (.int 5), (.ref a1)]) (fun _ k => XS.aloadN X12.here hx rfl (hb hby od_prog_100_m_4_67) rfl rfl (XS.iloadN X12.here hx rfl (hb hby od_prog_100_m_4_68) rfl  (XS.iload X12.here hx rfl (hb hby od_prog_100_m_4_69) rfl  (XS.imul X12.here hx rfl (hb hby od_prog_100_m_4_71) rfl (XS.iconst X12.here hx rfl (hb hby od_prog_100_m_4_72) (XS.iadd X12.here hx rfl (hb hby od_prog_100_m_4_73) rfl (XS.aload X12.here hx rfl (hb hby od_prog_100_m_4_74) rfl rfl k))))))) ?_
  obtain ⟨cl17, Ar17, q17, S17, Nn17, H17, G17⟩ := id f12
  have hin17 : ¬ ((5 : Int32) < 0 ∨ cl17.slots.size ≤ ((5 : Int32)).toNatClampNeg) := (inb_of S17 ⟨by decide, hz5⟩)
  obtain ⟨T17, h17, X17, e17, W17, st17⟩ := stR X12 hx hZ e12 Ar17 (j := (5 : Int32)) hin17 rfl (Sto.ofV Ar17 q17 pr2 (Ins.self f16)) (g := (mkF m 76 #[rv a1, iv 1, rv a3, rv a4, rv a5, rv a6, iv 4] [(.ref a6), (.int 5), (.ref a1)])) rfl rfl (hb hby od_prog_100_m_4_76)
  have f17 : Arv Z h17 a1 kd (.object "java/lang/String") z [v0, v1, v2, v3, (.ref a5), (.ref a6), (.ref a3), (.ref a4), v8, v9, v10, v11, v12] .null := Arv.set Ar17 q17 S17 Nn17 H17 G17 rfl W17 5 rfl (Nat.le_of_ble_eq_true rfl)
  have f18 := Exa.wr W17 f13
  have f19 := Exa.wr W17 f14
  have f20 := Exa.wr W17 f15
  have f21 := Exa.wr W17 f16
  have K17 : Keep h0 h17 [a1] := K12.wr W17 (Or.inl (List.mem_of_getElem? (i := 0) rfl))
  have Z17 := Nat.le_trans Z12 (Nat.le_of_eq W17.size.symm)
  have N17 := Fr.snoc X17 N12 g_a1
  refine own_s T17 (mkF m 77 #[rv a1, iv 1, rv a3, rv a4, rv a5, rv a6, iv 4] []) st17 ?_
  refine own_s T17 (mkF m 95 #[rv a1, iv 1, rv a3, rv a4, rv a5, rv a6, iv 4] []) (fun _ k => XS.goto X17.here hx rfl (pc0 := 77) (pc' := 95) rfl (hb hby od_prog_100_m_4_77) (by decide) (by decide) k) ?_
  exact own_finV X17 hx hret (hb hby od_prog_100_m_4_95) (own_end (Qv := (own_Qpa1_1 Z a1 a3 a4 a5 a6 kd z v0 v1 v2 v3 v4 v5 v6 v7 v8 v9 v10 v11 v12 h0 n0)) X17 (fun _ => rfl) hlk (by decide) (by decide) e17 ⟨rfl, N17, K17, f17⟩)
theorem own_efput1_1 (m : MethodId) (x0 : Addr) (x1 : Int32) (x2 : Int32) (x3 : Int32) (x4 : Int32) (x5 : Int32) (x6 : Int32) : entryFrame m #[(.ref x0), (.int x1), (.int x2), (.int x3), (.int x4), (.int x5), (.int x6)] 11 = mkF m 0 #[rv x0, iv x1, iv x2, iv x3, iv x4, iv x5, iv x6, u_, u_, u_, u_] [] := by first | (simp [entryFrame, mkF, argsToLocals, Value.category]; done) | rfl
def own_Qput1_1 (Z : State) (a1 : Addr) (p4 : Int32) (p5 : Int32) (p6 : Int32) (p7 : Int32) (kd : ClassId) (z : Int32) (v0 : Value) (v1 : Value) (v2 : Value) (v3 : Value) (v4 : Value) (v5 : Value) (v6 : Value) (v7 : Value) (v8 : Value) (v9 : Value) (v10 : Value) (v11 : Value) (v12 : Value) (gC : Int32) (h0 : Heap) (n0 : Nat) : Option Value → Heap → List Loc → Prop := fun v h L => ∃ (sn : Addr) (bn : Addr) (kn : ClassId) (sv : Addr) (bv : Addr) (kv : ClassId) (ss : Addr) (bs : Addr) (ks : ClassId) (sl : Addr) (bl : Addr) (kl : ClassId), v = none ∧ Fr n0 L ∧ Keep h0 h [a1] ∧ n0 ≤ sn ∧ h0.size ≤ sn ∧ n0 ≤ bn ∧ h0.size ≤ bn ∧ n0 ≤ sv ∧ h0.size ≤ sv ∧ n0 ≤ bv ∧ h0.size ≤ bv ∧ n0 ≤ ss ∧ h0.size ≤ ss ∧ n0 ≤ bs ∧ h0.size ≤ bs ∧ n0 ≤ sl ∧ h0.size ≤ sl ∧ n0 ≤ bl ∧ h0.size ≤ bl ∧ Arv Z h a1 kd (.object "java/lang/String") z [v0, v1, v2, v3, (.ref sn), (.ref sv), (.ref ss), (.ref sl), v8, v9, v10, v11, v12] .null ∧ Exa Z h sn "java/lang/String" ∧ Fld Z h sn "java/lang/String" "coder" "B" (.int 0) ∧ Fld Z h sn "java/lang/String" "value" "[B" (.ref bn) ∧ Arv Z h bn kn .byte (1 : Int32) [(.int (own_by (own_chr p4 (1 : Int32))))] (.int 0) ∧ Exa Z h sv "java/lang/String" ∧ Fld Z h sv "java/lang/String" "coder" "B" (.int 0) ∧ Fld Z h sv "java/lang/String" "value" "[B" (.ref bv) ∧ Arv Z h bv kv .byte (1 : Int32) [(.int (own_by (own_chr p5 (1 : Int32))))] (.int 0) ∧ Exa Z h ss "java/lang/String" ∧ Fld Z h ss "java/lang/String" "coder" "B" (.int 0) ∧ Fld Z h ss "java/lang/String" "value" "[B" (.ref bs) ∧ Arv Z h bs ks .byte (1 : Int32) [(.int (own_by (own_chr p7 (1 : Int32))))] (.int 0) ∧ Exa Z h sl "java/lang/String" ∧ Fld Z h sl "java/lang/String" "coder" "B" (.int 0) ∧ Fld Z h sl "java/lang/String" "value" "[B" (.ref bl) ∧ Arv Z h bl kl .byte (1 : Int32) [(.int (own_by (own_chr p6 (1 : Int32))))] (.int 0)
def own_Rput1_1 : Room := { frames := 4, cells := 8, slots := 20, locals := 52 }
set_option maxRecDepth 65536 in
set_option maxHeartbeats 40000000 in
theorem own_rmput1_1 (l : Launch) (Z : State) (a0 : Array Value) (hw : ∀ d ∈ tables_1, d.before a0 Z = true) (ws : List Jvm.Cond) (a1 : Addr) (p4 : Int32) (p5 : Int32) (p6 : Int32) (p7 : Int32) (kd : ClassId) (z : Int32) (v0 : Value) (v1 : Value) (v2 : Value) (v3 : Value) (v4 : Value) (v5 : Value) (v6 : Value) (v7 : Value) (v8 : Value) (v9 : Value) (v10 : Value) (v11 : Value) (v12 : Value) (gC : Int32) (h0 : Heap) (n0 : Nat) (Z0 : n0 ≤ h0.size) (g_a1 : n0 ≤ a1) (pr1 : Arv Z h0 a1 kd (.object "java/lang/String") z [v0, v1, v2, v3, v4, v5, v6, v7, v8, v9, v10, v11, v12] .null) (pr2 : Ovr Z kd "java/lang/String") (pr3 : Sta Z h0 "java/lang/String" "COMPACT_STRINGS" "Z" (.int gC)) (hG : ¬ gC = (0 : Int32)) (hm : z % (2 : Int32) = (1 : Int32)) (hz4 : (4 : Int32) < z) (hz5 : (5 : Int32) < z) (hz6 : (6 : Int32) < z) (hz7 : (7 : Int32) < z) :
    own_Met l Z own_y10 method_4_code 11 none ws own_Rput1_1 h0 #[(.ref a1), (.int 1), (.int 1), (.int p4), (.int p5), (.int p6), (.int p7)] (own_Qput1_1 Z a1 p4 p5 p6 p7 kd z v0 v1 v2 v3 v4 v5 v6 v7 v8 v9 v10 v11 v12 gC h0 n0) own_Rput1_1.cells own_Rput1_1.slots := by
  refine own_start (plainFor_of_name own_pn2) ?_
  intro p e s m below meth c s₁ X0 hx hZ hby hml hret hlk hown hnm e0
  have hown : s.vm.findClass "com/example/tagwright/tagwright/XmlElementNewAttributesPinLaw" = some m.cls := hown
  have hml : c.maxLocals = 11 := hml
  have N0 := Fr.nil n0
  refine own_cast (own_efput1_1 m a1 (1 : Int32) (1 : Int32) p4 p5 p6 p7) ?_
  refine own_s s₁ (mkF m 2 #[rv a1, iv 1, iv 1, iv p4, iv p5, iv p6, iv p7, u_, u_, u_, u_] [(.int 1), (.int p4)]) (fun _ k => XS.iloadN X0.here hx rfl (hb hby od_m_4_0) rfl  (XS.iloadN X0.here hx rfl (hb hby od_m_4_1) rfl  k)) ?_
  obtain ⟨v1, T1, L1, X1, hQ1, st1⟩ := own_callS X0 hx hZ (y := own_y4) (W := 0) hown (own_h hw 82 rfl) (own_h hw 83 rfl) (own_h hw 80 rfl) (own_h hw 84 rfl) (by decide) (own_rmstr l Z a0 hw [] p4 (1 : Int32) gC h0 n0 Z0 pr3 hG) (by decide) (by decide) (g := (mkF m 2 #[rv a1, iv 1, iv 1, iv p4, iv p5, iv p6, iv p7, u_, u_, u_, u_] [(.int 1), (.int p4)])) rfl (by rw [hml]; rfl) (argsL := [(.int p4), (.int 1)]) (rest := []) rfl (lenOf own_pd6 rfl) rfl (by show 2 * 0 + _ ≤ _; exact Nat.le_of_eq rfl) (hb hby od_m_4_2) e0 (by decide) (by decide)
  obtain ⟨za1, zb1, zk1, rfl, Nq1, Kq1, g_za1, sq_za1, g_zb1, sq_zb1, q1_0, q1_1, q1_2, q1_3⟩ := hQ1
  have N1 := Fr.app N0 Nq1
  have sz_za1 : h0.size ≤ za1 := Nat.le_trans (Keep.refl h0 [a1]).1 sq_za1
  have sz_zb1 : h0.size ≤ zb1 := Nat.le_trans (Keep.refl h0 [a1]).1 sq_zb1
  have f2 := pr1.keep Kq1 nin0
  have f3 := own_staKeep pr3 Kq1
  have K1 : Keep h0 T1.heap [a1] := (Keep.refl h0 [a1]).trans Kq1 all0
  have Z1 := Nat.le_trans Z0 Kq1.1
  refine own_s T1 (mkF m 5 #[rv a1, iv 1, iv 1, iv p4, iv p5, iv p6, iv p7, u_, u_, u_, u_] [(.ref za1)]) st1 ?_
  refine own_s T1 (mkF m 10 #[rv a1, iv 1, iv 1, iv p4, iv p5, iv p6, iv p7, rv za1, u_, u_, u_] [(.int 1), (.int p5)]) (fun _ k => XS.astore X1.here hx rfl (hb hby od_m_4_5) rfl rfl (l' := #[rv a1, iv 1, iv 1, iv p4, iv p5, iv p6, iv p7, rv za1, u_, u_, u_]) rfl (XS.iload X1.here hx rfl (hb hby od_m_4_7) rfl  (XS.iloadN X1.here hx rfl (hb hby od_m_4_9) rfl  k))) ?_
  obtain ⟨v4, T4, L4, X4, hQ4, st4⟩ := own_callS X1 hx hZ (y := own_y4) (W := 0) hown (own_h hw 82 rfl) (own_h hw 83 rfl) (own_h hw 80 rfl) (own_h hw 84 rfl) (by decide) (own_rmstr l Z a0 hw [] p5 (1 : Int32) gC T1.heap n0 Z1 f3 hG) (by decide) (by decide) (g := (mkF m 10 #[rv a1, iv 1, iv 1, iv p4, iv p5, iv p6, iv p7, rv za1, u_, u_, u_] [(.int 1), (.int p5)])) rfl (by rw [hml]; rfl) (argsL := [(.int p5), (.int 1)]) (rest := []) rfl (lenOf own_pd6 rfl) rfl (by show 2 * 0 + _ ≤ _; exact Nat.le_of_eq rfl) (hb hby od_m_4_10) rfl (by decide) (by decide)
  obtain ⟨za4, zb4, zk4, rfl, Nq4, Kq4, g_za4, sq_za4, g_zb4, sq_zb4, q4_0, q4_1, q4_2, q4_3⟩ := hQ4
  have N4 := Fr.app N1 Nq4
  have sz_za4 : h0.size ≤ za4 := Nat.le_trans K1.1 sq_za4
  have sz_zb4 : h0.size ≤ zb4 := Nat.le_trans K1.1 sq_zb4
  have f5 := f2.keep Kq4 nin0
  have f6 := own_staKeep f3 Kq4
  have f7 := q1_0.keep Kq4
  have f8 := q1_1.keep Kq4 nin0
  have f9 := q1_2.keep Kq4 nin0
  have f10 := q1_3.keep Kq4 nin0
  have K4 : Keep h0 T4.heap [a1] := K1.trans Kq4 all0
  have Z4 := Nat.le_trans Z1 Kq4.1
  refine own_s T4 (mkF m 13 #[rv a1, iv 1, iv 1, iv p4, iv p5, iv p6, iv p7, rv za1, u_, u_, u_] [(.ref za4)]) st4 ?_
  refine own_s T4 (mkF m 22 #[rv a1, iv 1, iv 1, iv p4, iv p5, iv p6, iv p7, rv za1, rv za4, u_, u_] [(.int 1), (.int p7)]) (fun _ k => XS.astore X4.here hx rfl (hb hby od_m_4_13) rfl rfl (l' := #[rv a1, iv 1, iv 1, iv p4, iv p5, iv p6, iv p7, rv za1, rv za4, u_, u_]) rfl (XS.iloadN X4.here hx rfl (hb hby od_m_4_15) rfl  (XS.ifNo X4.here hx rfl (hb hby od_m_4_16) rfl ((if0 _ _).trans (feq (by decide : ¬ ((1 : Int32) = (0 : Int32)))).1) (XS.iload X4.here hx rfl (hb hby od_m_4_19) rfl  (XS.iloadN X4.here hx rfl (hb hby od_m_4_21) rfl  k))))) ?_
  obtain ⟨v11, T11, L11, X11, hQ11, st11⟩ := own_callS X4 hx hZ (y := own_y4) (W := 0) hown (own_h hw 82 rfl) (own_h hw 83 rfl) (own_h hw 80 rfl) (own_h hw 84 rfl) (by decide) (own_rmstr l Z a0 hw [] p7 (1 : Int32) gC T4.heap n0 Z4 f6 hG) (by decide) (by decide) (g := (mkF m 22 #[rv a1, iv 1, iv 1, iv p4, iv p5, iv p6, iv p7, rv za1, rv za4, u_, u_] [(.int 1), (.int p7)])) rfl (by rw [hml]; rfl) (argsL := [(.int p7), (.int 1)]) (rest := []) rfl (lenOf own_pd6 rfl) rfl (by show 2 * 0 + _ ≤ _; exact Nat.le_of_eq rfl) (hb hby od_m_4_22) rfl (by decide) (by decide)
  obtain ⟨za11, zb11, zk11, rfl, Nq11, Kq11, g_za11, sq_za11, g_zb11, sq_zb11, q11_0, q11_1, q11_2, q11_3⟩ := hQ11
  have N11 := Fr.app N4 Nq11
  have sz_za11 : h0.size ≤ za11 := Nat.le_trans K4.1 sq_za11
  have sz_zb11 : h0.size ≤ zb11 := Nat.le_trans K4.1 sq_zb11
  have f12 := f5.keep Kq11 nin0
  have f13 := own_staKeep f6 Kq11
  have f14 := f7.keep Kq11
  have f15 := f8.keep Kq11 nin0
  have f16 := f9.keep Kq11 nin0
  have f17 := f10.keep Kq11 nin0
  have f18 := q4_0.keep Kq11
  have f19 := q4_1.keep Kq11 nin0
  have f20 := q4_2.keep Kq11 nin0
  have f21 := q4_3.keep Kq11 nin0
  have K11 : Keep h0 T11.heap [a1] := K4.trans Kq11 all0
  have Z11 := Nat.le_trans Z4 Kq11.1
  refine own_s T11 (mkF m 25 #[rv a1, iv 1, iv 1, iv p4, iv p5, iv p6, iv p7, rv za1, rv za4, u_, u_] [(.ref za11)]) st11 ?_
  refine own_s T11 (mkF m 38 #[rv a1, iv 1, iv 1, iv p4, iv p5, iv p6, iv p7, rv za1, rv za4, rv za11, u_] [(.int 1), (.int p6)]) (fun _ k => XS.goto X11.here hx rfl (pc0 := 25) (pc' := 29) rfl (hb hby od_m_4_25) (by decide) (by decide) (XS.astore X11.here hx rfl (hb hby od_m_4_29) rfl rfl (l' := #[rv a1, iv 1, iv 1, iv p4, iv p5, iv p6, iv p7, rv za1, rv za4, rv za11, u_]) rfl (XS.iloadN X11.here hx rfl (hb hby od_m_4_31) rfl  (XS.ifNo X11.here hx rfl (hb hby od_m_4_32) rfl ((if0 _ _).trans (feq (by decide : ¬ ((1 : Int32) = (0 : Int32)))).1) (XS.iload X11.here hx rfl (hb hby od_m_4_35) rfl  (XS.iloadN X11.here hx rfl (hb hby od_m_4_37) rfl  k)))))) ?_
  obtain ⟨v22, T22, L22, X22, hQ22, st22⟩ := own_callS X11 hx hZ (y := own_y4) (W := 0) hown (own_h hw 82 rfl) (own_h hw 83 rfl) (own_h hw 80 rfl) (own_h hw 84 rfl) (by decide) (own_rmstr l Z a0 hw [] p6 (1 : Int32) gC T11.heap n0 Z11 f13 hG) (by decide) (by decide) (g := (mkF m 38 #[rv a1, iv 1, iv 1, iv p4, iv p5, iv p6, iv p7, rv za1, rv za4, rv za11, u_] [(.int 1), (.int p6)])) rfl (by rw [hml]; rfl) (argsL := [(.int p6), (.int 1)]) (rest := []) rfl (lenOf own_pd6 rfl) rfl (by show 2 * 0 + _ ≤ _; exact Nat.le_of_eq rfl) (hb hby od_m_4_38) rfl (by decide) (by decide)
  obtain ⟨za22, zb22, zk22, rfl, Nq22, Kq22, g_za22, sq_za22, g_zb22, sq_zb22, q22_0, q22_1, q22_2, q22_3⟩ := hQ22
  have N22 := Fr.app N11 Nq22
  have sz_za22 : h0.size ≤ za22 := Nat.le_trans K11.1 sq_za22
  have sz_zb22 : h0.size ≤ zb22 := Nat.le_trans K11.1 sq_zb22
  have f23 := f12.keep Kq22 nin0
  have f24 := own_staKeep f13 Kq22
  have f25 := f14.keep Kq22
  have f26 := f15.keep Kq22 nin0
  have f27 := f16.keep Kq22 nin0
  have f28 := f17.keep Kq22 nin0
  have f29 := f18.keep Kq22
  have f30 := f19.keep Kq22 nin0
  have f31 := f20.keep Kq22 nin0
  have f32 := f21.keep Kq22 nin0
  have f33 := q11_0.keep Kq22
  have f34 := q11_1.keep Kq22 nin0
  have f35 := q11_2.keep Kq22 nin0
  have f36 := q11_3.keep Kq22 nin0
  have K22 : Keep h0 T22.heap [a1] := K11.trans Kq22 all0
  have Z22 := Nat.le_trans Z11 Kq22.1
  refine own_s T22 (mkF m 41 #[rv a1, iv 1, iv 1, iv p4, iv p5, iv p6, iv p7, rv za1, rv za4, rv za11, u_] [(.ref za22)]) st22 ?_
  refine own_s T22 (mkF m 58 #[rv a1, iv 1, iv 1, iv p4, iv p5, iv p6, iv p7, rv za1, rv za4, rv za11, rv za22] [(.ref za4), (.ref za1), (.ref za22), (.ref za11), (.int 1), (.ref a1)]) (fun _ k => XS.goto X22.here hx rfl (pc0 := 41) (pc' := 46) rfl (hb hby od_m_4_41) (by decide) (by decide) (XS.astore X22.here hx rfl (hb hby od_m_4_46) rfl rfl (l' := #[rv a1, iv 1, iv 1, iv p4, iv p5, iv p6, iv p7, rv za1, rv za4, rv za11, rv za22]) rfl (XS.aloadN X22.here hx rfl (hb hby od_m_4_48) rfl rfl (XS.iloadN X22.here hx rfl (hb hby od_m_4_49) rfl  (XS.aload X22.here hx rfl (hb hby od_m_4_50) rfl rfl (XS.aload X22.here hx rfl (hb hby od_m_4_52) rfl rfl (XS.aload X22.here hx rfl (hb hby od_m_4_54) rfl rfl (XS.aload X22.here hx rfl (hb hby od_m_4_56) rfl rfl k)))))))) ?_
  obtain ⟨v37, T37, L37, X37, hQ37, st37⟩ := own_callS X22 hx hZ (y := own_y9) (W := 0) hown (own_h hw 104 rfl) (own_h hw 105 rfl) (own_h hw 2 rfl) (own_h hw 106 rfl) (by decide) (own_rmpa1_1 l Z a0 hw [] a1 za11 za22 za1 za4 kd z v0 v1 v2 v3 v4 v5 v6 v7 v8 v9 v10 v11 v12 T22.heap n0 Z22 g_a1 f23 pr2 f33 q22_0 f25 f29 hm hz4 hz5 hz6 hz7) (by decide) (by decide) (g := (mkF m 58 #[rv a1, iv 1, iv 1, iv p4, iv p5, iv p6, iv p7, rv za1, rv za4, rv za11, rv za22] [(.ref za4), (.ref za1), (.ref za22), (.ref za11), (.int 1), (.ref a1)])) rfl (by rw [hml]; rfl) (argsL := [(.ref a1), (.int 1), (.ref za11), (.ref za22), (.ref za1), (.ref za4)]) (rest := []) rfl (lenOf own_pd7 rfl) rfl (by show 2 * 0 + _ ≤ _; exact Nat.le_of_eq rfl) (hb hby od_m_4_58) rfl (by decide) (by decide)
  obtain ⟨rfl, Nq37, Kq37, q37_0⟩ := hQ37
  have N37 := Fr.app N22 Nq37
  have f38 := own_staKeepW f24 Kq37 (allS f23.nostat all0)
  have f39 := f25.keep Kq37
  have f40 := f26.keep Kq37 (ninS (Ne.symm (own_nl pr1.lt sq_za1)) nin0)
  have f41 := f27.keep Kq37 (ninS (Ne.symm (own_nl pr1.lt sq_za1)) nin0)
  have f42 := f28.keep Kq37 (ninS (Ne.symm (own_nl pr1.lt sq_zb1)) nin0)
  have f43 := f29.keep Kq37
  have f44 := f30.keep Kq37 (ninS (Ne.symm (own_nl f2.lt sq_za4)) nin0)
  have f45 := f31.keep Kq37 (ninS (Ne.symm (own_nl f2.lt sq_za4)) nin0)
  have f46 := f32.keep Kq37 (ninS (Ne.symm (own_nl f2.lt sq_zb4)) nin0)
  have f47 := f33.keep Kq37
  have f48 := f34.keep Kq37 (ninS (Ne.symm (own_nl f5.lt sq_za11)) nin0)
  have f49 := f35.keep Kq37 (ninS (Ne.symm (own_nl f5.lt sq_za11)) nin0)
  have f50 := f36.keep Kq37 (ninS (Ne.symm (own_nl f5.lt sq_zb11)) nin0)
  have f51 := q22_0.keep Kq37
  have f52 := q22_1.keep Kq37 (ninS (Ne.symm (own_nl f12.lt sq_za22)) nin0)
  have f53 := q22_2.keep Kq37 (ninS (Ne.symm (own_nl f12.lt sq_za22)) nin0)
  have f54 := q22_3.keep Kq37 (ninS (Ne.symm (own_nl f12.lt sq_zb22)) nin0)
  have K37 : Keep h0 T37.heap [a1] := K22.trans Kq37 (allS (Or.inl (List.mem_of_getElem? (i := 0) rfl)) all0)
  have Z37 := Nat.le_trans Z22 Kq37.1
  refine own_s T37 (mkF m 61 #[rv a1, iv 1, iv 1, iv p4, iv p5, iv p6, iv p7, rv za1, rv za4, rv za11, rv za22] []) st37 ?_
  exact own_finV X37 hx hret (hb hby od_m_4_61) (own_end (Qv := (own_Qput1_1 Z a1 p4 p5 p6 p7 kd z v0 v1 v2 v3 v4 v5 v6 v7 v8 v9 v10 v11 v12 gC h0 n0)) X37 (fun _ => rfl) hlk (by decide) (by decide) rfl ⟨za1, zb1, zk1, za4, zb4, zk4, za11, zb11, zk11, za22, zb22, zk22, rfl, N37, K37, g_za1, sz_za1, g_zb1, sz_zb1, g_za4, sz_za4, g_zb4, sz_zb4, g_za11, sz_za11, g_zb11, sz_zb11, g_za22, sz_za22, g_zb22, sz_zb22, q37_0, f39, f40, f41, f42, f43, f44, f45, f46, f47, f48, f49, f50, f51, f52, f53, f54⟩)
theorem own_efpa2_1 (m : MethodId) (x0 : Addr) (x1 : Int32) (x2 : Addr) (x3 : Addr) (x4 : Addr) (x5 : Addr) : entryFrame m #[(.ref x0), (.int x1), (.ref x2), (.ref x3), (.ref x4), (.ref x5)] 7 = mkF m 0 #[rv x0, iv x1, rv x2, rv x3, rv x4, rv x5, u_] [] := by first | (simp [entryFrame, mkF, argsToLocals, Value.category]; done) | rfl
def own_Qpa2_1 (Z : State) (a1 : Addr) (a3 : Addr) (a4 : Addr) (a5 : Addr) (a6 : Addr) (kd : ClassId) (z : Int32) (v0 : Value) (v1 : Value) (v2 : Value) (v3 : Value) (v4 : Value) (v5 : Value) (v6 : Value) (v7 : Value) (v8 : Value) (v9 : Value) (v10 : Value) (v11 : Value) (v12 : Value) (h0 : Heap) (n0 : Nat) : Option Value → Heap → List Loc → Prop := fun v h L => v = none ∧ Fr n0 L ∧ Keep h0 h [a1] ∧ Arv Z h a1 kd (.object "java/lang/String") z [v0, v1, v2, v3, v4, v5, v6, v7, (.ref a5), (.ref a6), (.ref a3), (.ref a4), v12] .null
def own_Rpa2_1 : Room := { frames := 1, cells := 0, slots := 0, locals := 12 }
set_option maxRecDepth 65536 in
set_option maxHeartbeats 40000000 in
theorem own_rmpa2_1 (l : Launch) (Z : State) (a0 : Array Value) (hw : ∀ d ∈ tables_1, d.before a0 Z = true) (ws : List Jvm.Cond) (a1 : Addr) (a3 : Addr) (a4 : Addr) (a5 : Addr) (a6 : Addr) (kd : ClassId) (z : Int32) (v0 : Value) (v1 : Value) (v2 : Value) (v3 : Value) (v4 : Value) (v5 : Value) (v6 : Value) (v7 : Value) (v8 : Value) (v9 : Value) (v10 : Value) (v11 : Value) (v12 : Value) (h0 : Heap) (n0 : Nat) (Z0 : n0 ≤ h0.size) (g_a1 : n0 ≤ a1) (pr1 : Arv Z h0 a1 kd (.object "java/lang/String") z [v0, v1, v2, v3, v4, v5, v6, v7, v8, v9, v10, v11, v12] .null) (pr2 : Ovr Z kd "java/lang/String") (pr3 : Exa Z h0 a3 "java/lang/String") (pr4 : Exa Z h0 a4 "java/lang/String") (pr5 : Exa Z h0 a5 "java/lang/String") (pr6 : Exa Z h0 a6 "java/lang/String") (hm : z % (2 : Int32) = (1 : Int32)) (hz8 : (8 : Int32) < z) (hz9 : (9 : Int32) < z) (hz10 : (10 : Int32) < z) (hz11 : (11 : Int32) < z) :
    own_Met l Z own_y9 prog_100_method_4_code 7 none ws own_Rpa2_1 h0 #[(.ref a1), (.int 2), (.ref a3), (.ref a4), (.ref a5), (.ref a6)] (own_Qpa2_1 Z a1 a3 a4 a5 a6 kd z v0 v1 v2 v3 v4 v5 v6 v7 v8 v9 v10 v11 v12 h0 n0) own_Rpa2_1.cells own_Rpa2_1.slots := by
  refine own_start (plainFor_of_name own_pn3) ?_
  intro p e s m below meth c s₁ X0 hx hZ hby hml hret hlk hown hnm e0
  have hown : s.vm.findClass "com/example/tagwright/tagwright/XmlElement" = some m.cls := hown
  have hml : c.maxLocals = 7 := hml
  have N0 := Fr.nil n0
  refine own_cast (own_efpa2_1 m a1 (2 : Int32) a3 a4 a5 a6) ?_
  refine own_s s₁ (mkF m 1 #[rv a1, iv 2, rv a3, rv a4, rv a5, rv a6, u_] [(.ref a1)]) (fun _ k => XS.aloadN X0.here hx rfl (hb hby od_prog_100_m_4_0) rfl rfl k) ?_
  obtain ⟨v1, T1, L1, X1, hQ1, st1⟩ := own_callS X0 hx hZ (y := own_y7) (W := 0) hown (own_h hw 62 rfl) (own_h hw 63 rfl) (own_h hw 2 rfl) (own_h hw 64 rfl) (by decide) (own_rmisnO l Z a0 hw [] a1 kd [v0, v1, v2, v3, v4, v5, v6, v7, v8, v9, v10, v11, v12] z h0 n0 Z0 pr1 hm) (by decide) (by decide) (g := (mkF m 1 #[rv a1, iv 2, rv a3, rv a4, rv a5, rv a6, u_] [(.ref a1)])) rfl (by rw [hml]; rfl) (argsL := [(.ref a1)]) (rest := []) rfl (lenOf own_pd5 rfl) rfl (by show 2 * 0 + _ ≤ _; exact Nat.le_of_eq rfl) (hb hby od_prog_100_m_4_1) e0 (by decide) (by decide)
  obtain ⟨rfl, Nq1, e1⟩ := hQ1
  have N1 := Fr.app N0 Nq1
  refine own_s T1 (mkF m 4 #[rv a1, iv 2, rv a3, rv a4, rv a5, rv a6, u_] [(.int 1)]) st1 ?_
  refine own_s T1 (mkF m 21 #[rv a1, iv 2, rv a3, rv a4, rv a5, rv a6, iv 4] [(.ref a1)]) (fun _ k => XS.ifNo X1.here hx rfl (hb hby od_prog_100_m_4_4) rfl ((if0 _ _).trans (feq (by decide : ¬ ((1 : Int32) = (0 : Int32)))).1) (XS.iconst X1.here hx rfl (hb hby od_prog_100_m_4_7) (XS.goto X1.here hx rfl (pc0 := 8) (pc' := 12) rfl (hb hby od_prog_100_m_4_8) (by decide) (by decide) (XS.istore X1.here hx rfl (hb hby od_prog_100_m_4_12) rfl (l' := #[rv a1, iv 2, rv a3, rv a4, rv a5, rv a6, iv 4]) rfl (XS.iload X1.here hx rfl (hb hby od_prog_100_m_4_14) rfl  (XS.iconst X1.here hx rfl (hb hby od_prog_100_m_4_16) (XS.icmpNo X1.here hx rfl (hb hby od_prog_100_m_4_17) rfl (teq (by decide : ((4 : Int32) = (4 : Int32)))).2 (XS.aloadN X1.here hx rfl (hb hby od_prog_100_m_4_20) rfl rfl k)))))))) ?_
  refine own_s T1 (mkF m 28 #[rv a1, iv 2, rv a3, rv a4, rv a5, rv a6, iv 4] [(.ref a3), (.int 10), (.ref a1)]) (fun _ k => XS.iloadN X1.here hx rfl (hb hby od_prog_100_m_4_21) rfl  (XS.iload X1.here hx rfl (hb hby od_prog_100_m_4_22) rfl  (XS.imul X1.here hx rfl (hb hby od_prog_100_m_4_24) rfl (XS.iconst X1.here hx rfl (hb hby od_prog_100_m_4_25) (XS.iadd X1.here hx rfl (hb hby od_prog_100_m_4_26) rfl (XS.aloadN X1.here hx rfl (hb hby od_prog_100_m_4_27) rfl rfl k)))))) ?_
  obtain ⟨cl2, Ar2, q2, S2, Nn2, H2, G2⟩ := id pr1
  have hin2 : ¬ ((10 : Int32) < 0 ∨ cl2.slots.size ≤ ((10 : Int32)).toNatClampNeg) := (inb_of S2 ⟨by decide, hz10⟩)
  obtain ⟨T2, h2, X2, e2, W2, st2⟩ := stR X1 hx hZ e1 Ar2 (j := (10 : Int32)) hin2 rfl (Sto.ofV Ar2 q2 pr2 (Ins.self pr3)) (g := (mkF m 28 #[rv a1, iv 2, rv a3, rv a4, rv a5, rv a6, iv 4] [(.ref a3), (.int 10), (.ref a1)])) rfl rfl (hb hby od_prog_100_m_4_28)
  have f2 : Arv Z h2 a1 kd (.object "java/lang/String") z [v0, v1, v2, v3, v4, v5, v6, v7, v8, v9, (.ref a3), v11, v12] .null := Arv.set Ar2 q2 S2 Nn2 H2 G2 rfl W2 10 rfl (Nat.le_of_ble_eq_true rfl)
  have f3 := Exa.wr W2 pr3
  have f4 := Exa.wr W2 pr4
  have f5 := Exa.wr W2 pr5
  have f6 := Exa.wr W2 pr6
  have K2 : Keep h0 h2 [a1] := (Keep.refl h0 [a1]).wr W2 (Or.inl (List.mem_of_getElem? (i := 0) rfl))
  have Z2 := Nat.le_trans Z0 (Nat.le_of_eq W2.size.symm)
  have N2 := Fr.snoc X2 N1 g_a1
  refine own_s T2 (mkF m 29 #[rv a1, iv 2, rv a3, rv a4, rv a5, rv a6, iv 4] []) st2 ?_
  refine own_s T2 (mkF m 37 #[rv a1, iv 2, rv a3, rv a4, rv a5, rv a6, iv 4] [(.ref a4), (.int 11), (.ref a1)]) (fun _ k => XS.aloadN X2.here hx rfl (hb hby od_prog_100_m_4_29) rfl rfl (XS.iloadN X2.here hx rfl (hb hby od_prog_100_m_4_30) rfl  (XS.iload X2.here hx rfl (hb hby od_prog_100_m_4_31) rfl  (XS.imul X2.here hx rfl (hb hby od_prog_100_m_4_33) rfl (XS.iconst X2.here hx rfl (hb hby od_prog_100_m_4_34) (XS.iadd X2.here hx rfl (hb hby od_prog_100_m_4_35) rfl (XS.aloadN X2.here hx rfl (hb hby od_prog_100_m_4_36) rfl rfl k))))))) ?_
  obtain ⟨cl7, Ar7, q7, S7, Nn7, H7, G7⟩ := id f2
  have hin7 : ¬ ((11 : Int32) < 0 ∨ cl7.slots.size ≤ ((11 : Int32)).toNatClampNeg) := (inb_of S7 ⟨by decide, hz11⟩)
  obtain ⟨T7, h7, X7, e7, W7, st7⟩ := stR X2 hx hZ e2 Ar7 (j := (11 : Int32)) hin7 rfl (Sto.ofV Ar7 q7 pr2 (Ins.self f4)) (g := (mkF m 37 #[rv a1, iv 2, rv a3, rv a4, rv a5, rv a6, iv 4] [(.ref a4), (.int 11), (.ref a1)])) rfl rfl (hb hby od_prog_100_m_4_37)
  have f7 : Arv Z h7 a1 kd (.object "java/lang/String") z [v0, v1, v2, v3, v4, v5, v6, v7, v8, v9, (.ref a3), (.ref a4), v12] .null := Arv.set Ar7 q7 S7 Nn7 H7 G7 rfl W7 11 rfl (Nat.le_of_ble_eq_true rfl)
  have f8 := Exa.wr W7 f3
  have f9 := Exa.wr W7 f4
  have f10 := Exa.wr W7 f5
  have f11 := Exa.wr W7 f6
  have K7 : Keep h0 h7 [a1] := K2.wr W7 (Or.inl (List.mem_of_getElem? (i := 0) rfl))
  have Z7 := Nat.le_trans Z2 (Nat.le_of_eq W7.size.symm)
  have N7 := Fr.snoc X7 N2 g_a1
  refine own_s T7 (mkF m 38 #[rv a1, iv 2, rv a3, rv a4, rv a5, rv a6, iv 4] []) st7 ?_
  refine own_s T7 (mkF m 63 #[rv a1, iv 2, rv a3, rv a4, rv a5, rv a6, iv 4] [(.int 0), (.int 8), (.ref a1)]) (fun _ k => XS.iload X7.here hx rfl (hb hby od_prog_100_m_4_38) rfl  (XS.iconst X7.here hx rfl (hb hby od_prog_100_m_4_40) (XS.icmpYes X7.here hx rfl (pc0 := 41) (pc' := 57) rfl (hb hby od_prog_100_m_4_41) rfl (teq (by decide : ((4 : Int32) = (4 : Int32)))).1 (by decide) (by decide) (XS.aloadN X7.here hx rfl (hb hby od_prog_100_m_4_57) rfl rfl (XS.iloadN X7.here hx rfl (hb hby od_prog_100_m_4_58) rfl  (XS.iload X7.here hx rfl (hb hby od_prog_100_m_4_59) rfl  (XS.imul X7.here hx rfl (hb hby od_prog_100_m_4_61) rfl (XS.iconst X7.here hx rfl (hb hby od_prog_100_m_4_62) k)))))))) ?_
  refine own_s T7 (mkF m 66 #[rv a1, iv 2, rv a3, rv a4, rv a5, rv a6, iv 4] [(.ref a5), (.int 8), (.ref a1)]) (fun _ k => XS.iadd X7.here hx rfl (hb hby od_prog_100_m_4_63) rfl (XS.aload X7.here hx rfl (hb hby od_prog_100_m_4_64) rfl rfl k)) ?_
  obtain ⟨cl12, Ar12, q12, S12, Nn12, H12, G12⟩ := id f7
  have hin12 : ¬ ((8 : Int32) < 0 ∨ cl12.slots.size ≤ ((8 : Int32)).toNatClampNeg) := (inb_of S12 ⟨by decide, hz8⟩)
  obtain ⟨T12, h12, X12, e12, W12, st12⟩ := stR X7 hx hZ e7 Ar12 (j := (8 : Int32)) hin12 rfl (Sto.ofV Ar12 q12 pr2 (Ins.self f10)) (g := (mkF m 66 #[rv a1, iv 2, rv a3, rv a4, rv a5, rv a6, iv 4] [(.ref a5), (.int 8), (.ref a1)])) rfl rfl (hb hby od_prog_100_m_4_66)
  have f12 : Arv Z h12 a1 kd (.object "java/lang/String") z [v0, v1, v2, v3, v4, v5, v6, v7, (.ref a5), v9, (.ref a3), (.ref a4), v12] .null := Arv.set Ar12 q12 S12 Nn12 H12 G12 rfl W12 8 rfl (Nat.le_of_ble_eq_true rfl)
  have f13 := Exa.wr W12 f8
  have f14 := Exa.wr W12 f9
  have f15 := Exa.wr W12 f10
  have f16 := Exa.wr W12 f11
  have K12 : Keep h0 h12 [a1] := K7.wr W12 (Or.inl (List.mem_of_getElem? (i := 0) rfl))
  have Z12 := Nat.le_trans Z7 (Nat.le_of_eq W12.size.symm)
  have N12 := Fr.snoc X12 N7 g_a1
  refine own_s T12 (mkF m 67 #[rv a1, iv 2, rv a3, rv a4, rv a5, rv a6, iv 4] []) st12 ?_
  refine own_s T12 (mkF m 76 #[rv a1, iv 2, rv a3, rv a4, rv a5, rv a6, iv 4] [(.ref a6), (.int 9), (.ref a1)]) (fun _ k => XS.aloadN X12.here hx rfl (hb hby od_prog_100_m_4_67) rfl rfl (XS.iloadN X12.here hx rfl (hb hby od_prog_100_m_4_68) rfl  (XS.iload X12.here hx rfl (hb hby od_prog_100_m_4_69) rfl  (XS.imul X12.here hx rfl (hb hby od_prog_100_m_4_71) rfl (XS.iconst X12.here hx rfl (hb hby od_prog_100_m_4_72) (XS.iadd X12.here hx rfl (hb hby od_prog_100_m_4_73) rfl (XS.aload X12.here hx rfl (hb hby od_prog_100_m_4_74) rfl rfl k))))))) ?_
  obtain ⟨cl17, Ar17, q17, S17, Nn17, H17, G17⟩ := id f12
  have hin17 : ¬ ((9 : Int32) < 0 ∨ cl17.slots.size ≤ ((9 : Int32)).toNatClampNeg) := (inb_of S17 ⟨by decide, hz9⟩)
  obtain ⟨T17, h17, X17, e17, W17, st17⟩ := stR X12 hx hZ e12 Ar17 (j := (9 : Int32)) hin17 rfl (Sto.ofV Ar17 q17 pr2 (Ins.self f16)) (g := (mkF m 76 #[rv a1, iv 2, rv a3, rv a4, rv a5, rv a6, iv 4] [(.ref a6), (.int 9), (.ref a1)])) rfl rfl (hb hby od_prog_100_m_4_76)
  have f17 : Arv Z h17 a1 kd (.object "java/lang/String") z [v0, v1, v2, v3, v4, v5, v6, v7, (.ref a5), (.ref a6), (.ref a3), (.ref a4), v12] .null := Arv.set Ar17 q17 S17 Nn17 H17 G17 rfl W17 9 rfl (Nat.le_of_ble_eq_true rfl)
  have f18 := Exa.wr W17 f13
  have f19 := Exa.wr W17 f14
  have f20 := Exa.wr W17 f15
  have f21 := Exa.wr W17 f16
  have K17 : Keep h0 h17 [a1] := K12.wr W17 (Or.inl (List.mem_of_getElem? (i := 0) rfl))
  have Z17 := Nat.le_trans Z12 (Nat.le_of_eq W17.size.symm)
  have N17 := Fr.snoc X17 N12 g_a1
  refine own_s T17 (mkF m 77 #[rv a1, iv 2, rv a3, rv a4, rv a5, rv a6, iv 4] []) st17 ?_
  refine own_s T17 (mkF m 95 #[rv a1, iv 2, rv a3, rv a4, rv a5, rv a6, iv 4] []) (fun _ k => XS.goto X17.here hx rfl (pc0 := 77) (pc' := 95) rfl (hb hby od_prog_100_m_4_77) (by decide) (by decide) k) ?_
  exact own_finV X17 hx hret (hb hby od_prog_100_m_4_95) (own_end (Qv := (own_Qpa2_1 Z a1 a3 a4 a5 a6 kd z v0 v1 v2 v3 v4 v5 v6 v7 v8 v9 v10 v11 v12 h0 n0)) X17 (fun _ => rfl) hlk (by decide) (by decide) e17 ⟨rfl, N17, K17, f17⟩)
theorem own_efput2_1 (m : MethodId) (x0 : Addr) (x1 : Int32) (x2 : Int32) (x3 : Int32) (x4 : Int32) (x5 : Int32) (x6 : Int32) : entryFrame m #[(.ref x0), (.int x1), (.int x2), (.int x3), (.int x4), (.int x5), (.int x6)] 11 = mkF m 0 #[rv x0, iv x1, iv x2, iv x3, iv x4, iv x5, iv x6, u_, u_, u_, u_] [] := by first | (simp [entryFrame, mkF, argsToLocals, Value.category]; done) | rfl
def own_Qput2_1 (Z : State) (a1 : Addr) (p4 : Int32) (p5 : Int32) (p6 : Int32) (p7 : Int32) (kd : ClassId) (z : Int32) (v0 : Value) (v1 : Value) (v2 : Value) (v3 : Value) (v4 : Value) (v5 : Value) (v6 : Value) (v7 : Value) (v8 : Value) (v9 : Value) (v10 : Value) (v11 : Value) (v12 : Value) (gC : Int32) (h0 : Heap) (n0 : Nat) : Option Value → Heap → List Loc → Prop := fun v h L => ∃ (sn : Addr) (bn : Addr) (kn : ClassId) (sv : Addr) (bv : Addr) (kv : ClassId) (ss : Addr) (bs : Addr) (ks : ClassId) (sl : Addr) (bl : Addr) (kl : ClassId), v = none ∧ Fr n0 L ∧ Keep h0 h [a1] ∧ n0 ≤ sn ∧ h0.size ≤ sn ∧ n0 ≤ bn ∧ h0.size ≤ bn ∧ n0 ≤ sv ∧ h0.size ≤ sv ∧ n0 ≤ bv ∧ h0.size ≤ bv ∧ n0 ≤ ss ∧ h0.size ≤ ss ∧ n0 ≤ bs ∧ h0.size ≤ bs ∧ n0 ≤ sl ∧ h0.size ≤ sl ∧ n0 ≤ bl ∧ h0.size ≤ bl ∧ Arv Z h a1 kd (.object "java/lang/String") z [v0, v1, v2, v3, v4, v5, v6, v7, (.ref sn), (.ref sv), (.ref ss), (.ref sl), v12] .null ∧ Exa Z h sn "java/lang/String" ∧ Fld Z h sn "java/lang/String" "coder" "B" (.int 0) ∧ Fld Z h sn "java/lang/String" "value" "[B" (.ref bn) ∧ Arv Z h bn kn .byte (1 : Int32) [(.int (own_by (own_chr p4 (2 : Int32))))] (.int 0) ∧ Exa Z h sv "java/lang/String" ∧ Fld Z h sv "java/lang/String" "coder" "B" (.int 0) ∧ Fld Z h sv "java/lang/String" "value" "[B" (.ref bv) ∧ Arv Z h bv kv .byte (1 : Int32) [(.int (own_by (own_chr p5 (2 : Int32))))] (.int 0) ∧ Exa Z h ss "java/lang/String" ∧ Fld Z h ss "java/lang/String" "coder" "B" (.int 0) ∧ Fld Z h ss "java/lang/String" "value" "[B" (.ref bs) ∧ Arv Z h bs ks .byte (1 : Int32) [(.int (own_by (own_chr p7 (2 : Int32))))] (.int 0) ∧ Exa Z h sl "java/lang/String" ∧ Fld Z h sl "java/lang/String" "coder" "B" (.int 0) ∧ Fld Z h sl "java/lang/String" "value" "[B" (.ref bl) ∧ Arv Z h bl kl .byte (1 : Int32) [(.int (own_by (own_chr p6 (2 : Int32))))] (.int 0)
def own_Rput2_1 : Room := { frames := 4, cells := 8, slots := 20, locals := 52 }
set_option maxRecDepth 65536 in
set_option maxHeartbeats 40000000 in
theorem own_rmput2_1 (l : Launch) (Z : State) (a0 : Array Value) (hw : ∀ d ∈ tables_1, d.before a0 Z = true) (ws : List Jvm.Cond) (a1 : Addr) (p4 : Int32) (p5 : Int32) (p6 : Int32) (p7 : Int32) (kd : ClassId) (z : Int32) (v0 : Value) (v1 : Value) (v2 : Value) (v3 : Value) (v4 : Value) (v5 : Value) (v6 : Value) (v7 : Value) (v8 : Value) (v9 : Value) (v10 : Value) (v11 : Value) (v12 : Value) (gC : Int32) (h0 : Heap) (n0 : Nat) (Z0 : n0 ≤ h0.size) (g_a1 : n0 ≤ a1) (pr1 : Arv Z h0 a1 kd (.object "java/lang/String") z [v0, v1, v2, v3, v4, v5, v6, v7, v8, v9, v10, v11, v12] .null) (pr2 : Ovr Z kd "java/lang/String") (pr3 : Sta Z h0 "java/lang/String" "COMPACT_STRINGS" "Z" (.int gC)) (hG : ¬ gC = (0 : Int32)) (hm : z % (2 : Int32) = (1 : Int32)) (hz8 : (8 : Int32) < z) (hz9 : (9 : Int32) < z) (hz10 : (10 : Int32) < z) (hz11 : (11 : Int32) < z) :
    own_Met l Z own_y10 method_4_code 11 none ws own_Rput2_1 h0 #[(.ref a1), (.int 2), (.int 1), (.int p4), (.int p5), (.int p6), (.int p7)] (own_Qput2_1 Z a1 p4 p5 p6 p7 kd z v0 v1 v2 v3 v4 v5 v6 v7 v8 v9 v10 v11 v12 gC h0 n0) own_Rput2_1.cells own_Rput2_1.slots := by
  refine own_start (plainFor_of_name own_pn2) ?_
  intro p e s m below meth c s₁ X0 hx hZ hby hml hret hlk hown hnm e0
  have hown : s.vm.findClass "com/example/tagwright/tagwright/XmlElementNewAttributesPinLaw" = some m.cls := hown
  have hml : c.maxLocals = 11 := hml
  have N0 := Fr.nil n0
  refine own_cast (own_efput2_1 m a1 (2 : Int32) (1 : Int32) p4 p5 p6 p7) ?_
  refine own_s s₁ (mkF m 2 #[rv a1, iv 2, iv 1, iv p4, iv p5, iv p6, iv p7, u_, u_, u_, u_] [(.int 2), (.int p4)]) (fun _ k => XS.iloadN X0.here hx rfl (hb hby od_m_4_0) rfl  (XS.iloadN X0.here hx rfl (hb hby od_m_4_1) rfl  k)) ?_
  obtain ⟨v1, T1, L1, X1, hQ1, st1⟩ := own_callS X0 hx hZ (y := own_y4) (W := 0) hown (own_h hw 82 rfl) (own_h hw 83 rfl) (own_h hw 80 rfl) (own_h hw 84 rfl) (by decide) (own_rmstr l Z a0 hw [] p4 (2 : Int32) gC h0 n0 Z0 pr3 hG) (by decide) (by decide) (g := (mkF m 2 #[rv a1, iv 2, iv 1, iv p4, iv p5, iv p6, iv p7, u_, u_, u_, u_] [(.int 2), (.int p4)])) rfl (by rw [hml]; rfl) (argsL := [(.int p4), (.int 2)]) (rest := []) rfl (lenOf own_pd6 rfl) rfl (by show 2 * 0 + _ ≤ _; exact Nat.le_of_eq rfl) (hb hby od_m_4_2) e0 (by decide) (by decide)
  obtain ⟨za1, zb1, zk1, rfl, Nq1, Kq1, g_za1, sq_za1, g_zb1, sq_zb1, q1_0, q1_1, q1_2, q1_3⟩ := hQ1
  have N1 := Fr.app N0 Nq1
  have sz_za1 : h0.size ≤ za1 := Nat.le_trans (Keep.refl h0 [a1]).1 sq_za1
  have sz_zb1 : h0.size ≤ zb1 := Nat.le_trans (Keep.refl h0 [a1]).1 sq_zb1
  have f2 := pr1.keep Kq1 nin0
  have f3 := own_staKeep pr3 Kq1
  have K1 : Keep h0 T1.heap [a1] := (Keep.refl h0 [a1]).trans Kq1 all0
  have Z1 := Nat.le_trans Z0 Kq1.1
  refine own_s T1 (mkF m 5 #[rv a1, iv 2, iv 1, iv p4, iv p5, iv p6, iv p7, u_, u_, u_, u_] [(.ref za1)]) st1 ?_
  refine own_s T1 (mkF m 10 #[rv a1, iv 2, iv 1, iv p4, iv p5, iv p6, iv p7, rv za1, u_, u_, u_] [(.int 2), (.int p5)]) (fun _ k => XS.astore X1.here hx rfl (hb hby od_m_4_5) rfl rfl (l' := #[rv a1, iv 2, iv 1, iv p4, iv p5, iv p6, iv p7, rv za1, u_, u_, u_]) rfl (XS.iload X1.here hx rfl (hb hby od_m_4_7) rfl  (XS.iloadN X1.here hx rfl (hb hby od_m_4_9) rfl  k))) ?_
  obtain ⟨v4, T4, L4, X4, hQ4, st4⟩ := own_callS X1 hx hZ (y := own_y4) (W := 0) hown (own_h hw 82 rfl) (own_h hw 83 rfl) (own_h hw 80 rfl) (own_h hw 84 rfl) (by decide) (own_rmstr l Z a0 hw [] p5 (2 : Int32) gC T1.heap n0 Z1 f3 hG) (by decide) (by decide) (g := (mkF m 10 #[rv a1, iv 2, iv 1, iv p4, iv p5, iv p6, iv p7, rv za1, u_, u_, u_] [(.int 2), (.int p5)])) rfl (by rw [hml]; rfl) (argsL := [(.int p5), (.int 2)]) (rest := []) rfl (lenOf own_pd6 rfl) rfl (by show 2 * 0 + _ ≤ _; exact Nat.le_of_eq rfl) (hb hby od_m_4_10) rfl (by decide) (by decide)
  obtain ⟨za4, zb4, zk4, rfl, Nq4, Kq4, g_za4, sq_za4, g_zb4, sq_zb4, q4_0, q4_1, q4_2, q4_3⟩ := hQ4
  have N4 := Fr.app N1 Nq4
  have sz_za4 : h0.size ≤ za4 := Nat.le_trans K1.1 sq_za4
  have sz_zb4 : h0.size ≤ zb4 := Nat.le_trans K1.1 sq_zb4
  have f5 := f2.keep Kq4 nin0
  have f6 := own_staKeep f3 Kq4
  have f7 := q1_0.keep Kq4
  have f8 := q1_1.keep Kq4 nin0
  have f9 := q1_2.keep Kq4 nin0
  have f10 := q1_3.keep Kq4 nin0
  have K4 : Keep h0 T4.heap [a1] := K1.trans Kq4 all0
  have Z4 := Nat.le_trans Z1 Kq4.1
  refine own_s T4 (mkF m 13 #[rv a1, iv 2, iv 1, iv p4, iv p5, iv p6, iv p7, rv za1, u_, u_, u_] [(.ref za4)]) st4 ?_
  refine own_s T4 (mkF m 22 #[rv a1, iv 2, iv 1, iv p4, iv p5, iv p6, iv p7, rv za1, rv za4, u_, u_] [(.int 2), (.int p7)]) (fun _ k => XS.astore X4.here hx rfl (hb hby od_m_4_13) rfl rfl (l' := #[rv a1, iv 2, iv 1, iv p4, iv p5, iv p6, iv p7, rv za1, rv za4, u_, u_]) rfl (XS.iloadN X4.here hx rfl (hb hby od_m_4_15) rfl  (XS.ifNo X4.here hx rfl (hb hby od_m_4_16) rfl ((if0 _ _).trans (feq (by decide : ¬ ((1 : Int32) = (0 : Int32)))).1) (XS.iload X4.here hx rfl (hb hby od_m_4_19) rfl  (XS.iloadN X4.here hx rfl (hb hby od_m_4_21) rfl  k))))) ?_
  obtain ⟨v11, T11, L11, X11, hQ11, st11⟩ := own_callS X4 hx hZ (y := own_y4) (W := 0) hown (own_h hw 82 rfl) (own_h hw 83 rfl) (own_h hw 80 rfl) (own_h hw 84 rfl) (by decide) (own_rmstr l Z a0 hw [] p7 (2 : Int32) gC T4.heap n0 Z4 f6 hG) (by decide) (by decide) (g := (mkF m 22 #[rv a1, iv 2, iv 1, iv p4, iv p5, iv p6, iv p7, rv za1, rv za4, u_, u_] [(.int 2), (.int p7)])) rfl (by rw [hml]; rfl) (argsL := [(.int p7), (.int 2)]) (rest := []) rfl (lenOf own_pd6 rfl) rfl (by show 2 * 0 + _ ≤ _; exact Nat.le_of_eq rfl) (hb hby od_m_4_22) rfl (by decide) (by decide)
  obtain ⟨za11, zb11, zk11, rfl, Nq11, Kq11, g_za11, sq_za11, g_zb11, sq_zb11, q11_0, q11_1, q11_2, q11_3⟩ := hQ11
  have N11 := Fr.app N4 Nq11
  have sz_za11 : h0.size ≤ za11 := Nat.le_trans K4.1 sq_za11
  have sz_zb11 : h0.size ≤ zb11 := Nat.le_trans K4.1 sq_zb11
  have f12 := f5.keep Kq11 nin0
  have f13 := own_staKeep f6 Kq11
  have f14 := f7.keep Kq11
  have f15 := f8.keep Kq11 nin0
  have f16 := f9.keep Kq11 nin0
  have f17 := f10.keep Kq11 nin0
  have f18 := q4_0.keep Kq11
  have f19 := q4_1.keep Kq11 nin0
  have f20 := q4_2.keep Kq11 nin0
  have f21 := q4_3.keep Kq11 nin0
  have K11 : Keep h0 T11.heap [a1] := K4.trans Kq11 all0
  have Z11 := Nat.le_trans Z4 Kq11.1
  refine own_s T11 (mkF m 25 #[rv a1, iv 2, iv 1, iv p4, iv p5, iv p6, iv p7, rv za1, rv za4, u_, u_] [(.ref za11)]) st11 ?_
  refine own_s T11 (mkF m 38 #[rv a1, iv 2, iv 1, iv p4, iv p5, iv p6, iv p7, rv za1, rv za4, rv za11, u_] [(.int 2), (.int p6)]) (fun _ k => XS.goto X11.here hx rfl (pc0 := 25) (pc' := 29) rfl (hb hby od_m_4_25) (by decide) (by decide) (XS.astore X11.here hx rfl (hb hby od_m_4_29) rfl rfl (l' := #[rv a1, iv 2, iv 1, iv p4, iv p5, iv p6, iv p7, rv za1, rv za4, rv za11, u_]) rfl (XS.iloadN X11.here hx rfl (hb hby od_m_4_31) rfl  (XS.ifNo X11.here hx rfl (hb hby od_m_4_32) rfl ((if0 _ _).trans (feq (by decide : ¬ ((1 : Int32) = (0 : Int32)))).1) (XS.iload X11.here hx rfl (hb hby od_m_4_35) rfl  (XS.iloadN X11.here hx rfl (hb hby od_m_4_37) rfl  k)))))) ?_
  obtain ⟨v22, T22, L22, X22, hQ22, st22⟩ := own_callS X11 hx hZ (y := own_y4) (W := 0) hown (own_h hw 82 rfl) (own_h hw 83 rfl) (own_h hw 80 rfl) (own_h hw 84 rfl) (by decide) (own_rmstr l Z a0 hw [] p6 (2 : Int32) gC T11.heap n0 Z11 f13 hG) (by decide) (by decide) (g := (mkF m 38 #[rv a1, iv 2, iv 1, iv p4, iv p5, iv p6, iv p7, rv za1, rv za4, rv za11, u_] [(.int 2), (.int p6)])) rfl (by rw [hml]; rfl) (argsL := [(.int p6), (.int 2)]) (rest := []) rfl (lenOf own_pd6 rfl) rfl (by show 2 * 0 + _ ≤ _; exact Nat.le_of_eq rfl) (hb hby od_m_4_38) rfl (by decide) (by decide)
  obtain ⟨za22, zb22, zk22, rfl, Nq22, Kq22, g_za22, sq_za22, g_zb22, sq_zb22, q22_0, q22_1, q22_2, q22_3⟩ := hQ22
  have N22 := Fr.app N11 Nq22
  have sz_za22 : h0.size ≤ za22 := Nat.le_trans K11.1 sq_za22
  have sz_zb22 : h0.size ≤ zb22 := Nat.le_trans K11.1 sq_zb22
  have f23 := f12.keep Kq22 nin0
  have f24 := own_staKeep f13 Kq22
  have f25 := f14.keep Kq22
  have f26 := f15.keep Kq22 nin0
  have f27 := f16.keep Kq22 nin0
  have f28 := f17.keep Kq22 nin0
  have f29 := f18.keep Kq22
  have f30 := f19.keep Kq22 nin0
  have f31 := f20.keep Kq22 nin0
  have f32 := f21.keep Kq22 nin0
  have f33 := q11_0.keep Kq22
  have f34 := q11_1.keep Kq22 nin0
  have f35 := q11_2.keep Kq22 nin0
  have f36 := q11_3.keep Kq22 nin0
  have K22 : Keep h0 T22.heap [a1] := K11.trans Kq22 all0
  have Z22 := Nat.le_trans Z11 Kq22.1
  refine own_s T22 (mkF m 41 #[rv a1, iv 2, iv 1, iv p4, iv p5, iv p6, iv p7, rv za1, rv za4, rv za11, u_] [(.ref za22)]) st22 ?_
  refine own_s T22 (mkF m 58 #[rv a1, iv 2, iv 1, iv p4, iv p5, iv p6, iv p7, rv za1, rv za4, rv za11, rv za22] [(.ref za4), (.ref za1), (.ref za22), (.ref za11), (.int 2), (.ref a1)]) (fun _ k => XS.goto X22.here hx rfl (pc0 := 41) (pc' := 46) rfl (hb hby od_m_4_41) (by decide) (by decide) (XS.astore X22.here hx rfl (hb hby od_m_4_46) rfl rfl (l' := #[rv a1, iv 2, iv 1, iv p4, iv p5, iv p6, iv p7, rv za1, rv za4, rv za11, rv za22]) rfl (XS.aloadN X22.here hx rfl (hb hby od_m_4_48) rfl rfl (XS.iloadN X22.here hx rfl (hb hby od_m_4_49) rfl  (XS.aload X22.here hx rfl (hb hby od_m_4_50) rfl rfl (XS.aload X22.here hx rfl (hb hby od_m_4_52) rfl rfl (XS.aload X22.here hx rfl (hb hby od_m_4_54) rfl rfl (XS.aload X22.here hx rfl (hb hby od_m_4_56) rfl rfl k)))))))) ?_
  obtain ⟨v37, T37, L37, X37, hQ37, st37⟩ := own_callS X22 hx hZ (y := own_y9) (W := 0) hown (own_h hw 104 rfl) (own_h hw 105 rfl) (own_h hw 2 rfl) (own_h hw 106 rfl) (by decide) (own_rmpa2_1 l Z a0 hw [] a1 za11 za22 za1 za4 kd z v0 v1 v2 v3 v4 v5 v6 v7 v8 v9 v10 v11 v12 T22.heap n0 Z22 g_a1 f23 pr2 f33 q22_0 f25 f29 hm hz8 hz9 hz10 hz11) (by decide) (by decide) (g := (mkF m 58 #[rv a1, iv 2, iv 1, iv p4, iv p5, iv p6, iv p7, rv za1, rv za4, rv za11, rv za22] [(.ref za4), (.ref za1), (.ref za22), (.ref za11), (.int 2), (.ref a1)])) rfl (by rw [hml]; rfl) (argsL := [(.ref a1), (.int 2), (.ref za11), (.ref za22), (.ref za1), (.ref za4)]) (rest := []) rfl (lenOf own_pd7 rfl) rfl (by show 2 * 0 + _ ≤ _; exact Nat.le_of_eq rfl) (hb hby od_m_4_58) rfl (by decide) (by decide)
  obtain ⟨rfl, Nq37, Kq37, q37_0⟩ := hQ37
  have N37 := Fr.app N22 Nq37
  have f38 := own_staKeepW f24 Kq37 (allS f23.nostat all0)
  have f39 := f25.keep Kq37
  have f40 := f26.keep Kq37 (ninS (Ne.symm (own_nl pr1.lt sq_za1)) nin0)
  have f41 := f27.keep Kq37 (ninS (Ne.symm (own_nl pr1.lt sq_za1)) nin0)
  have f42 := f28.keep Kq37 (ninS (Ne.symm (own_nl pr1.lt sq_zb1)) nin0)
  have f43 := f29.keep Kq37
  have f44 := f30.keep Kq37 (ninS (Ne.symm (own_nl f2.lt sq_za4)) nin0)
  have f45 := f31.keep Kq37 (ninS (Ne.symm (own_nl f2.lt sq_za4)) nin0)
  have f46 := f32.keep Kq37 (ninS (Ne.symm (own_nl f2.lt sq_zb4)) nin0)
  have f47 := f33.keep Kq37
  have f48 := f34.keep Kq37 (ninS (Ne.symm (own_nl f5.lt sq_za11)) nin0)
  have f49 := f35.keep Kq37 (ninS (Ne.symm (own_nl f5.lt sq_za11)) nin0)
  have f50 := f36.keep Kq37 (ninS (Ne.symm (own_nl f5.lt sq_zb11)) nin0)
  have f51 := q22_0.keep Kq37
  have f52 := q22_1.keep Kq37 (ninS (Ne.symm (own_nl f12.lt sq_za22)) nin0)
  have f53 := q22_2.keep Kq37 (ninS (Ne.symm (own_nl f12.lt sq_za22)) nin0)
  have f54 := q22_3.keep Kq37 (ninS (Ne.symm (own_nl f12.lt sq_zb22)) nin0)
  have K37 : Keep h0 T37.heap [a1] := K22.trans Kq37 (allS (Or.inl (List.mem_of_getElem? (i := 0) rfl)) all0)
  have Z37 := Nat.le_trans Z22 Kq37.1
  refine own_s T37 (mkF m 61 #[rv a1, iv 2, iv 1, iv p4, iv p5, iv p6, iv p7, rv za1, rv za4, rv za11, rv za22] []) st37 ?_
  exact own_finV X37 hx hret (hb hby od_m_4_61) (own_end (Qv := (own_Qput2_1 Z a1 p4 p5 p6 p7 kd z v0 v1 v2 v3 v4 v5 v6 v7 v8 v9 v10 v11 v12 gC h0 n0)) X37 (fun _ => rfl) hlk (by decide) (by decide) rfl ⟨za1, zb1, zk1, za4, zb4, zk4, za11, zb11, zk11, za22, zb22, zk22, rfl, N37, K37, g_za1, sz_za1, g_zb1, sz_zb1, g_za4, sz_za4, g_zb4, sz_zb4, g_za11, sz_za11, g_zb11, sz_zb11, g_za22, sz_za22, g_zb22, sz_zb22, q37_0, f39, f40, f41, f42, f43, f44, f45, f46, f47, f48, f49, f50, f51, f52, f53, f54⟩)
theorem own_pd8 : parseMethodDescriptor "(Ljava/lang/Object;)Z" = some ⟨[(.object "java/lang/Object")], some .boolean⟩ := by decide +kernel
theorem od_prog_100_m_4_11 : decode prog_100_method_4_code 11 = .ok (.iconst 2, 1) := by decide +kernel
theorem od_prog_100_m_4_44 : decode prog_100_method_4_code 44 = .ok (.aload_n 2, 1) := by decide +kernel
theorem od_prog_100_m_4_45 : decode prog_100_method_4_code 45 = .ok (.ifnonnull 35, 3) := by decide +kernel
theorem od_prog_100_m_4_48 : decode prog_100_method_4_code 48 = .ok (.aload_n 3, 1) := by decide +kernel
theorem od_prog_100_m_4_49 : decode prog_100_method_4_code 49 = .ok (.aload 4, 2) := by decide +kernel
theorem od_prog_100_m_4_51 : decode prog_100_method_4_code 51 = .ok (.invokevirtual 62, 3) := by decide +kernel
theorem od_prog_100_m_4_54 : decode prog_100_method_4_code 54 = .ok (.ifCond .eq 26, 3) := by decide +kernel
theorem own_efpa0_0 (m : MethodId) (x0 : Addr) (x1 : Int32) (x3 : Addr) (x4 : Addr) (x5 : Addr) : entryFrame m #[(.ref x0), (.int x1), .null, (.ref x3), (.ref x4), (.ref x5)] 7 = mkF m 0 #[rv x0, iv x1, .val .null, rv x3, rv x4, rv x5, u_] [] := by first | (simp [entryFrame, mkF, argsToLocals, Value.category]; done) | rfl
def own_Qpa0_0 (Z : State) (a1 : Addr) (a5 : Addr) (a6 : Addr) (kd : ClassId) (z : Int32) (v0 : Value) (v1 : Value) (v2 : Value) (v3 : Value) (v4 : Value) (v5 : Value) (v6 : Value) (v7 : Value) (v8 : Value) (v9 : Value) (v10 : Value) (v11 : Value) (v12 : Value) (h0 : Heap) (n0 : Nat) : Option Value → Heap → List Loc → Prop := fun v h L => v = none ∧ Fr n0 L ∧ Keep h0 h [a1] ∧ Arv Z h a1 kd (.object "java/lang/String") z [(.ref a5), (.ref a6), v2, v3, v4, v5, v6, v7, v8, v9, v10, v11, v12] .null
def own_Rpa0_0 : Room := { frames := 1, cells := 0, slots := 0, locals := 14 }
set_option maxRecDepth 65536 in
set_option maxHeartbeats 40000000 in
theorem own_rmpa0_0 (l : Launch) (Z : State) (a0 : Array Value) (hw : ∀ d ∈ tables_1, d.before a0 Z = true) (ws : List Jvm.Cond) (a1 : Addr) (a5 : Addr) (a6 : Addr) (kd : ClassId) (z : Int32) (v0 : Value) (v1 : Value) (v2 : Value) (v3 : Value) (v4 : Value) (v5 : Value) (v6 : Value) (v7 : Value) (v8 : Value) (v9 : Value) (v10 : Value) (v11 : Value) (v12 : Value) (h0 : Heap) (n0 : Nat) (Z0 : n0 ≤ h0.size) (g_a1 : n0 ≤ a1) (pr1 : Arv Z h0 a1 kd (.object "java/lang/String") z [v0, v1, v2, v3, v4, v5, v6, v7, v8, v9, v10, v11, v12] .null) (pr2 : Ovr Z kd "java/lang/String") (pr3 : Exa Z h0 a5 "java/lang/String") (pr4 : Exa Z h0 a6 "java/lang/String") (hm : ¬ z % (2 : Int32) = (1 : Int32)) (hz0 : (0 : Int32) < z) (hz1 : (1 : Int32) < z) :
    own_Met l Z own_y9 prog_100_method_4_code 7 none ws own_Rpa0_0 h0 #[(.ref a1), (.int 0), .null, (.ref a5), (.ref a5), (.ref a6)] (own_Qpa0_0 Z a1 a5 a6 kd z v0 v1 v2 v3 v4 v5 v6 v7 v8 v9 v10 v11 v12 h0 n0) own_Rpa0_0.cells own_Rpa0_0.slots := by
  refine own_start (plainFor_of_name own_pn3) ?_
  intro p e s m below meth c s₁ X0 hx hZ hby hml hret hlk hown hnm e0
  have hown : s.vm.findClass "com/example/tagwright/tagwright/XmlElement" = some m.cls := hown
  have hml : c.maxLocals = 7 := hml
  have N0 := Fr.nil n0
  refine own_cast (own_efpa0_0 m a1 (0 : Int32) a5 a5 a6) ?_
  refine own_s s₁ (mkF m 1 #[rv a1, iv 0, .val .null, rv a5, rv a5, rv a6, u_] [(.ref a1)]) (fun _ k => XS.aloadN X0.here hx rfl (hb hby od_prog_100_m_4_0) rfl rfl k) ?_
  obtain ⟨v1, T1, L1, X1, hQ1, st1⟩ := own_callS X0 hx hZ (y := own_y7) (W := 0) hown (own_h hw 62 rfl) (own_h hw 63 rfl) (own_h hw 2 rfl) (own_h hw 64 rfl) (by decide) (own_rmisnE l Z a0 hw [] a1 kd [v0, v1, v2, v3, v4, v5, v6, v7, v8, v9, v10, v11, v12] z h0 n0 Z0 pr1 hm) (by decide) (by decide) (g := (mkF m 1 #[rv a1, iv 0, .val .null, rv a5, rv a5, rv a6, u_] [(.ref a1)])) rfl (by rw [hml]; rfl) (argsL := [(.ref a1)]) (rest := []) rfl (lenOf own_pd5 rfl) rfl (by show 2 * 0 + _ ≤ _; exact Nat.le_of_eq rfl) (hb hby od_prog_100_m_4_1) e0 (by decide) (by decide)
  obtain ⟨rfl, Nq1, e1⟩ := hQ1
  have N1 := Fr.app N0 Nq1
  refine own_s T1 (mkF m 4 #[rv a1, iv 0, .val .null, rv a5, rv a5, rv a6, u_] [(.int 0)]) st1 ?_
  refine own_s T1 (mkF m 41 #[rv a1, iv 0, .val .null, rv a5, rv a5, rv a6, iv 2] [(.int 4), (.int 2)]) (fun _ k => XS.ifYes X1.here hx rfl (pc0 := 4) (pc' := 11) rfl (hb hby od_prog_100_m_4_4) rfl ((if0 _ _).trans (teq (by decide : ((0 : Int32) = (0 : Int32)))).1) (by decide) (by decide) (XS.iconst X1.here hx rfl (hb hby od_prog_100_m_4_11) (XS.istore X1.here hx rfl (hb hby od_prog_100_m_4_12) rfl (l' := #[rv a1, iv 0, .val .null, rv a5, rv a5, rv a6, iv 2]) rfl (XS.iload X1.here hx rfl (hb hby od_prog_100_m_4_14) rfl  (XS.iconst X1.here hx rfl (hb hby od_prog_100_m_4_16) (XS.icmpYes X1.here hx rfl (pc0 := 17) (pc' := 38) rfl (hb hby od_prog_100_m_4_17) rfl (feq (by decide : ¬ ((2 : Int32) = (4 : Int32)))).2 (by decide) (by decide) (XS.iload X1.here hx rfl (hb hby od_prog_100_m_4_38) rfl  (XS.iconst X1.here hx rfl (hb hby od_prog_100_m_4_40) k)))))))) ?_
  refine own_s T1 (mkF m 51 #[rv a1, iv 0, .val .null, rv a5, rv a5, rv a6, iv 2] [(.ref a5), (.ref a5)]) (fun _ k => XS.icmpNo X1.here hx rfl (hb hby od_prog_100_m_4_41) rfl (feq (by decide : ¬ ((2 : Int32) = (4 : Int32)))).1 (XS.aloadN X1.here hx rfl (hb hby od_prog_100_m_4_44) rfl rfl (XS.ifnonnullNo X1.here hx rfl (hb hby od_prog_100_m_4_45) rfl (XS.aloadN X1.here hx rfl (hb hby od_prog_100_m_4_48) rfl rfl (XS.aload X1.here hx rfl (hb hby od_prog_100_m_4_49) rfl rfl k))))) ?_
  obtain ⟨v2, T2, L2, X2, hQ2, st2⟩ := own_callV X1 hx hZ (y := own_y6) (z := own_y6) (W := 0) (a := a5) hown (own_h hw 107 rfl) (own_h hw 108 rfl) (notFace_of_selects (args := #[]) (mvT hZ (own_h hw 110 rfl))) (own_h hw 110 rfl) (own_h hw 109 rfl) (own_h hw 9 rfl) (own_h hw 111 rfl) (by decide) (own_rmeqS l Z a0 hw [] a5 h0 n0 Z0) (by decide) (by decide) pr3 (g := (mkF m 51 #[rv a1, iv 0, .val .null, rv a5, rv a5, rv a6, iv 2] [(.ref a5), (.ref a5)])) rfl (by rw [hml]; rfl) (argsL := [(.ref a5)]) (rest := []) rfl (lenOf own_pd8 rfl) rfl (by show 2 * 0 + _ ≤ _; exact Nat.le_of_eq rfl) (hb hby od_prog_100_m_4_51) e1 (by decide) (by decide)
  obtain ⟨rfl, Nq2, e2⟩ := hQ2
  have N2 := Fr.app N1 Nq2
  refine own_s T2 (mkF m 54 #[rv a1, iv 0, .val .null, rv a5, rv a5, rv a6, iv 2] [(.int 1)]) st2 ?_
  refine own_s T2 (mkF m 66 #[rv a1, iv 0, .val .null, rv a5, rv a5, rv a6, iv 2] [(.ref a5), (.int 0), (.ref a1)]) (fun _ k => XS.ifNo X2.here hx rfl (hb hby od_prog_100_m_4_54) rfl ((if0 _ _).trans (feq (by decide : ¬ ((1 : Int32) = (0 : Int32)))).1) (XS.aloadN X2.here hx rfl (hb hby od_prog_100_m_4_57) rfl rfl (XS.iloadN X2.here hx rfl (hb hby od_prog_100_m_4_58) rfl  (XS.iload X2.here hx rfl (hb hby od_prog_100_m_4_59) rfl  (XS.imul X2.here hx rfl (hb hby od_prog_100_m_4_61) rfl (XS.iconst X2.here hx rfl (hb hby od_prog_100_m_4_62) (XS.iadd X2.here hx rfl (hb hby od_prog_100_m_4_63) rfl (XS.aload X2.here hx rfl (hb hby od_prog_100_m_4_64) rfl rfl k)))))))) ?_
  obtain ⟨cl3, Ar3, q3, S3, Nn3, H3, G3⟩ := id pr1
  have hin3 : ¬ ((0 : Int32) < 0 ∨ cl3.slots.size ≤ ((0 : Int32)).toNatClampNeg) := (inb_of S3 ⟨by decide, hz0⟩)
  obtain ⟨T3, h3, X3, e3, W3, st3⟩ := stR X2 hx hZ e2 Ar3 (j := (0 : Int32)) hin3 rfl (Sto.ofV Ar3 q3 pr2 (Ins.self pr3)) (g := (mkF m 66 #[rv a1, iv 0, .val .null, rv a5, rv a5, rv a6, iv 2] [(.ref a5), (.int 0), (.ref a1)])) rfl rfl (hb hby od_prog_100_m_4_66)
  have f3 : Arv Z h3 a1 kd (.object "java/lang/String") z [(.ref a5), v1, v2, v3, v4, v5, v6, v7, v8, v9, v10, v11, v12] .null := Arv.set Ar3 q3 S3 Nn3 H3 G3 rfl W3 0 rfl (Nat.le_of_ble_eq_true rfl)
  have f4 := Exa.wr W3 pr3
  have f5 := Exa.wr W3 pr4
  have K3 : Keep h0 h3 [a1] := (Keep.refl h0 [a1]).wr W3 (Or.inl (List.mem_of_getElem? (i := 0) rfl))
  have Z3 := Nat.le_trans Z0 (Nat.le_of_eq W3.size.symm)
  have N3 := Fr.snoc X3 N2 g_a1
  refine own_s T3 (mkF m 67 #[rv a1, iv 0, .val .null, rv a5, rv a5, rv a6, iv 2] []) st3 ?_
  refine own_s T3 (mkF m 76 #[rv a1, iv 0, .val .null, rv a5, rv a5, rv a6, iv 2] [(.ref a6), (.int 1), (.ref a1)]) (fun _ k => XS.aloadN X3.here hx rfl (hb hby od_prog_100_m_4_67) rfl rfl (XS.iloadN X3.here hx rfl (hb hby od_prog_100_m_4_68) rfl  (XS.iload X3.here hx rfl (hb hby od_prog_100_m_4_69) rfl  (XS.imul X3.here hx rfl (hb hby od_prog_100_m_4_71) rfl (XS.iconst X3.here hx rfl (hb hby od_prog_100_m_4_72) (XS.iadd X3.here hx rfl (hb hby od_prog_100_m_4_73) rfl (XS.aload X3.here hx rfl (hb hby od_prog_100_m_4_74) rfl rfl k))))))) ?_
  obtain ⟨cl6, Ar6, q6, S6, Nn6, H6, G6⟩ := id f3
  have hin6 : ¬ ((1 : Int32) < 0 ∨ cl6.slots.size ≤ ((1 : Int32)).toNatClampNeg) := (inb_of S6 ⟨by decide, hz1⟩)
  obtain ⟨T6, h6, X6, e6, W6, st6⟩ := stR X3 hx hZ e3 Ar6 (j := (1 : Int32)) hin6 rfl (Sto.ofV Ar6 q6 pr2 (Ins.self f5)) (g := (mkF m 76 #[rv a1, iv 0, .val .null, rv a5, rv a5, rv a6, iv 2] [(.ref a6), (.int 1), (.ref a1)])) rfl rfl (hb hby od_prog_100_m_4_76)
  have f6 : Arv Z h6 a1 kd (.object "java/lang/String") z [(.ref a5), (.ref a6), v2, v3, v4, v5, v6, v7, v8, v9, v10, v11, v12] .null := Arv.set Ar6 q6 S6 Nn6 H6 G6 rfl W6 1 rfl (Nat.le_of_ble_eq_true rfl)
  have f7 := Exa.wr W6 f4
  have f8 := Exa.wr W6 f5
  have K6 : Keep h0 h6 [a1] := K3.wr W6 (Or.inl (List.mem_of_getElem? (i := 0) rfl))
  have Z6 := Nat.le_trans Z3 (Nat.le_of_eq W6.size.symm)
  have N6 := Fr.snoc X6 N3 g_a1
  refine own_s T6 (mkF m 77 #[rv a1, iv 0, .val .null, rv a5, rv a5, rv a6, iv 2] []) st6 ?_
  refine own_s T6 (mkF m 95 #[rv a1, iv 0, .val .null, rv a5, rv a5, rv a6, iv 2] []) (fun _ k => XS.goto X6.here hx rfl (pc0 := 77) (pc' := 95) rfl (hb hby od_prog_100_m_4_77) (by decide) (by decide) k) ?_
  exact own_finV X6 hx hret (hb hby od_prog_100_m_4_95) (own_end (Qv := (own_Qpa0_0 Z a1 a5 a6 kd z v0 v1 v2 v3 v4 v5 v6 v7 v8 v9 v10 v11 v12 h0 n0)) X6 (fun _ => rfl) hlk (by decide) (by decide) e6 ⟨rfl, N6, K6, f6⟩)
theorem od_m_4_28 : decode method_4_code 28 = .ok (.aconst_null, 1) := by decide +kernel
theorem od_m_4_44 : decode method_4_code 44 = .ok (.aload 7, 2) := by decide +kernel
theorem own_efput0_0 (m : MethodId) (x0 : Addr) (x1 : Int32) (x2 : Int32) (x3 : Int32) (x4 : Int32) (x5 : Int32) (x6 : Int32) : entryFrame m #[(.ref x0), (.int x1), (.int x2), (.int x3), (.int x4), (.int x5), (.int x6)] 11 = mkF m 0 #[rv x0, iv x1, iv x2, iv x3, iv x4, iv x5, iv x6, u_, u_, u_, u_] [] := by first | (simp [entryFrame, mkF, argsToLocals, Value.category]; done) | rfl
def own_Qput0_0 (Z : State) (a1 : Addr) (p4 : Int32) (p5 : Int32) (p6 : Int32) (p7 : Int32) (kd : ClassId) (z : Int32) (v0 : Value) (v1 : Value) (v2 : Value) (v3 : Value) (v4 : Value) (v5 : Value) (v6 : Value) (v7 : Value) (v8 : Value) (v9 : Value) (v10 : Value) (v11 : Value) (v12 : Value) (gC : Int32) (h0 : Heap) (n0 : Nat) : Option Value → Heap → List Loc → Prop := fun v h L => ∃ (sn : Addr) (bn : Addr) (kn : ClassId) (sv : Addr) (bv : Addr) (kv : ClassId), v = none ∧ Fr n0 L ∧ Keep h0 h [a1] ∧ n0 ≤ sn ∧ h0.size ≤ sn ∧ n0 ≤ bn ∧ h0.size ≤ bn ∧ n0 ≤ sv ∧ h0.size ≤ sv ∧ n0 ≤ bv ∧ h0.size ≤ bv ∧ Arv Z h a1 kd (.object "java/lang/String") z [(.ref sn), (.ref sv), v2, v3, v4, v5, v6, v7, v8, v9, v10, v11, v12] .null ∧ Exa Z h sn "java/lang/String" ∧ Fld Z h sn "java/lang/String" "coder" "B" (.int 0) ∧ Fld Z h sn "java/lang/String" "value" "[B" (.ref bn) ∧ Arv Z h bn kn .byte (1 : Int32) [(.int (own_by (own_chr p4 (0 : Int32))))] (.int 0) ∧ Exa Z h sv "java/lang/String" ∧ Fld Z h sv "java/lang/String" "coder" "B" (.int 0) ∧ Fld Z h sv "java/lang/String" "value" "[B" (.ref bv) ∧ Arv Z h bv kv .byte (1 : Int32) [(.int (own_by (own_chr p5 (0 : Int32))))] (.int 0)
def own_Rput0_0 : Room := { frames := 4, cells := 4, slots := 10, locals := 52 }
set_option maxRecDepth 65536 in
set_option maxHeartbeats 40000000 in
theorem own_rmput0_0 (l : Launch) (Z : State) (a0 : Array Value) (hw : ∀ d ∈ tables_1, d.before a0 Z = true) (ws : List Jvm.Cond) (a1 : Addr) (p4 : Int32) (p5 : Int32) (p6 : Int32) (p7 : Int32) (kd : ClassId) (z : Int32) (v0 : Value) (v1 : Value) (v2 : Value) (v3 : Value) (v4 : Value) (v5 : Value) (v6 : Value) (v7 : Value) (v8 : Value) (v9 : Value) (v10 : Value) (v11 : Value) (v12 : Value) (gC : Int32) (h0 : Heap) (n0 : Nat) (Z0 : n0 ≤ h0.size) (g_a1 : n0 ≤ a1) (pr1 : Arv Z h0 a1 kd (.object "java/lang/String") z [v0, v1, v2, v3, v4, v5, v6, v7, v8, v9, v10, v11, v12] .null) (pr2 : Ovr Z kd "java/lang/String") (pr3 : Sta Z h0 "java/lang/String" "COMPACT_STRINGS" "Z" (.int gC)) (hG : ¬ gC = (0 : Int32)) (hm : ¬ z % (2 : Int32) = (1 : Int32)) (hz0 : (0 : Int32) < z) (hz1 : (1 : Int32) < z) :
    own_Met l Z own_y10 method_4_code 11 none ws own_Rput0_0 h0 #[(.ref a1), (.int 0), (.int 0), (.int p4), (.int p5), (.int p6), (.int p7)] (own_Qput0_0 Z a1 p4 p5 p6 p7 kd z v0 v1 v2 v3 v4 v5 v6 v7 v8 v9 v10 v11 v12 gC h0 n0) own_Rput0_0.cells own_Rput0_0.slots := by
  refine own_start (plainFor_of_name own_pn2) ?_
  intro p e s m below meth c s₁ X0 hx hZ hby hml hret hlk hown hnm e0
  have hown : s.vm.findClass "com/example/tagwright/tagwright/XmlElementNewAttributesPinLaw" = some m.cls := hown
  have hml : c.maxLocals = 11 := hml
  have N0 := Fr.nil n0
  refine own_cast (own_efput0_0 m a1 (0 : Int32) (0 : Int32) p4 p5 p6 p7) ?_
  refine own_s s₁ (mkF m 2 #[rv a1, iv 0, iv 0, iv p4, iv p5, iv p6, iv p7, u_, u_, u_, u_] [(.int 0), (.int p4)]) (fun _ k => XS.iloadN X0.here hx rfl (hb hby od_m_4_0) rfl  (XS.iloadN X0.here hx rfl (hb hby od_m_4_1) rfl  k)) ?_
  obtain ⟨v1, T1, L1, X1, hQ1, st1⟩ := own_callS X0 hx hZ (y := own_y4) (W := 0) hown (own_h hw 82 rfl) (own_h hw 83 rfl) (own_h hw 80 rfl) (own_h hw 84 rfl) (by decide) (own_rmstr l Z a0 hw [] p4 (0 : Int32) gC h0 n0 Z0 pr3 hG) (by decide) (by decide) (g := (mkF m 2 #[rv a1, iv 0, iv 0, iv p4, iv p5, iv p6, iv p7, u_, u_, u_, u_] [(.int 0), (.int p4)])) rfl (by rw [hml]; rfl) (argsL := [(.int p4), (.int 0)]) (rest := []) rfl (lenOf own_pd6 rfl) rfl (by show 2 * 0 + _ ≤ _; exact Nat.le_of_eq rfl) (hb hby od_m_4_2) e0 (by decide) (by decide)
  obtain ⟨za1, zb1, zk1, rfl, Nq1, Kq1, g_za1, sq_za1, g_zb1, sq_zb1, q1_0, q1_1, q1_2, q1_3⟩ := hQ1
  have N1 := Fr.app N0 Nq1
  have sz_za1 : h0.size ≤ za1 := Nat.le_trans (Keep.refl h0 [a1]).1 sq_za1
  have sz_zb1 : h0.size ≤ zb1 := Nat.le_trans (Keep.refl h0 [a1]).1 sq_zb1
  have f2 := pr1.keep Kq1 nin0
  have f3 := own_staKeep pr3 Kq1
  have K1 : Keep h0 T1.heap [a1] := (Keep.refl h0 [a1]).trans Kq1 all0
  have Z1 := Nat.le_trans Z0 Kq1.1
  refine own_s T1 (mkF m 5 #[rv a1, iv 0, iv 0, iv p4, iv p5, iv p6, iv p7, u_, u_, u_, u_] [(.ref za1)]) st1 ?_
  refine own_s T1 (mkF m 10 #[rv a1, iv 0, iv 0, iv p4, iv p5, iv p6, iv p7, rv za1, u_, u_, u_] [(.int 0), (.int p5)]) (fun _ k => XS.astore X1.here hx rfl (hb hby od_m_4_5) rfl rfl (l' := #[rv a1, iv 0, iv 0, iv p4, iv p5, iv p6, iv p7, rv za1, u_, u_, u_]) rfl (XS.iload X1.here hx rfl (hb hby od_m_4_7) rfl  (XS.iloadN X1.here hx rfl (hb hby od_m_4_9) rfl  k))) ?_
  obtain ⟨v4, T4, L4, X4, hQ4, st4⟩ := own_callS X1 hx hZ (y := own_y4) (W := 0) hown (own_h hw 82 rfl) (own_h hw 83 rfl) (own_h hw 80 rfl) (own_h hw 84 rfl) (by decide) (own_rmstr l Z a0 hw [] p5 (0 : Int32) gC T1.heap n0 Z1 f3 hG) (by decide) (by decide) (g := (mkF m 10 #[rv a1, iv 0, iv 0, iv p4, iv p5, iv p6, iv p7, rv za1, u_, u_, u_] [(.int 0), (.int p5)])) rfl (by rw [hml]; rfl) (argsL := [(.int p5), (.int 0)]) (rest := []) rfl (lenOf own_pd6 rfl) rfl (by show 2 * 0 + _ ≤ _; exact Nat.le_of_eq rfl) (hb hby od_m_4_10) rfl (by decide) (by decide)
  obtain ⟨za4, zb4, zk4, rfl, Nq4, Kq4, g_za4, sq_za4, g_zb4, sq_zb4, q4_0, q4_1, q4_2, q4_3⟩ := hQ4
  have N4 := Fr.app N1 Nq4
  have sz_za4 : h0.size ≤ za4 := Nat.le_trans K1.1 sq_za4
  have sz_zb4 : h0.size ≤ zb4 := Nat.le_trans K1.1 sq_zb4
  have f5 := f2.keep Kq4 nin0
  have f6 := own_staKeep f3 Kq4
  have f7 := q1_0.keep Kq4
  have f8 := q1_1.keep Kq4 nin0
  have f9 := q1_2.keep Kq4 nin0
  have f10 := q1_3.keep Kq4 nin0
  have K4 : Keep h0 T4.heap [a1] := K1.trans Kq4 all0
  have Z4 := Nat.le_trans Z1 Kq4.1
  refine own_s T4 (mkF m 13 #[rv a1, iv 0, iv 0, iv p4, iv p5, iv p6, iv p7, rv za1, u_, u_, u_] [(.ref za4)]) st4 ?_
  refine own_s T4 (mkF m 46 #[rv a1, iv 0, iv 0, iv p4, iv p5, iv p6, iv p7, rv za1, rv za4, .val .null, u_] [(.ref za1)]) (fun _ k => XS.astore X4.here hx rfl (hb hby od_m_4_13) rfl rfl (l' := #[rv a1, iv 0, iv 0, iv p4, iv p5, iv p6, iv p7, rv za1, rv za4, u_, u_]) rfl (XS.iloadN X4.here hx rfl (hb hby od_m_4_15) rfl  (XS.ifYes X4.here hx rfl (pc0 := 16) (pc' := 28) rfl (hb hby od_m_4_16) rfl ((if0 _ _).trans (teq (by decide : ((0 : Int32) = (0 : Int32)))).1) (by decide) (by decide) (XS.aconstNull X4.here hx rfl (hb hby od_m_4_28) (XS.astore X4.here hx rfl (hb hby od_m_4_29) rfl rfl (l' := #[rv a1, iv 0, iv 0, iv p4, iv p5, iv p6, iv p7, rv za1, rv za4, .val .null, u_]) rfl (XS.iloadN X4.here hx rfl (hb hby od_m_4_31) rfl  (XS.ifYes X4.here hx rfl (pc0 := 32) (pc' := 44) rfl (hb hby od_m_4_32) rfl ((if0 _ _).trans (teq (by decide : ((0 : Int32) = (0 : Int32)))).1) (by decide) (by decide) (XS.aload X4.here hx rfl (hb hby od_m_4_44) rfl rfl k)))))))) ?_
  refine own_s T4 (mkF m 58 #[rv a1, iv 0, iv 0, iv p4, iv p5, iv p6, iv p7, rv za1, rv za4, .val .null, rv za1] [(.ref za4), (.ref za1), (.ref za1), .null, (.int 0), (.ref a1)]) (fun _ k => XS.astore X4.here hx rfl (hb hby od_m_4_46) rfl rfl (l' := #[rv a1, iv 0, iv 0, iv p4, iv p5, iv p6, iv p7, rv za1, rv za4, .val .null, rv za1]) rfl (XS.aloadN X4.here hx rfl (hb hby od_m_4_48) rfl rfl (XS.iloadN X4.here hx rfl (hb hby od_m_4_49) rfl  (XS.aload X4.here hx rfl (hb hby od_m_4_50) rfl rfl (XS.aload X4.here hx rfl (hb hby od_m_4_52) rfl rfl (XS.aload X4.here hx rfl (hb hby od_m_4_54) rfl rfl (XS.aload X4.here hx rfl (hb hby od_m_4_56) rfl rfl k))))))) ?_
  obtain ⟨v11, T11, L11, X11, hQ11, st11⟩ := own_callS X4 hx hZ (y := own_y9) (W := 0) hown (own_h hw 104 rfl) (own_h hw 105 rfl) (own_h hw 2 rfl) (own_h hw 106 rfl) (by decide) (own_rmpa0_0 l Z a0 hw [] a1 za1 za4 kd z v0 v1 v2 v3 v4 v5 v6 v7 v8 v9 v10 v11 v12 T4.heap n0 Z4 g_a1 f5 pr2 f7 q4_0 hm hz0 hz1) (by decide) (by decide) (g := (mkF m 58 #[rv a1, iv 0, iv 0, iv p4, iv p5, iv p6, iv p7, rv za1, rv za4, .val .null, rv za1] [(.ref za4), (.ref za1), (.ref za1), .null, (.int 0), (.ref a1)])) rfl (by rw [hml]; rfl) (argsL := [(.ref a1), (.int 0), .null, (.ref za1), (.ref za1), (.ref za4)]) (rest := []) rfl (lenOf own_pd7 rfl) rfl (by show 2 * 0 + _ ≤ _; exact Nat.le_of_eq rfl) (hb hby od_m_4_58) rfl (by decide) (by decide)
  obtain ⟨rfl, Nq11, Kq11, q11_0⟩ := hQ11
  have N11 := Fr.app N4 Nq11
  have f12 := own_staKeepW f6 Kq11 (allS f5.nostat all0)
  have f13 := f7.keep Kq11
  have f14 := f8.keep Kq11 (ninS (Ne.symm (own_nl pr1.lt sq_za1)) nin0)
  have f15 := f9.keep Kq11 (ninS (Ne.symm (own_nl pr1.lt sq_za1)) nin0)
  have f16 := f10.keep Kq11 (ninS (Ne.symm (own_nl pr1.lt sq_zb1)) nin0)
  have f17 := q4_0.keep Kq11
  have f18 := q4_1.keep Kq11 (ninS (Ne.symm (own_nl f2.lt sq_za4)) nin0)
  have f19 := q4_2.keep Kq11 (ninS (Ne.symm (own_nl f2.lt sq_za4)) nin0)
  have f20 := q4_3.keep Kq11 (ninS (Ne.symm (own_nl f2.lt sq_zb4)) nin0)
  have K11 : Keep h0 T11.heap [a1] := K4.trans Kq11 (allS (Or.inl (List.mem_of_getElem? (i := 0) rfl)) all0)
  have Z11 := Nat.le_trans Z4 Kq11.1
  refine own_s T11 (mkF m 61 #[rv a1, iv 0, iv 0, iv p4, iv p5, iv p6, iv p7, rv za1, rv za4, .val .null, rv za1] []) st11 ?_
  exact own_finV X11 hx hret (hb hby od_m_4_61) (own_end (Qv := (own_Qput0_0 Z a1 p4 p5 p6 p7 kd z v0 v1 v2 v3 v4 v5 v6 v7 v8 v9 v10 v11 v12 gC h0 n0)) X11 (fun _ => rfl) hlk (by decide) (by decide) rfl ⟨za1, zb1, zk1, za4, zb4, zk4, rfl, N11, K11, g_za1, sz_za1, g_zb1, sz_zb1, g_za4, sz_za4, g_zb4, sz_zb4, q11_0, f13, f14, f15, f16, f17, f18, f19, f20⟩)
theorem own_efpa1_0 (m : MethodId) (x0 : Addr) (x1 : Int32) (x3 : Addr) (x4 : Addr) (x5 : Addr) : entryFrame m #[(.ref x0), (.int x1), .null, (.ref x3), (.ref x4), (.ref x5)] 7 = mkF m 0 #[rv x0, iv x1, .val .null, rv x3, rv x4, rv x5, u_] [] := by first | (simp [entryFrame, mkF, argsToLocals, Value.category]; done) | rfl
def own_Qpa1_0 (Z : State) (a1 : Addr) (a5 : Addr) (a6 : Addr) (kd : ClassId) (z : Int32) (v0 : Value) (v1 : Value) (v2 : Value) (v3 : Value) (v4 : Value) (v5 : Value) (v6 : Value) (v7 : Value) (v8 : Value) (v9 : Value) (v10 : Value) (v11 : Value) (v12 : Value) (h0 : Heap) (n0 : Nat) : Option Value → Heap → List Loc → Prop := fun v h L => v = none ∧ Fr n0 L ∧ Keep h0 h [a1] ∧ Arv Z h a1 kd (.object "java/lang/String") z [v0, v1, (.ref a5), (.ref a6), v4, v5, v6, v7, v8, v9, v10, v11, v12] .null
def own_Rpa1_0 : Room := { frames := 1, cells := 0, slots := 0, locals := 14 }
set_option maxRecDepth 65536 in
set_option maxHeartbeats 40000000 in
theorem own_rmpa1_0 (l : Launch) (Z : State) (a0 : Array Value) (hw : ∀ d ∈ tables_1, d.before a0 Z = true) (ws : List Jvm.Cond) (a1 : Addr) (a5 : Addr) (a6 : Addr) (kd : ClassId) (z : Int32) (v0 : Value) (v1 : Value) (v2 : Value) (v3 : Value) (v4 : Value) (v5 : Value) (v6 : Value) (v7 : Value) (v8 : Value) (v9 : Value) (v10 : Value) (v11 : Value) (v12 : Value) (h0 : Heap) (n0 : Nat) (Z0 : n0 ≤ h0.size) (g_a1 : n0 ≤ a1) (pr1 : Arv Z h0 a1 kd (.object "java/lang/String") z [v0, v1, v2, v3, v4, v5, v6, v7, v8, v9, v10, v11, v12] .null) (pr2 : Ovr Z kd "java/lang/String") (pr3 : Exa Z h0 a5 "java/lang/String") (pr4 : Exa Z h0 a6 "java/lang/String") (hm : ¬ z % (2 : Int32) = (1 : Int32)) (hz2 : (2 : Int32) < z) (hz3 : (3 : Int32) < z) :
    own_Met l Z own_y9 prog_100_method_4_code 7 none ws own_Rpa1_0 h0 #[(.ref a1), (.int 1), .null, (.ref a5), (.ref a5), (.ref a6)] (own_Qpa1_0 Z a1 a5 a6 kd z v0 v1 v2 v3 v4 v5 v6 v7 v8 v9 v10 v11 v12 h0 n0) own_Rpa1_0.cells own_Rpa1_0.slots := by
  refine own_start (plainFor_of_name own_pn3) ?_
  intro p e s m below meth c s₁ X0 hx hZ hby hml hret hlk hown hnm e0
  have hown : s.vm.findClass "com/example/tagwright/tagwright/XmlElement" = some m.cls := hown
  have hml : c.maxLocals = 7 := hml
  have N0 := Fr.nil n0
  refine own_cast (own_efpa1_0 m a1 (1 : Int32) a5 a5 a6) ?_
  refine own_s s₁ (mkF m 1 #[rv a1, iv 1, .val .null, rv a5, rv a5, rv a6, u_] [(.ref a1)]) (fun _ k => XS.aloadN X0.here hx rfl (hb hby od_prog_100_m_4_0) rfl rfl k) ?_
  obtain ⟨v1, T1, L1, X1, hQ1, st1⟩ := own_callS X0 hx hZ (y := own_y7) (W := 0) hown (own_h hw 62 rfl) (own_h hw 63 rfl) (own_h hw 2 rfl) (own_h hw 64 rfl) (by decide) (own_rmisnE l Z a0 hw [] a1 kd [v0, v1, v2, v3, v4, v5, v6, v7, v8, v9, v10, v11, v12] z h0 n0 Z0 pr1 hm) (by decide) (by decide) (g := (mkF m 1 #[rv a1, iv 1, .val .null, rv a5, rv a5, rv a6, u_] [(.ref a1)])) rfl (by rw [hml]; rfl) (argsL := [(.ref a1)]) (rest := []) rfl (lenOf own_pd5 rfl) rfl (by show 2 * 0 + _ ≤ _; exact Nat.le_of_eq rfl) (hb hby od_prog_100_m_4_1) e0 (by decide) (by decide)
  obtain ⟨rfl, Nq1, e1⟩ := hQ1
  have N1 := Fr.app N0 Nq1
  refine own_s T1 (mkF m 4 #[rv a1, iv 1, .val .null, rv a5, rv a5, rv a6, u_] [(.int 0)]) st1 ?_
  refine own_s T1 (mkF m 41 #[rv a1, iv 1, .val .null, rv a5, rv a5, rv a6, iv 2] [(.int 4), (.int 2)]) (fun _ k => XS.ifYes X1.here hx rfl (pc0 := 4) (pc' := 11) rfl (hb hby od_prog_100_m_4_4) rfl ((if0 _ _).trans (teq (by decide : ((0 : Int32) = (0 : Int32)))).1) (by decide) (by decide) (XS.iconst X1.here hx rfl (hb hby od_prog_100_m_4_11) (XS.istore X1.here hx rfl (hb hby od_prog_100_m_4_12) rfl (l' := #[rv a1, iv 1, .val .null, rv a5, rv a5, rv a6, iv 2]) rfl (XS.iload X1.here hx rfl (hb hby od_prog_100_m_4_14) rfl  (XS.iconst X1.here hx rfl (hb hby od_prog_100_m_4_16) (XS.icmpYes X1.here hx rfl (pc0 := 17) (pc' := 38) rfl (hb hby od_prog_100_m_4_17) rfl (feq (by decide : ¬ ((2 : Int32) = (4 : Int32)))).2 (by decide) (by decide) (XS.iload X1.here hx rfl (hb hby od_prog_100_m_4_38) rfl  (XS.iconst X1.here hx rfl (hb hby od_prog_100_m_4_40) k)))))))) ?_
  refine own_s T1 (mkF m 51 #[rv a1, iv 1, .val .null, rv a5, rv a5, rv a6, iv 2] [(.ref a5), (.ref a5)]) (fun _ k => XS.icmpNo X1.here hx rfl (hb hby od_prog_100_m_4_41) rfl (feq (by decide : ¬ ((2 : Int32) = (4 : Int32)))).1 (XS.aloadN X1.here hx rfl (hb hby od_prog_100_m_4_44) rfl rfl (XS.ifnonnullNo X1.here hx rfl (hb hby od_prog_100_m_4_45) rfl (XS.aloadN X1.here hx rfl (hb hby od_prog_100_m_4_48) rfl rfl (XS.aload X1.here hx rfl (hb hby od_prog_100_m_4_49) rfl rfl k))))) ?_
  obtain ⟨v2, T2, L2, X2, hQ2, st2⟩ := own_callV X1 hx hZ (y := own_y6) (z := own_y6) (W := 0) (a := a5) hown (own_h hw 107 rfl) (own_h hw 108 rfl) (notFace_of_selects (args := #[]) (mvT hZ (own_h hw 110 rfl))) (own_h hw 110 rfl) (own_h hw 109 rfl) (own_h hw 9 rfl) (own_h hw 111 rfl) (by decide) (own_rmeqS l Z a0 hw [] a5 h0 n0 Z0) (by decide) (by decide) pr3 (g := (mkF m 51 #[rv a1, iv 1, .val .null, rv a5, rv a5, rv a6, iv 2] [(.ref a5), (.ref a5)])) rfl (by rw [hml]; rfl) (argsL := [(.ref a5)]) (rest := []) rfl (lenOf own_pd8 rfl) rfl (by show 2 * 0 + _ ≤ _; exact Nat.le_of_eq rfl) (hb hby od_prog_100_m_4_51) e1 (by decide) (by decide)
  obtain ⟨rfl, Nq2, e2⟩ := hQ2
  have N2 := Fr.app N1 Nq2
  refine own_s T2 (mkF m 54 #[rv a1, iv 1, .val .null, rv a5, rv a5, rv a6, iv 2] [(.int 1)]) st2 ?_
  refine own_s T2 (mkF m 66 #[rv a1, iv 1, .val .null, rv a5, rv a5, rv a6, iv 2] [(.ref a5), (.int 2), (.ref a1)]) (fun _ k => XS.ifNo X2.here hx rfl (hb hby od_prog_100_m_4_54) rfl ((if0 _ _).trans (feq (by decide : ¬ ((1 : Int32) = (0 : Int32)))).1) (XS.aloadN X2.here hx rfl (hb hby od_prog_100_m_4_57) rfl rfl (XS.iloadN X2.here hx rfl (hb hby od_prog_100_m_4_58) rfl  (XS.iload X2.here hx rfl (hb hby od_prog_100_m_4_59) rfl  (XS.imul X2.here hx rfl (hb hby od_prog_100_m_4_61) rfl (XS.iconst X2.here hx rfl (hb hby od_prog_100_m_4_62) (XS.iadd X2.here hx rfl (hb hby od_prog_100_m_4_63) rfl (XS.aload X2.here hx rfl (hb hby od_prog_100_m_4_64) rfl rfl k)))))))) ?_
  obtain ⟨cl3, Ar3, q3, S3, Nn3, H3, G3⟩ := id pr1
  have hin3 : ¬ ((2 : Int32) < 0 ∨ cl3.slots.size ≤ ((2 : Int32)).toNatClampNeg) := (inb_of S3 ⟨by decide, hz2⟩)
  obtain ⟨T3, h3, X3, e3, W3, st3⟩ := stR X2 hx hZ e2 Ar3 (j := (2 : Int32)) hin3 rfl (Sto.ofV Ar3 q3 pr2 (Ins.self pr3)) (g := (mkF m 66 #[rv a1, iv 1, .val .null, rv a5, rv a5, rv a6, iv 2] [(.ref a5), (.int 2), (.ref a1)])) rfl rfl (hb hby od_prog_100_m_4_66)
  have f3 : Arv Z h3 a1 kd (.object "java/lang/String") z [v0, v1, (.ref a5), v3, v4, v5, v6, v7, v8, v9, v10, v11, v12] .null := Arv.set Ar3 q3 S3 Nn3 H3 G3 rfl W3 2 rfl (Nat.le_of_ble_eq_true rfl)
  have f4 := Exa.wr W3 pr3
  have f5 := Exa.wr W3 pr4
  have K3 : Keep h0 h3 [a1] := (Keep.refl h0 [a1]).wr W3 (Or.inl (List.mem_of_getElem? (i := 0) rfl))
  have Z3 := Nat.le_trans Z0 (Nat.le_of_eq W3.size.symm)
  have N3 := Fr.snoc X3 N2 g_a1
  refine own_s T3 (mkF m 67 #[rv a1, iv 1, .val .null, rv a5, rv a5, rv a6, iv 2] []) st3 ?_
  refine own_s T3 (mkF m 76 #[rv a1, iv 1, .val .null, rv a5, rv a5, rv a6, iv 2] [(.ref a6), (.int 3), (.ref a1)]) (fun _ k => XS.aloadN X3.here hx rfl (hb hby od_prog_100_m_4_67) rfl rfl (XS.iloadN X3.here hx rfl (hb hby od_prog_100_m_4_68) rfl  (XS.iload X3.here hx rfl (hb hby od_prog_100_m_4_69) rfl  (XS.imul X3.here hx rfl (hb hby od_prog_100_m_4_71) rfl (XS.iconst X3.here hx rfl (hb hby od_prog_100_m_4_72) (XS.iadd X3.here hx rfl (hb hby od_prog_100_m_4_73) rfl (XS.aload X3.here hx rfl (hb hby od_prog_100_m_4_74) rfl rfl k))))))) ?_
  obtain ⟨cl6, Ar6, q6, S6, Nn6, H6, G6⟩ := id f3
  have hin6 : ¬ ((3 : Int32) < 0 ∨ cl6.slots.size ≤ ((3 : Int32)).toNatClampNeg) := (inb_of S6 ⟨by decide, hz3⟩)
  obtain ⟨T6, h6, X6, e6, W6, st6⟩ := stR X3 hx hZ e3 Ar6 (j := (3 : Int32)) hin6 rfl (Sto.ofV Ar6 q6 pr2 (Ins.self f5)) (g := (mkF m 76 #[rv a1, iv 1, .val .null, rv a5, rv a5, rv a6, iv 2] [(.ref a6), (.int 3), (.ref a1)])) rfl rfl (hb hby od_prog_100_m_4_76)
  have f6 : Arv Z h6 a1 kd (.object "java/lang/String") z [v0, v1, (.ref a5), (.ref a6), v4, v5, v6, v7, v8, v9, v10, v11, v12] .null := Arv.set Ar6 q6 S6 Nn6 H6 G6 rfl W6 3 rfl (Nat.le_of_ble_eq_true rfl)
  have f7 := Exa.wr W6 f4
  have f8 := Exa.wr W6 f5
  have K6 : Keep h0 h6 [a1] := K3.wr W6 (Or.inl (List.mem_of_getElem? (i := 0) rfl))
  have Z6 := Nat.le_trans Z3 (Nat.le_of_eq W6.size.symm)
  have N6 := Fr.snoc X6 N3 g_a1
  refine own_s T6 (mkF m 77 #[rv a1, iv 1, .val .null, rv a5, rv a5, rv a6, iv 2] []) st6 ?_
  refine own_s T6 (mkF m 95 #[rv a1, iv 1, .val .null, rv a5, rv a5, rv a6, iv 2] []) (fun _ k => XS.goto X6.here hx rfl (pc0 := 77) (pc' := 95) rfl (hb hby od_prog_100_m_4_77) (by decide) (by decide) k) ?_
  exact own_finV X6 hx hret (hb hby od_prog_100_m_4_95) (own_end (Qv := (own_Qpa1_0 Z a1 a5 a6 kd z v0 v1 v2 v3 v4 v5 v6 v7 v8 v9 v10 v11 v12 h0 n0)) X6 (fun _ => rfl) hlk (by decide) (by decide) e6 ⟨rfl, N6, K6, f6⟩)
theorem own_efput1_0 (m : MethodId) (x0 : Addr) (x1 : Int32) (x2 : Int32) (x3 : Int32) (x4 : Int32) (x5 : Int32) (x6 : Int32) : entryFrame m #[(.ref x0), (.int x1), (.int x2), (.int x3), (.int x4), (.int x5), (.int x6)] 11 = mkF m 0 #[rv x0, iv x1, iv x2, iv x3, iv x4, iv x5, iv x6, u_, u_, u_, u_] [] := by first | (simp [entryFrame, mkF, argsToLocals, Value.category]; done) | rfl
def own_Qput1_0 (Z : State) (a1 : Addr) (p4 : Int32) (p5 : Int32) (p6 : Int32) (p7 : Int32) (kd : ClassId) (z : Int32) (v0 : Value) (v1 : Value) (v2 : Value) (v3 : Value) (v4 : Value) (v5 : Value) (v6 : Value) (v7 : Value) (v8 : Value) (v9 : Value) (v10 : Value) (v11 : Value) (v12 : Value) (gC : Int32) (h0 : Heap) (n0 : Nat) : Option Value → Heap → List Loc → Prop := fun v h L => ∃ (sn : Addr) (bn : Addr) (kn : ClassId) (sv : Addr) (bv : Addr) (kv : ClassId), v = none ∧ Fr n0 L ∧ Keep h0 h [a1] ∧ n0 ≤ sn ∧ h0.size ≤ sn ∧ n0 ≤ bn ∧ h0.size ≤ bn ∧ n0 ≤ sv ∧ h0.size ≤ sv ∧ n0 ≤ bv ∧ h0.size ≤ bv ∧ Arv Z h a1 kd (.object "java/lang/String") z [v0, v1, (.ref sn), (.ref sv), v4, v5, v6, v7, v8, v9, v10, v11, v12] .null ∧ Exa Z h sn "java/lang/String" ∧ Fld Z h sn "java/lang/String" "coder" "B" (.int 0) ∧ Fld Z h sn "java/lang/String" "value" "[B" (.ref bn) ∧ Arv Z h bn kn .byte (1 : Int32) [(.int (own_by (own_chr p4 (1 : Int32))))] (.int 0) ∧ Exa Z h sv "java/lang/String" ∧ Fld Z h sv "java/lang/String" "coder" "B" (.int 0) ∧ Fld Z h sv "java/lang/String" "value" "[B" (.ref bv) ∧ Arv Z h bv kv .byte (1 : Int32) [(.int (own_by (own_chr p5 (1 : Int32))))] (.int 0)
def own_Rput1_0 : Room := { frames := 4, cells := 4, slots := 10, locals := 52 }
set_option maxRecDepth 65536 in
set_option maxHeartbeats 40000000 in
theorem own_rmput1_0 (l : Launch) (Z : State) (a0 : Array Value) (hw : ∀ d ∈ tables_1, d.before a0 Z = true) (ws : List Jvm.Cond) (a1 : Addr) (p4 : Int32) (p5 : Int32) (p6 : Int32) (p7 : Int32) (kd : ClassId) (z : Int32) (v0 : Value) (v1 : Value) (v2 : Value) (v3 : Value) (v4 : Value) (v5 : Value) (v6 : Value) (v7 : Value) (v8 : Value) (v9 : Value) (v10 : Value) (v11 : Value) (v12 : Value) (gC : Int32) (h0 : Heap) (n0 : Nat) (Z0 : n0 ≤ h0.size) (g_a1 : n0 ≤ a1) (pr1 : Arv Z h0 a1 kd (.object "java/lang/String") z [v0, v1, v2, v3, v4, v5, v6, v7, v8, v9, v10, v11, v12] .null) (pr2 : Ovr Z kd "java/lang/String") (pr3 : Sta Z h0 "java/lang/String" "COMPACT_STRINGS" "Z" (.int gC)) (hG : ¬ gC = (0 : Int32)) (hm : ¬ z % (2 : Int32) = (1 : Int32)) (hz2 : (2 : Int32) < z) (hz3 : (3 : Int32) < z) :
    own_Met l Z own_y10 method_4_code 11 none ws own_Rput1_0 h0 #[(.ref a1), (.int 1), (.int 0), (.int p4), (.int p5), (.int p6), (.int p7)] (own_Qput1_0 Z a1 p4 p5 p6 p7 kd z v0 v1 v2 v3 v4 v5 v6 v7 v8 v9 v10 v11 v12 gC h0 n0) own_Rput1_0.cells own_Rput1_0.slots := by
  refine own_start (plainFor_of_name own_pn2) ?_
  intro p e s m below meth c s₁ X0 hx hZ hby hml hret hlk hown hnm e0
  have hown : s.vm.findClass "com/example/tagwright/tagwright/XmlElementNewAttributesPinLaw" = some m.cls := hown
  have hml : c.maxLocals = 11 := hml
  have N0 := Fr.nil n0
  refine own_cast (own_efput1_0 m a1 (1 : Int32) (0 : Int32) p4 p5 p6 p7) ?_
  refine own_s s₁ (mkF m 2 #[rv a1, iv 1, iv 0, iv p4, iv p5, iv p6, iv p7, u_, u_, u_, u_] [(.int 1), (.int p4)]) (fun _ k => XS.iloadN X0.here hx rfl (hb hby od_m_4_0) rfl  (XS.iloadN X0.here hx rfl (hb hby od_m_4_1) rfl  k)) ?_
  obtain ⟨v1, T1, L1, X1, hQ1, st1⟩ := own_callS X0 hx hZ (y := own_y4) (W := 0) hown (own_h hw 82 rfl) (own_h hw 83 rfl) (own_h hw 80 rfl) (own_h hw 84 rfl) (by decide) (own_rmstr l Z a0 hw [] p4 (1 : Int32) gC h0 n0 Z0 pr3 hG) (by decide) (by decide) (g := (mkF m 2 #[rv a1, iv 1, iv 0, iv p4, iv p5, iv p6, iv p7, u_, u_, u_, u_] [(.int 1), (.int p4)])) rfl (by rw [hml]; rfl) (argsL := [(.int p4), (.int 1)]) (rest := []) rfl (lenOf own_pd6 rfl) rfl (by show 2 * 0 + _ ≤ _; exact Nat.le_of_eq rfl) (hb hby od_m_4_2) e0 (by decide) (by decide)
  obtain ⟨za1, zb1, zk1, rfl, Nq1, Kq1, g_za1, sq_za1, g_zb1, sq_zb1, q1_0, q1_1, q1_2, q1_3⟩ := hQ1
  have N1 := Fr.app N0 Nq1
  have sz_za1 : h0.size ≤ za1 := Nat.le_trans (Keep.refl h0 [a1]).1 sq_za1
  have sz_zb1 : h0.size ≤ zb1 := Nat.le_trans (Keep.refl h0 [a1]).1 sq_zb1
  have f2 := pr1.keep Kq1 nin0
  have f3 := own_staKeep pr3 Kq1
  have K1 : Keep h0 T1.heap [a1] := (Keep.refl h0 [a1]).trans Kq1 all0
  have Z1 := Nat.le_trans Z0 Kq1.1
  refine own_s T1 (mkF m 5 #[rv a1, iv 1, iv 0, iv p4, iv p5, iv p6, iv p7, u_, u_, u_, u_] [(.ref za1)]) st1 ?_
  refine own_s T1 (mkF m 10 #[rv a1, iv 1, iv 0, iv p4, iv p5, iv p6, iv p7, rv za1, u_, u_, u_] [(.int 1), (.int p5)]) (fun _ k => XS.astore X1.here hx rfl (hb hby od_m_4_5) rfl rfl (l' := #[rv a1, iv 1, iv 0, iv p4, iv p5, iv p6, iv p7, rv za1, u_, u_, u_]) rfl (XS.iload X1.here hx rfl (hb hby od_m_4_7) rfl  (XS.iloadN X1.here hx rfl (hb hby od_m_4_9) rfl  k))) ?_
  obtain ⟨v4, T4, L4, X4, hQ4, st4⟩ := own_callS X1 hx hZ (y := own_y4) (W := 0) hown (own_h hw 82 rfl) (own_h hw 83 rfl) (own_h hw 80 rfl) (own_h hw 84 rfl) (by decide) (own_rmstr l Z a0 hw [] p5 (1 : Int32) gC T1.heap n0 Z1 f3 hG) (by decide) (by decide) (g := (mkF m 10 #[rv a1, iv 1, iv 0, iv p4, iv p5, iv p6, iv p7, rv za1, u_, u_, u_] [(.int 1), (.int p5)])) rfl (by rw [hml]; rfl) (argsL := [(.int p5), (.int 1)]) (rest := []) rfl (lenOf own_pd6 rfl) rfl (by show 2 * 0 + _ ≤ _; exact Nat.le_of_eq rfl) (hb hby od_m_4_10) rfl (by decide) (by decide)
  obtain ⟨za4, zb4, zk4, rfl, Nq4, Kq4, g_za4, sq_za4, g_zb4, sq_zb4, q4_0, q4_1, q4_2, q4_3⟩ := hQ4
  have N4 := Fr.app N1 Nq4
  have sz_za4 : h0.size ≤ za4 := Nat.le_trans K1.1 sq_za4
  have sz_zb4 : h0.size ≤ zb4 := Nat.le_trans K1.1 sq_zb4
  have f5 := f2.keep Kq4 nin0
  have f6 := own_staKeep f3 Kq4
  have f7 := q1_0.keep Kq4
  have f8 := q1_1.keep Kq4 nin0
  have f9 := q1_2.keep Kq4 nin0
  have f10 := q1_3.keep Kq4 nin0
  have K4 : Keep h0 T4.heap [a1] := K1.trans Kq4 all0
  have Z4 := Nat.le_trans Z1 Kq4.1
  refine own_s T4 (mkF m 13 #[rv a1, iv 1, iv 0, iv p4, iv p5, iv p6, iv p7, rv za1, u_, u_, u_] [(.ref za4)]) st4 ?_
  refine own_s T4 (mkF m 46 #[rv a1, iv 1, iv 0, iv p4, iv p5, iv p6, iv p7, rv za1, rv za4, .val .null, u_] [(.ref za1)]) (fun _ k => XS.astore X4.here hx rfl (hb hby od_m_4_13) rfl rfl (l' := #[rv a1, iv 1, iv 0, iv p4, iv p5, iv p6, iv p7, rv za1, rv za4, u_, u_]) rfl (XS.iloadN X4.here hx rfl (hb hby od_m_4_15) rfl  (XS.ifYes X4.here hx rfl (pc0 := 16) (pc' := 28) rfl (hb hby od_m_4_16) rfl ((if0 _ _).trans (teq (by decide : ((0 : Int32) = (0 : Int32)))).1) (by decide) (by decide) (XS.aconstNull X4.here hx rfl (hb hby od_m_4_28) (XS.astore X4.here hx rfl (hb hby od_m_4_29) rfl rfl (l' := #[rv a1, iv 1, iv 0, iv p4, iv p5, iv p6, iv p7, rv za1, rv za4, .val .null, u_]) rfl (XS.iloadN X4.here hx rfl (hb hby od_m_4_31) rfl  (XS.ifYes X4.here hx rfl (pc0 := 32) (pc' := 44) rfl (hb hby od_m_4_32) rfl ((if0 _ _).trans (teq (by decide : ((0 : Int32) = (0 : Int32)))).1) (by decide) (by decide) (XS.aload X4.here hx rfl (hb hby od_m_4_44) rfl rfl k)))))))) ?_
  refine own_s T4 (mkF m 58 #[rv a1, iv 1, iv 0, iv p4, iv p5, iv p6, iv p7, rv za1, rv za4, .val .null, rv za1] [(.ref za4), (.ref za1), (.ref za1), .null, (.int 1), (.ref a1)]) (fun _ k => XS.astore X4.here hx rfl (hb hby od_m_4_46) rfl rfl (l' := #[rv a1, iv 1, iv 0, iv p4, iv p5, iv p6, iv p7, rv za1, rv za4, .val .null, rv za1]) rfl (XS.aloadN X4.here hx rfl (hb hby od_m_4_48) rfl rfl (XS.iloadN X4.here hx rfl (hb hby od_m_4_49) rfl  (XS.aload X4.here hx rfl (hb hby od_m_4_50) rfl rfl (XS.aload X4.here hx rfl (hb hby od_m_4_52) rfl rfl (XS.aload X4.here hx rfl (hb hby od_m_4_54) rfl rfl (XS.aload X4.here hx rfl (hb hby od_m_4_56) rfl rfl k))))))) ?_
  obtain ⟨v11, T11, L11, X11, hQ11, st11⟩ := own_callS X4 hx hZ (y := own_y9) (W := 0) hown (own_h hw 104 rfl) (own_h hw 105 rfl) (own_h hw 2 rfl) (own_h hw 106 rfl) (by decide) (own_rmpa1_0 l Z a0 hw [] a1 za1 za4 kd z v0 v1 v2 v3 v4 v5 v6 v7 v8 v9 v10 v11 v12 T4.heap n0 Z4 g_a1 f5 pr2 f7 q4_0 hm hz2 hz3) (by decide) (by decide) (g := (mkF m 58 #[rv a1, iv 1, iv 0, iv p4, iv p5, iv p6, iv p7, rv za1, rv za4, .val .null, rv za1] [(.ref za4), (.ref za1), (.ref za1), .null, (.int 1), (.ref a1)])) rfl (by rw [hml]; rfl) (argsL := [(.ref a1), (.int 1), .null, (.ref za1), (.ref za1), (.ref za4)]) (rest := []) rfl (lenOf own_pd7 rfl) rfl (by show 2 * 0 + _ ≤ _; exact Nat.le_of_eq rfl) (hb hby od_m_4_58) rfl (by decide) (by decide)
  obtain ⟨rfl, Nq11, Kq11, q11_0⟩ := hQ11
  have N11 := Fr.app N4 Nq11
  have f12 := own_staKeepW f6 Kq11 (allS f5.nostat all0)
  have f13 := f7.keep Kq11
  have f14 := f8.keep Kq11 (ninS (Ne.symm (own_nl pr1.lt sq_za1)) nin0)
  have f15 := f9.keep Kq11 (ninS (Ne.symm (own_nl pr1.lt sq_za1)) nin0)
  have f16 := f10.keep Kq11 (ninS (Ne.symm (own_nl pr1.lt sq_zb1)) nin0)
  have f17 := q4_0.keep Kq11
  have f18 := q4_1.keep Kq11 (ninS (Ne.symm (own_nl f2.lt sq_za4)) nin0)
  have f19 := q4_2.keep Kq11 (ninS (Ne.symm (own_nl f2.lt sq_za4)) nin0)
  have f20 := q4_3.keep Kq11 (ninS (Ne.symm (own_nl f2.lt sq_zb4)) nin0)
  have K11 : Keep h0 T11.heap [a1] := K4.trans Kq11 (allS (Or.inl (List.mem_of_getElem? (i := 0) rfl)) all0)
  have Z11 := Nat.le_trans Z4 Kq11.1
  refine own_s T11 (mkF m 61 #[rv a1, iv 1, iv 0, iv p4, iv p5, iv p6, iv p7, rv za1, rv za4, .val .null, rv za1] []) st11 ?_
  exact own_finV X11 hx hret (hb hby od_m_4_61) (own_end (Qv := (own_Qput1_0 Z a1 p4 p5 p6 p7 kd z v0 v1 v2 v3 v4 v5 v6 v7 v8 v9 v10 v11 v12 gC h0 n0)) X11 (fun _ => rfl) hlk (by decide) (by decide) rfl ⟨za1, zb1, zk1, za4, zb4, zk4, rfl, N11, K11, g_za1, sz_za1, g_zb1, sz_zb1, g_za4, sz_za4, g_zb4, sz_zb4, q11_0, f13, f14, f15, f16, f17, f18, f19, f20⟩)
theorem own_efpa2_0 (m : MethodId) (x0 : Addr) (x1 : Int32) (x3 : Addr) (x4 : Addr) (x5 : Addr) : entryFrame m #[(.ref x0), (.int x1), .null, (.ref x3), (.ref x4), (.ref x5)] 7 = mkF m 0 #[rv x0, iv x1, .val .null, rv x3, rv x4, rv x5, u_] [] := by first | (simp [entryFrame, mkF, argsToLocals, Value.category]; done) | rfl
def own_Qpa2_0 (Z : State) (a1 : Addr) (a5 : Addr) (a6 : Addr) (kd : ClassId) (z : Int32) (v0 : Value) (v1 : Value) (v2 : Value) (v3 : Value) (v4 : Value) (v5 : Value) (v6 : Value) (v7 : Value) (v8 : Value) (v9 : Value) (v10 : Value) (v11 : Value) (v12 : Value) (h0 : Heap) (n0 : Nat) : Option Value → Heap → List Loc → Prop := fun v h L => v = none ∧ Fr n0 L ∧ Keep h0 h [a1] ∧ Arv Z h a1 kd (.object "java/lang/String") z [v0, v1, v2, v3, (.ref a5), (.ref a6), v6, v7, v8, v9, v10, v11, v12] .null
def own_Rpa2_0 : Room := { frames := 1, cells := 0, slots := 0, locals := 14 }
set_option maxRecDepth 65536 in
set_option maxHeartbeats 40000000 in
theorem own_rmpa2_0 (l : Launch) (Z : State) (a0 : Array Value) (hw : ∀ d ∈ tables_1, d.before a0 Z = true) (ws : List Jvm.Cond) (a1 : Addr) (a5 : Addr) (a6 : Addr) (kd : ClassId) (z : Int32) (v0 : Value) (v1 : Value) (v2 : Value) (v3 : Value) (v4 : Value) (v5 : Value) (v6 : Value) (v7 : Value) (v8 : Value) (v9 : Value) (v10 : Value) (v11 : Value) (v12 : Value) (h0 : Heap) (n0 : Nat) (Z0 : n0 ≤ h0.size) (g_a1 : n0 ≤ a1) (pr1 : Arv Z h0 a1 kd (.object "java/lang/String") z [v0, v1, v2, v3, v4, v5, v6, v7, v8, v9, v10, v11, v12] .null) (pr2 : Ovr Z kd "java/lang/String") (pr3 : Exa Z h0 a5 "java/lang/String") (pr4 : Exa Z h0 a6 "java/lang/String") (hm : ¬ z % (2 : Int32) = (1 : Int32)) (hz4 : (4 : Int32) < z) (hz5 : (5 : Int32) < z) :
    own_Met l Z own_y9 prog_100_method_4_code 7 none ws own_Rpa2_0 h0 #[(.ref a1), (.int 2), .null, (.ref a5), (.ref a5), (.ref a6)] (own_Qpa2_0 Z a1 a5 a6 kd z v0 v1 v2 v3 v4 v5 v6 v7 v8 v9 v10 v11 v12 h0 n0) own_Rpa2_0.cells own_Rpa2_0.slots := by
  refine own_start (plainFor_of_name own_pn3) ?_
  intro p e s m below meth c s₁ X0 hx hZ hby hml hret hlk hown hnm e0
  have hown : s.vm.findClass "com/example/tagwright/tagwright/XmlElement" = some m.cls := hown
  have hml : c.maxLocals = 7 := hml
  have N0 := Fr.nil n0
  refine own_cast (own_efpa2_0 m a1 (2 : Int32) a5 a5 a6) ?_
  refine own_s s₁ (mkF m 1 #[rv a1, iv 2, .val .null, rv a5, rv a5, rv a6, u_] [(.ref a1)]) (fun _ k => XS.aloadN X0.here hx rfl (hb hby od_prog_100_m_4_0) rfl rfl k) ?_
  obtain ⟨v1, T1, L1, X1, hQ1, st1⟩ := own_callS X0 hx hZ (y := own_y7) (W := 0) hown (own_h hw 62 rfl) (own_h hw 63 rfl) (own_h hw 2 rfl) (own_h hw 64 rfl) (by decide) (own_rmisnE l Z a0 hw [] a1 kd [v0, v1, v2, v3, v4, v5, v6, v7, v8, v9, v10, v11, v12] z h0 n0 Z0 pr1 hm) (by decide) (by decide) (g := (mkF m 1 #[rv a1, iv 2, .val .null, rv a5, rv a5, rv a6, u_] [(.ref a1)])) rfl (by rw [hml]; rfl) (argsL := [(.ref a1)]) (rest := []) rfl (lenOf own_pd5 rfl) rfl (by show 2 * 0 + _ ≤ _; exact Nat.le_of_eq rfl) (hb hby od_prog_100_m_4_1) e0 (by decide) (by decide)
  obtain ⟨rfl, Nq1, e1⟩ := hQ1
  have N1 := Fr.app N0 Nq1
  refine own_s T1 (mkF m 4 #[rv a1, iv 2, .val .null, rv a5, rv a5, rv a6, u_] [(.int 0)]) st1 ?_
  refine own_s T1 (mkF m 41 #[rv a1, iv 2, .val .null, rv a5, rv a5, rv a6, iv 2] [(.int 4), (.int 2)]) (fun _ k => XS.ifYes X1.here hx rfl (pc0 := 4) (pc' := 11) rfl (hb hby od_prog_100_m_4_4) rfl ((if0 _ _).trans (teq (by decide : ((0 : Int32) = (0 : Int32)))).1) (by decide) (by decide) (XS.iconst X1.here hx rfl (hb hby od_prog_100_m_4_11) (XS.istore X1.here hx rfl (hb hby od_prog_100_m_4_12) rfl (l' := #[rv a1, iv 2, .val .null, rv a5, rv a5, rv a6, iv 2]) rfl (XS.iload X1.here hx rfl (hb hby od_prog_100_m_4_14) rfl  (XS.iconst X1.here hx rfl (hb hby od_prog_100_m_4_16) (XS.icmpYes X1.here hx rfl (pc0 := 17) (pc' := 38) rfl (hb hby od_prog_100_m_4_17) rfl (feq (by decide : ¬ ((2 : Int32) = (4 : Int32)))).2 (by decide) (by decide) (XS.iload X1.here hx rfl (hb hby od_prog_100_m_4_38) rfl  (XS.iconst X1.here hx rfl (hb hby od_prog_100_m_4_40) k)))))))) ?_
  refine own_s T1 (mkF m 51 #[rv a1, iv 2, .val .null, rv a5, rv a5, rv a6, iv 2] [(.ref a5), (.ref a5)]) (fun _ k => XS.icmpNo X1.here hx rfl (hb hby od_prog_100_m_4_41) rfl (feq (by decide : ¬ ((2 : Int32) = (4 : Int32)))).1 (XS.aloadN X1.here hx rfl (hb hby od_prog_100_m_4_44) rfl rfl (XS.ifnonnullNo X1.here hx rfl (hb hby od_prog_100_m_4_45) rfl (XS.aloadN X1.here hx rfl (hb hby od_prog_100_m_4_48) rfl rfl (XS.aload X1.here hx rfl (hb hby od_prog_100_m_4_49) rfl rfl k))))) ?_
  obtain ⟨v2, T2, L2, X2, hQ2, st2⟩ := own_callV X1 hx hZ (y := own_y6) (z := own_y6) (W := 0) (a := a5) hown (own_h hw 107 rfl) (own_h hw 108 rfl) (notFace_of_selects (args := #[]) (mvT hZ (own_h hw 110 rfl))) (own_h hw 110 rfl) (own_h hw 109 rfl) (own_h hw 9 rfl) (own_h hw 111 rfl) (by decide) (own_rmeqS l Z a0 hw [] a5 h0 n0 Z0) (by decide) (by decide) pr3 (g := (mkF m 51 #[rv a1, iv 2, .val .null, rv a5, rv a5, rv a6, iv 2] [(.ref a5), (.ref a5)])) rfl (by rw [hml]; rfl) (argsL := [(.ref a5)]) (rest := []) rfl (lenOf own_pd8 rfl) rfl (by show 2 * 0 + _ ≤ _; exact Nat.le_of_eq rfl) (hb hby od_prog_100_m_4_51) e1 (by decide) (by decide)
  obtain ⟨rfl, Nq2, e2⟩ := hQ2
  have N2 := Fr.app N1 Nq2
  refine own_s T2 (mkF m 54 #[rv a1, iv 2, .val .null, rv a5, rv a5, rv a6, iv 2] [(.int 1)]) st2 ?_
  refine own_s T2 (mkF m 66 #[rv a1, iv 2, .val .null, rv a5, rv a5, rv a6, iv 2] [(.ref a5), (.int 4), (.ref a1)]) (fun _ k => XS.ifNo X2.here hx rfl (hb hby od_prog_100_m_4_54) rfl ((if0 _ _).trans (feq (by decide : ¬ ((1 : Int32) = (0 : Int32)))).1) (XS.aloadN X2.here hx rfl (hb hby od_prog_100_m_4_57) rfl rfl (XS.iloadN X2.here hx rfl (hb hby od_prog_100_m_4_58) rfl  (XS.iload X2.here hx rfl (hb hby od_prog_100_m_4_59) rfl  (XS.imul X2.here hx rfl (hb hby od_prog_100_m_4_61) rfl (XS.iconst X2.here hx rfl (hb hby od_prog_100_m_4_62) (XS.iadd X2.here hx rfl (hb hby od_prog_100_m_4_63) rfl (XS.aload X2.here hx rfl (hb hby od_prog_100_m_4_64) rfl rfl k)))))))) ?_
  obtain ⟨cl3, Ar3, q3, S3, Nn3, H3, G3⟩ := id pr1
  have hin3 : ¬ ((4 : Int32) < 0 ∨ cl3.slots.size ≤ ((4 : Int32)).toNatClampNeg) := (inb_of S3 ⟨by decide, hz4⟩)
  obtain ⟨T3, h3, X3, e3, W3, st3⟩ := stR X2 hx hZ e2 Ar3 (j := (4 : Int32)) hin3 rfl (Sto.ofV Ar3 q3 pr2 (Ins.self pr3)) (g := (mkF m 66 #[rv a1, iv 2, .val .null, rv a5, rv a5, rv a6, iv 2] [(.ref a5), (.int 4), (.ref a1)])) rfl rfl (hb hby od_prog_100_m_4_66)
  have f3 : Arv Z h3 a1 kd (.object "java/lang/String") z [v0, v1, v2, v3, (.ref a5), v5, v6, v7, v8, v9, v10, v11, v12] .null := Arv.set Ar3 q3 S3 Nn3 H3 G3 rfl W3 4 rfl (Nat.le_of_ble_eq_true rfl)
  have f4 := Exa.wr W3 pr3
  have f5 := Exa.wr W3 pr4
  have K3 : Keep h0 h3 [a1] := (Keep.refl h0 [a1]).wr W3 (Or.inl (List.mem_of_getElem? (i := 0) rfl))
  have Z3 := Nat.le_trans Z0 (Nat.le_of_eq W3.size.symm)
  have N3 := Fr.snoc X3 N2 g_a1
  refine own_s T3 (mkF m 67 #[rv a1, iv 2, .val .null, rv a5, rv a5, rv a6, iv 2] []) st3 ?_
  refine own_s T3 (mkF m 76 #[rv a1, iv 2, .val .null, rv a5, rv a5, rv a6, iv 2] [(.ref a6), (.int 5), (.ref a1)]) (fun _ k => XS.aloadN X3.here hx rfl (hb hby od_prog_100_m_4_67) rfl rfl (XS.iloadN X3.here hx rfl (hb hby od_prog_100_m_4_68) rfl  (XS.iload X3.here hx rfl (hb hby od_prog_100_m_4_69) rfl  (XS.imul X3.here hx rfl (hb hby od_prog_100_m_4_71) rfl (XS.iconst X3.here hx rfl (hb hby od_prog_100_m_4_72) (XS.iadd X3.here hx rfl (hb hby od_prog_100_m_4_73) rfl (XS.aload X3.here hx rfl (hb hby od_prog_100_m_4_74) rfl rfl k))))))) ?_
  obtain ⟨cl6, Ar6, q6, S6, Nn6, H6, G6⟩ := id f3
  have hin6 : ¬ ((5 : Int32) < 0 ∨ cl6.slots.size ≤ ((5 : Int32)).toNatClampNeg) := (inb_of S6 ⟨by decide, hz5⟩)
  obtain ⟨T6, h6, X6, e6, W6, st6⟩ := stR X3 hx hZ e3 Ar6 (j := (5 : Int32)) hin6 rfl (Sto.ofV Ar6 q6 pr2 (Ins.self f5)) (g := (mkF m 76 #[rv a1, iv 2, .val .null, rv a5, rv a5, rv a6, iv 2] [(.ref a6), (.int 5), (.ref a1)])) rfl rfl (hb hby od_prog_100_m_4_76)
  have f6 : Arv Z h6 a1 kd (.object "java/lang/String") z [v0, v1, v2, v3, (.ref a5), (.ref a6), v6, v7, v8, v9, v10, v11, v12] .null := Arv.set Ar6 q6 S6 Nn6 H6 G6 rfl W6 5 rfl (Nat.le_of_ble_eq_true rfl)
  have f7 := Exa.wr W6 f4
  have f8 := Exa.wr W6 f5
  have K6 : Keep h0 h6 [a1] := K3.wr W6 (Or.inl (List.mem_of_getElem? (i := 0) rfl))
  have Z6 := Nat.le_trans Z3 (Nat.le_of_eq W6.size.symm)
  have N6 := Fr.snoc X6 N3 g_a1
  refine own_s T6 (mkF m 77 #[rv a1, iv 2, .val .null, rv a5, rv a5, rv a6, iv 2] []) st6 ?_
  refine own_s T6 (mkF m 95 #[rv a1, iv 2, .val .null, rv a5, rv a5, rv a6, iv 2] []) (fun _ k => XS.goto X6.here hx rfl (pc0 := 77) (pc' := 95) rfl (hb hby od_prog_100_m_4_77) (by decide) (by decide) k) ?_
  exact own_finV X6 hx hret (hb hby od_prog_100_m_4_95) (own_end (Qv := (own_Qpa2_0 Z a1 a5 a6 kd z v0 v1 v2 v3 v4 v5 v6 v7 v8 v9 v10 v11 v12 h0 n0)) X6 (fun _ => rfl) hlk (by decide) (by decide) e6 ⟨rfl, N6, K6, f6⟩)
theorem own_efput2_0 (m : MethodId) (x0 : Addr) (x1 : Int32) (x2 : Int32) (x3 : Int32) (x4 : Int32) (x5 : Int32) (x6 : Int32) : entryFrame m #[(.ref x0), (.int x1), (.int x2), (.int x3), (.int x4), (.int x5), (.int x6)] 11 = mkF m 0 #[rv x0, iv x1, iv x2, iv x3, iv x4, iv x5, iv x6, u_, u_, u_, u_] [] := by first | (simp [entryFrame, mkF, argsToLocals, Value.category]; done) | rfl
def own_Qput2_0 (Z : State) (a1 : Addr) (p4 : Int32) (p5 : Int32) (p6 : Int32) (p7 : Int32) (kd : ClassId) (z : Int32) (v0 : Value) (v1 : Value) (v2 : Value) (v3 : Value) (v4 : Value) (v5 : Value) (v6 : Value) (v7 : Value) (v8 : Value) (v9 : Value) (v10 : Value) (v11 : Value) (v12 : Value) (gC : Int32) (h0 : Heap) (n0 : Nat) : Option Value → Heap → List Loc → Prop := fun v h L => ∃ (sn : Addr) (bn : Addr) (kn : ClassId) (sv : Addr) (bv : Addr) (kv : ClassId), v = none ∧ Fr n0 L ∧ Keep h0 h [a1] ∧ n0 ≤ sn ∧ h0.size ≤ sn ∧ n0 ≤ bn ∧ h0.size ≤ bn ∧ n0 ≤ sv ∧ h0.size ≤ sv ∧ n0 ≤ bv ∧ h0.size ≤ bv ∧ Arv Z h a1 kd (.object "java/lang/String") z [v0, v1, v2, v3, (.ref sn), (.ref sv), v6, v7, v8, v9, v10, v11, v12] .null ∧ Exa Z h sn "java/lang/String" ∧ Fld Z h sn "java/lang/String" "coder" "B" (.int 0) ∧ Fld Z h sn "java/lang/String" "value" "[B" (.ref bn) ∧ Arv Z h bn kn .byte (1 : Int32) [(.int (own_by (own_chr p4 (2 : Int32))))] (.int 0) ∧ Exa Z h sv "java/lang/String" ∧ Fld Z h sv "java/lang/String" "coder" "B" (.int 0) ∧ Fld Z h sv "java/lang/String" "value" "[B" (.ref bv) ∧ Arv Z h bv kv .byte (1 : Int32) [(.int (own_by (own_chr p5 (2 : Int32))))] (.int 0)
def own_Rput2_0 : Room := { frames := 4, cells := 4, slots := 10, locals := 52 }
set_option maxRecDepth 65536 in
set_option maxHeartbeats 40000000 in
theorem own_rmput2_0 (l : Launch) (Z : State) (a0 : Array Value) (hw : ∀ d ∈ tables_1, d.before a0 Z = true) (ws : List Jvm.Cond) (a1 : Addr) (p4 : Int32) (p5 : Int32) (p6 : Int32) (p7 : Int32) (kd : ClassId) (z : Int32) (v0 : Value) (v1 : Value) (v2 : Value) (v3 : Value) (v4 : Value) (v5 : Value) (v6 : Value) (v7 : Value) (v8 : Value) (v9 : Value) (v10 : Value) (v11 : Value) (v12 : Value) (gC : Int32) (h0 : Heap) (n0 : Nat) (Z0 : n0 ≤ h0.size) (g_a1 : n0 ≤ a1) (pr1 : Arv Z h0 a1 kd (.object "java/lang/String") z [v0, v1, v2, v3, v4, v5, v6, v7, v8, v9, v10, v11, v12] .null) (pr2 : Ovr Z kd "java/lang/String") (pr3 : Sta Z h0 "java/lang/String" "COMPACT_STRINGS" "Z" (.int gC)) (hG : ¬ gC = (0 : Int32)) (hm : ¬ z % (2 : Int32) = (1 : Int32)) (hz4 : (4 : Int32) < z) (hz5 : (5 : Int32) < z) :
    own_Met l Z own_y10 method_4_code 11 none ws own_Rput2_0 h0 #[(.ref a1), (.int 2), (.int 0), (.int p4), (.int p5), (.int p6), (.int p7)] (own_Qput2_0 Z a1 p4 p5 p6 p7 kd z v0 v1 v2 v3 v4 v5 v6 v7 v8 v9 v10 v11 v12 gC h0 n0) own_Rput2_0.cells own_Rput2_0.slots := by
  refine own_start (plainFor_of_name own_pn2) ?_
  intro p e s m below meth c s₁ X0 hx hZ hby hml hret hlk hown hnm e0
  have hown : s.vm.findClass "com/example/tagwright/tagwright/XmlElementNewAttributesPinLaw" = some m.cls := hown
  have hml : c.maxLocals = 11 := hml
  have N0 := Fr.nil n0
  refine own_cast (own_efput2_0 m a1 (2 : Int32) (0 : Int32) p4 p5 p6 p7) ?_
  refine own_s s₁ (mkF m 2 #[rv a1, iv 2, iv 0, iv p4, iv p5, iv p6, iv p7, u_, u_, u_, u_] [(.int 2), (.int p4)]) (fun _ k => XS.iloadN X0.here hx rfl (hb hby od_m_4_0) rfl  (XS.iloadN X0.here hx rfl (hb hby od_m_4_1) rfl  k)) ?_
  obtain ⟨v1, T1, L1, X1, hQ1, st1⟩ := own_callS X0 hx hZ (y := own_y4) (W := 0) hown (own_h hw 82 rfl) (own_h hw 83 rfl) (own_h hw 80 rfl) (own_h hw 84 rfl) (by decide) (own_rmstr l Z a0 hw [] p4 (2 : Int32) gC h0 n0 Z0 pr3 hG) (by decide) (by decide) (g := (mkF m 2 #[rv a1, iv 2, iv 0, iv p4, iv p5, iv p6, iv p7, u_, u_, u_, u_] [(.int 2), (.int p4)])) rfl (by rw [hml]; rfl) (argsL := [(.int p4), (.int 2)]) (rest := []) rfl (lenOf own_pd6 rfl) rfl (by show 2 * 0 + _ ≤ _; exact Nat.le_of_eq rfl) (hb hby od_m_4_2) e0 (by decide) (by decide)
  obtain ⟨za1, zb1, zk1, rfl, Nq1, Kq1, g_za1, sq_za1, g_zb1, sq_zb1, q1_0, q1_1, q1_2, q1_3⟩ := hQ1
  have N1 := Fr.app N0 Nq1
  have sz_za1 : h0.size ≤ za1 := Nat.le_trans (Keep.refl h0 [a1]).1 sq_za1
  have sz_zb1 : h0.size ≤ zb1 := Nat.le_trans (Keep.refl h0 [a1]).1 sq_zb1
  have f2 := pr1.keep Kq1 nin0
  have f3 := own_staKeep pr3 Kq1
  have K1 : Keep h0 T1.heap [a1] := (Keep.refl h0 [a1]).trans Kq1 all0
  have Z1 := Nat.le_trans Z0 Kq1.1
  refine own_s T1 (mkF m 5 #[rv a1, iv 2, iv 0, iv p4, iv p5, iv p6, iv p7, u_, u_, u_, u_] [(.ref za1)]) st1 ?_
  refine own_s T1 (mkF m 10 #[rv a1, iv 2, iv 0, iv p4, iv p5, iv p6, iv p7, rv za1, u_, u_, u_] [(.int 2), (.int p5)]) (fun _ k => XS.astore X1.here hx rfl (hb hby od_m_4_5) rfl rfl (l' := #[rv a1, iv 2, iv 0, iv p4, iv p5, iv p6, iv p7, rv za1, u_, u_, u_]) rfl (XS.iload X1.here hx rfl (hb hby od_m_4_7) rfl  (XS.iloadN X1.here hx rfl (hb hby od_m_4_9) rfl  k))) ?_
  obtain ⟨v4, T4, L4, X4, hQ4, st4⟩ := own_callS X1 hx hZ (y := own_y4) (W := 0) hown (own_h hw 82 rfl) (own_h hw 83 rfl) (own_h hw 80 rfl) (own_h hw 84 rfl) (by decide) (own_rmstr l Z a0 hw [] p5 (2 : Int32) gC T1.heap n0 Z1 f3 hG) (by decide) (by decide) (g := (mkF m 10 #[rv a1, iv 2, iv 0, iv p4, iv p5, iv p6, iv p7, rv za1, u_, u_, u_] [(.int 2), (.int p5)])) rfl (by rw [hml]; rfl) (argsL := [(.int p5), (.int 2)]) (rest := []) rfl (lenOf own_pd6 rfl) rfl (by show 2 * 0 + _ ≤ _; exact Nat.le_of_eq rfl) (hb hby od_m_4_10) rfl (by decide) (by decide)
  obtain ⟨za4, zb4, zk4, rfl, Nq4, Kq4, g_za4, sq_za4, g_zb4, sq_zb4, q4_0, q4_1, q4_2, q4_3⟩ := hQ4
  have N4 := Fr.app N1 Nq4
  have sz_za4 : h0.size ≤ za4 := Nat.le_trans K1.1 sq_za4
  have sz_zb4 : h0.size ≤ zb4 := Nat.le_trans K1.1 sq_zb4
  have f5 := f2.keep Kq4 nin0
  have f6 := own_staKeep f3 Kq4
  have f7 := q1_0.keep Kq4
  have f8 := q1_1.keep Kq4 nin0
  have f9 := q1_2.keep Kq4 nin0
  have f10 := q1_3.keep Kq4 nin0
  have K4 : Keep h0 T4.heap [a1] := K1.trans Kq4 all0
  have Z4 := Nat.le_trans Z1 Kq4.1
  refine own_s T4 (mkF m 13 #[rv a1, iv 2, iv 0, iv p4, iv p5, iv p6, iv p7, rv za1, u_, u_, u_] [(.ref za4)]) st4 ?_
  refine own_s T4 (mkF m 46 #[rv a1, iv 2, iv 0, iv p4, iv p5, iv p6, iv p7, rv za1, rv za4, .val .null, u_] [(.ref za1)]) (fun _ k => XS.astore X4.here hx rfl (hb hby od_m_4_13) rfl rfl (l' := #[rv a1, iv 2, iv 0, iv p4, iv p5, iv p6, iv p7, rv za1, rv za4, u_, u_]) rfl (XS.iloadN X4.here hx rfl (hb hby od_m_4_15) rfl  (XS.ifYes X4.here hx rfl (pc0 := 16) (pc' := 28) rfl (hb hby od_m_4_16) rfl ((if0 _ _).trans (teq (by decide : ((0 : Int32) = (0 : Int32)))).1) (by decide) (by decide) (XS.aconstNull X4.here hx rfl (hb hby od_m_4_28) (XS.astore X4.here hx rfl (hb hby od_m_4_29) rfl rfl (l' := #[rv a1, iv 2, iv 0, iv p4, iv p5, iv p6, iv p7, rv za1, rv za4, .val .null, u_]) rfl (XS.iloadN X4.here hx rfl (hb hby od_m_4_31) rfl  (XS.ifYes X4.here hx rfl (pc0 := 32) (pc' := 44) rfl (hb hby od_m_4_32) rfl ((if0 _ _).trans (teq (by decide : ((0 : Int32) = (0 : Int32)))).1) (by decide) (by decide) (XS.aload X4.here hx rfl (hb hby od_m_4_44) rfl rfl k)))))))) ?_
  refine own_s T4 (mkF m 58 #[rv a1, iv 2, iv 0, iv p4, iv p5, iv p6, iv p7, rv za1, rv za4, .val .null, rv za1] [(.ref za4), (.ref za1), (.ref za1), .null, (.int 2), (.ref a1)]) (fun _ k => XS.astore X4.here hx rfl (hb hby od_m_4_46) rfl rfl (l' := #[rv a1, iv 2, iv 0, iv p4, iv p5, iv p6, iv p7, rv za1, rv za4, .val .null, rv za1]) rfl (XS.aloadN X4.here hx rfl (hb hby od_m_4_48) rfl rfl (XS.iloadN X4.here hx rfl (hb hby od_m_4_49) rfl  (XS.aload X4.here hx rfl (hb hby od_m_4_50) rfl rfl (XS.aload X4.here hx rfl (hb hby od_m_4_52) rfl rfl (XS.aload X4.here hx rfl (hb hby od_m_4_54) rfl rfl (XS.aload X4.here hx rfl (hb hby od_m_4_56) rfl rfl k))))))) ?_
  obtain ⟨v11, T11, L11, X11, hQ11, st11⟩ := own_callS X4 hx hZ (y := own_y9) (W := 0) hown (own_h hw 104 rfl) (own_h hw 105 rfl) (own_h hw 2 rfl) (own_h hw 106 rfl) (by decide) (own_rmpa2_0 l Z a0 hw [] a1 za1 za4 kd z v0 v1 v2 v3 v4 v5 v6 v7 v8 v9 v10 v11 v12 T4.heap n0 Z4 g_a1 f5 pr2 f7 q4_0 hm hz4 hz5) (by decide) (by decide) (g := (mkF m 58 #[rv a1, iv 2, iv 0, iv p4, iv p5, iv p6, iv p7, rv za1, rv za4, .val .null, rv za1] [(.ref za4), (.ref za1), (.ref za1), .null, (.int 2), (.ref a1)])) rfl (by rw [hml]; rfl) (argsL := [(.ref a1), (.int 2), .null, (.ref za1), (.ref za1), (.ref za4)]) (rest := []) rfl (lenOf own_pd7 rfl) rfl (by show 2 * 0 + _ ≤ _; exact Nat.le_of_eq rfl) (hb hby od_m_4_58) rfl (by decide) (by decide)
  obtain ⟨rfl, Nq11, Kq11, q11_0⟩ := hQ11
  have N11 := Fr.app N4 Nq11
  have f12 := own_staKeepW f6 Kq11 (allS f5.nostat all0)
  have f13 := f7.keep Kq11
  have f14 := f8.keep Kq11 (ninS (Ne.symm (own_nl pr1.lt sq_za1)) nin0)
  have f15 := f9.keep Kq11 (ninS (Ne.symm (own_nl pr1.lt sq_za1)) nin0)
  have f16 := f10.keep Kq11 (ninS (Ne.symm (own_nl pr1.lt sq_zb1)) nin0)
  have f17 := q4_0.keep Kq11
  have f18 := q4_1.keep Kq11 (ninS (Ne.symm (own_nl f2.lt sq_za4)) nin0)
  have f19 := q4_2.keep Kq11 (ninS (Ne.symm (own_nl f2.lt sq_za4)) nin0)
  have f20 := q4_3.keep Kq11 (ninS (Ne.symm (own_nl f2.lt sq_zb4)) nin0)
  have K11 : Keep h0 T11.heap [a1] := K4.trans Kq11 (allS (Or.inl (List.mem_of_getElem? (i := 0) rfl)) all0)
  have Z11 := Nat.le_trans Z4 Kq11.1
  refine own_s T11 (mkF m 61 #[rv a1, iv 2, iv 0, iv p4, iv p5, iv p6, iv p7, rv za1, rv za4, .val .null, rv za1] []) st11 ?_
  exact own_finV X11 hx hret (hb hby od_m_4_61) (own_end (Qv := (own_Qput2_0 Z a1 p4 p5 p6 p7 kd z v0 v1 v2 v3 v4 v5 v6 v7 v8 v9 v10 v11 v12 gC h0 n0)) X11 (fun _ => rfl) hlk (by decide) (by decide) rfl ⟨za1, zb1, zk1, za4, zb4, zk4, rfl, N11, K11, g_za1, sz_za1, g_zb1, sz_zb1, g_za4, sz_za4, g_zb4, sz_zb4, q11_0, f13, f14, f15, f16, f17, f18, f19, f20⟩)
abbrev own_y11 : MethodName := ⟨"com/example/tagwright/tagwright/XmlElement", "<init>", "(Ljava/lang/String;Ljava/lang/String;Ljava/lang/String;Ljava/util/List;[Ljava/lang/String;Lcom/example/tagwright/tagwright/Location;Lcom/example/tagwright/tagwright/XmlElement;)V"⟩
theorem od_prog_100_m_1_0 : decode prog_100_method_1_code 0 = .ok (.aload_n 0, 1) := by decide +kernel
theorem od_prog_100_m_1_1 : decode prog_100_method_1_code 1 = .ok (.invokespecial 1, 3) := by decide +kernel
theorem od_prog_100_m_1_4 : decode prog_100_method_1_code 4 = .ok (.aload_n 0, 1) := by decide +kernel
theorem od_prog_100_m_1_5 : decode prog_100_method_1_code 5 = .ok (.getstatic 7, 3) := by decide +kernel
theorem od_prog_100_m_1_8 : decode prog_100_method_1_code 8 = .ok (.putfield 13, 3) := by decide +kernel
theorem od_prog_100_m_1_11 : decode prog_100_method_1_code 11 = .ok (.aload_n 0, 1) := by decide +kernel
theorem od_prog_100_m_1_12 : decode prog_100_method_1_code 12 = .ok (.aload_n 1, 1) := by decide +kernel
theorem od_prog_100_m_1_13 : decode prog_100_method_1_code 13 = .ok (.putfield 16, 3) := by decide +kernel
theorem od_prog_100_m_1_16 : decode prog_100_method_1_code 16 = .ok (.aload_n 0, 1) := by decide +kernel
theorem od_prog_100_m_1_17 : decode prog_100_method_1_code 17 = .ok (.aload_n 2, 1) := by decide +kernel
theorem od_prog_100_m_1_18 : decode prog_100_method_1_code 18 = .ok (.putfield 20, 3) := by decide +kernel
theorem od_prog_100_m_1_21 : decode prog_100_method_1_code 21 = .ok (.aload_n 0, 1) := by decide +kernel
theorem od_prog_100_m_1_22 : decode prog_100_method_1_code 22 = .ok (.aload_n 3, 1) := by decide +kernel
theorem od_prog_100_m_1_23 : decode prog_100_method_1_code 23 = .ok (.putfield 23, 3) := by decide +kernel
theorem od_prog_100_m_1_26 : decode prog_100_method_1_code 26 = .ok (.aload_n 0, 1) := by decide +kernel
theorem od_prog_100_m_1_27 : decode prog_100_method_1_code 27 = .ok (.aload 4, 2) := by decide +kernel
theorem od_prog_100_m_1_29 : decode prog_100_method_1_code 29 = .ok (.putfield 26, 3) := by decide +kernel
theorem od_prog_100_m_1_32 : decode prog_100_method_1_code 32 = .ok (.aload_n 0, 1) := by decide +kernel
theorem od_prog_100_m_1_33 : decode prog_100_method_1_code 33 = .ok (.aload 5, 2) := by decide +kernel
theorem od_prog_100_m_1_35 : decode prog_100_method_1_code 35 = .ok (.arraylength, 1) := by decide +kernel
theorem od_prog_100_m_1_36 : decode prog_100_method_1_code 36 = .ok (.ifCond .ne 9, 3) := by decide +kernel
theorem od_prog_100_m_1_39 : decode prog_100_method_1_code 39 = .ok (.getstatic 29, 3) := by decide +kernel
theorem od_prog_100_m_1_42 : decode prog_100_method_1_code 42 = .ok (.goto 5, 3) := by decide +kernel
theorem od_prog_100_m_1_47 : decode prog_100_method_1_code 47 = .ok (.putfield 33, 3) := by decide +kernel
theorem od_prog_100_m_1_50 : decode prog_100_method_1_code 50 = .ok (.aload_n 0, 1) := by decide +kernel
theorem od_prog_100_m_1_51 : decode prog_100_method_1_code 51 = .ok (.aload 5, 2) := by decide +kernel
theorem od_prog_100_m_1_53 : decode prog_100_method_1_code 53 = .ok (.invokestatic 36, 3) := by decide +kernel
theorem od_prog_100_m_1_56 : decode prog_100_method_1_code 56 = .ok (.ifCond .eq 7, 3) := by decide +kernel
theorem od_prog_100_m_1_63 : decode prog_100_method_1_code 63 = .ok (.iconst 2, 1) := by decide +kernel
theorem od_prog_100_m_1_64 : decode prog_100_method_1_code 64 = .ok (.i2b, 1) := by decide +kernel
theorem od_prog_100_m_1_65 : decode prog_100_method_1_code 65 = .ok (.putfield 40, 3) := by decide +kernel
theorem od_prog_100_m_1_68 : decode prog_100_method_1_code 68 = .ok (.aload_n 0, 1) := by decide +kernel
theorem od_prog_100_m_1_69 : decode prog_100_method_1_code 69 = .ok (.aload 6, 2) := by decide +kernel
theorem od_prog_100_m_1_71 : decode prog_100_method_1_code 71 = .ok (.putfield 44, 3) := by decide +kernel
theorem od_prog_100_m_1_74 : decode prog_100_method_1_code 74 = .ok (.aload_n 0, 1) := by decide +kernel
theorem od_prog_100_m_1_75 : decode prog_100_method_1_code 75 = .ok (.aload 7, 2) := by decide +kernel
theorem od_prog_100_m_1_77 : decode prog_100_method_1_code 77 = .ok (.putfield 48, 3) := by decide +kernel
theorem od_prog_100_m_1_80 : decode prog_100_method_1_code 80 = .ok (.aload_n 0, 1) := by decide +kernel
theorem od_prog_100_m_1_81 : decode prog_100_method_1_code 81 = .ok (.aload 7, 2) := by decide +kernel
theorem od_prog_100_m_1_83 : decode prog_100_method_1_code 83 = .ok (.ifnonnull 7, 3) := by decide +kernel
theorem od_prog_100_m_1_86 : decode prog_100_method_1_code 86 = .ok (.iconst 0, 1) := by decide +kernel
theorem od_prog_100_m_1_87 : decode prog_100_method_1_code 87 = .ok (.goto 9, 3) := by decide +kernel
theorem od_prog_100_m_1_96 : decode prog_100_method_1_code 96 = .ok (.putfield 56, 3) := by decide +kernel
theorem od_prog_100_m_1_99 : decode prog_100_method_1_code 99 = .ok (.return_, 1) := by decide +kernel
theorem own_efxi_z (m : MethodId) (x0 : Addr) (x2 : Addr) (x3 : Addr) (x4 : Addr) (x5 : Addr) : entryFrame m #[(.ref x0), .null, (.ref x2), (.ref x3), (.ref x4), (.ref x5), .null, .null] 8 = mkF m 0 #[rv x0, .val .null, rv x2, rv x3, rv x4, rv x5, .val .null, .val .null] [] := by first | (simp [entryFrame, mkF, argsToLocals, Value.category]; done) | rfl
def own_Qxi_z (Z : State) (a1 : Addr) (a2 : Addr) (a3 : Addr) (a5 : Addr) (a4 : Addr) (oN : Addr) (oA : Addr) (ka : ClassId) (vs : List Value) (h0 : Heap) (n0 : Nat) : Option Value → Heap → List Loc → Prop := fun v h L => v = none ∧ Fr n0 L ∧ Keep h0 h [a1] ∧ Exa Z h a1 "com/example/tagwright/tagwright/XmlElement" ∧ Fld Z h a1 "com/example/tagwright/tagwright/XmlElement" "attributes" "[Ljava/lang/String;" (.ref oA) ∧ Fld Z h a1 "com/example/tagwright/tagwright/XmlElement" "stride" "B" (.int 2)
def own_Rxi_z : Room := { frames := 1, cells := 0, slots := 0, locals := 13 }
set_option maxRecDepth 65536 in
set_option maxHeartbeats 40000000 in
theorem own_rmxi_z (l : Launch) (Z : State) (a0 : Array Value) (hw : ∀ d ∈ tables_1, d.before a0 Z = true) (ws : List Jvm.Cond) (a1 : Addr) (a2 : Addr) (a3 : Addr) (a5 : Addr) (a4 : Addr) (oN : Addr) (oA : Addr) (ka : ClassId) (vs : List Value) (h0 : Heap) (n0 : Nat) (Z0 : n0 ≤ h0.size) (g_a1 : n0 ≤ a1) (pr1 : Exa Z h0 a1 "com/example/tagwright/tagwright/XmlElement") (pr2 : Fld Z h0 a1 "com/example/tagwright/tagwright/XmlElement" "children" "Ljava/util/List;" .null) (pr3 : Fld Z h0 a1 "com/example/tagwright/tagwright/XmlElement" "namespace" "Ljava/lang/String;" .null) (pr4 : Fld Z h0 a1 "com/example/tagwright/tagwright/XmlElement" "localName" "Ljava/lang/String;" .null) (pr5 : Fld Z h0 a1 "com/example/tagwright/tagwright/XmlElement" "tagName" "Ljava/lang/String;" .null) (pr6 : Fld Z h0 a1 "com/example/tagwright/tagwright/XmlElement" "declarations" "Ljava/util/List;" .null) (pr7 : Fld Z h0 a1 "com/example/tagwright/tagwright/XmlElement" "attributes" "[Ljava/lang/String;" .null) (pr8 : Fld Z h0 a1 "com/example/tagwright/tagwright/XmlElement" "stride" "B" (.int 0)) (pr9 : Fld Z h0 a1 "com/example/tagwright/tagwright/XmlElement" "location" "Lcom/example/tagwright/tagwright/Location;" .null) (pr10 : Fld Z h0 a1 "com/example/tagwright/tagwright/XmlElement" "parent" "Lcom/example/tagwright/tagwright/XmlElement;" .null) (pr11 : Fld Z h0 a1 "com/example/tagwright/tagwright/XmlElement" "index" "I" (.int 0)) (pr12 : Sta Z h0 "com/example/tagwright/tagwright/XmlElement" "NO_CHILDREN" "Ljava/util/List;" (.ref oN)) (pr13 : Sta Z h0 "com/example/tagwright/tagwright/XmlElement" "NO_ATTRIBUTES" "[Ljava/lang/String;" (.ref oA)) (pr14 : Arv Z h0 a4 ka (.object "java/lang/String") (0 : Int32) vs .null) (pr15 : a1 ≠ a4) :
    own_Met l Z own_y11 prog_100_method_1_code 8 none ws own_Rxi_z h0 #[(.ref a1), .null, (.ref a2), (.ref a3), (.ref a5), (.ref a4), .null, .null] (own_Qxi_z Z a1 a2 a3 a5 a4 oN oA ka vs h0 n0) own_Rxi_z.cells own_Rxi_z.slots := by
  refine own_start (plainFor_of_name own_pn3) ?_
  intro p e s m below meth c s₁ X0 hx hZ hby hml hret hlk hown hnm e0
  have hown : s.vm.findClass "com/example/tagwright/tagwright/XmlElement" = some m.cls := hown
  have hml : c.maxLocals = 8 := hml
  have N0 := Fr.nil n0
  refine own_cast (own_efxi_z m a1 a2 a3 a5 a4) ?_
  refine own_s s₁ (mkF m 1 #[rv a1, .val .null, rv a2, rv a3, rv a5, rv a4, .val .null, .val .null] [(.ref a1)]) (fun _ k => XS.aloadN X0.here hx rfl (hb hby od_prog_100_m_1_0) rfl rfl k) ?_
  obtain ⟨T1, X1, e1, st1⟩ := initO X0 hx hZ hown (own_h hw 45 rfl) (own_h hw 35 rfl) (own_h hw 36 rfl) e0 (g := (mkF m 1 #[rv a1, .val .null, rv a2, rv a3, rv a5, rv a4, .val .null, .val .null] [(.ref a1)])) rfl (by rw [hml]; rfl) rfl (hb hby od_prog_100_m_1_1) (by decide) (W := 0) (by show 2 * 0 + _ ≤ _; exact Nat.le_of_eq rfl) (by decide)
  refine own_s T1 (mkF m 4 #[rv a1, .val .null, rv a2, rv a3, rv a5, rv a4, .val .null, .val .null] []) st1 ?_
  refine own_s T1 (mkF m 5 #[rv a1, .val .null, rv a2, rv a3, rv a5, rv a4, .val .null, .val .null] [(.ref a1)]) (fun _ k => XS.aloadN X1.here hx rfl (hb hby od_prog_100_m_1_4) rfl rfl k) ?_
  obtain ⟨T2, X2, e2, st2⟩ := getS2 X1 hx hZ hown (host := "") (Or.inl (own_h hw 46 rfl)) Via.refl e1 pr12 (g := (mkF m 5 #[rv a1, .val .null, rv a2, rv a3, rv a5, rv a4, .val .null, .val .null] [(.ref a1)])) rfl (hb hby od_prog_100_m_1_5)
  refine own_s T2 (mkF m 8 #[rv a1, .val .null, rv a2, rv a3, rv a5, rv a4, .val .null, .val .null] [(.ref oN), (.ref a1)]) st2 ?_
  obtain ⟨T3, h3, X3, e3, W3, st3⟩ := putF X2 hx hZ hown (host := "") (Or.inl (own_h hw 48 rfl)) Via.refl e2 pr2 pr1 (Or.inl (own_h hw 49 rfl)) (own_h hw 7 rfl) (ty := (.object "java/util/List")) (by decide) rfl rfl (g := (mkF m 8 #[rv a1, .val .null, rv a2, rv a3, rv a5, rv a4, .val .null, .val .null] [(.ref oN), (.ref a1)])) rfl rfl (hb hby od_prog_100_m_1_8)
  have Fw3 := Fld.same W3 pr2
  have f4 := Exa.wr W3 pr1
  have f5 := Fld.other W3 pr3 (Or.inr (slot_ne (Or.inr (own_h hw 51 rfl)) (Or.inl (own_h hw 49 rfl)) (by decide) (t := (.object "java/lang/String")) (t' := (.object "java/util/List")) (by decide) (by decide)))
  have f6 := Fld.other W3 pr4 (Or.inr (slot_ne (Or.inr (own_h hw 53 rfl)) (Or.inl (own_h hw 49 rfl)) (by decide) (t := (.object "java/lang/String")) (t' := (.object "java/util/List")) (by decide) (by decide)))
  have f7 := Fld.other W3 pr5 (Or.inr (slot_ne (Or.inr (own_h hw 55 rfl)) (Or.inl (own_h hw 49 rfl)) (by decide) (t := (.object "java/lang/String")) (t' := (.object "java/util/List")) (by decide) (by decide)))
  have f8 := Fld.other W3 pr6 (Or.inr (slot_ne (Or.inr (own_h hw 57 rfl)) (Or.inl (own_h hw 49 rfl)) (by decide) (t := (.object "java/util/List")) (t' := (.object "java/util/List")) (by decide) (by decide)))
  have f9 := Fld.other W3 pr7 (Or.inr (slot_ne (Or.inr (own_h hw 61 rfl)) (Or.inl (own_h hw 49 rfl)) (by decide) (t := (.array (.object "java/lang/String"))) (t' := (.object "java/util/List")) (by decide) (by decide)))
  have f10 := Fld.other W3 pr8 (Or.inr (slot_ne (Or.inr (own_h hw 66 rfl)) (Or.inl (own_h hw 49 rfl)) (by decide) (t := .byte) (t' := (.object "java/util/List")) (by decide) (by decide)))
  have f11 := Fld.other W3 pr9 (Or.inr (slot_ne (Or.inr (own_h hw 68 rfl)) (Or.inl (own_h hw 49 rfl)) (by decide) (t := (.object "com/example/tagwright/tagwright/Location")) (t' := (.object "java/util/List")) (by decide) (by decide)))
  have f12 := Fld.other W3 pr10 (Or.inr (slot_ne (Or.inr (own_h hw 70 rfl)) (Or.inl (own_h hw 49 rfl)) (by decide) (t := (.object "com/example/tagwright/tagwright/XmlElement")) (t' := (.object "java/util/List")) (by decide) (by decide)))
  have f13 := Fld.other W3 pr11 (Or.inr (slot_ne (Or.inr (own_h hw 72 rfl)) (Or.inl (own_h hw 49 rfl)) (by decide) (t := .int) (t' := (.object "java/util/List")) (by decide) (by decide)))
  have f14 := Sta.wr W3 pr12
  have f15 := Sta.wr W3 pr13
  have f16 := pr14.other W3 (Ne.symm pr15)
  have K3 : Keep h0 h3 [a1] := (Keep.refl h0 [a1]).wr W3 (Or.inl (List.mem_of_getElem? (i := 0) rfl))
  have Z3 := Nat.le_trans Z0 (Nat.le_of_eq W3.size.symm)
  have N3 := Fr.snoc X3 N0 g_a1
  refine own_s T3 (mkF m 11 #[rv a1, .val .null, rv a2, rv a3, rv a5, rv a4, .val .null, .val .null] []) st3 ?_
  refine own_s T3 (mkF m 13 #[rv a1, .val .null, rv a2, rv a3, rv a5, rv a4, .val .null, .val .null] [.null, (.ref a1)]) (fun _ k => XS.aloadN X3.here hx rfl (hb hby od_prog_100_m_1_11) rfl rfl (XS.aloadN X3.here hx rfl (hb hby od_prog_100_m_1_12) rfl rfl k)) ?_
  obtain ⟨T17, h17, X17, e17, W17, st17⟩ := putF X3 hx hZ hown (host := "") (Or.inl (own_h hw 50 rfl)) Via.refl e3 f5 f4 (Or.inr ⟨(own_h hw 51 rfl), rfl, hnm⟩) (own_h hw 7 rfl) (ty := (.object "java/lang/String")) (by decide) rfl rfl (g := (mkF m 13 #[rv a1, .val .null, rv a2, rv a3, rv a5, rv a4, .val .null, .val .null] [.null, (.ref a1)])) rfl rfl (hb hby od_prog_100_m_1_13)
  have Fw17 := Fld.same W17 f5
  have f18 := Exa.wr W17 f4
  have f19 := Fld.other W17 f6 (Or.inr (slot_ne (Or.inr (own_h hw 53 rfl)) (Or.inr (own_h hw 51 rfl)) (by decide) (t := (.object "java/lang/String")) (t' := (.object "java/lang/String")) (by decide) (by decide)))
  have f20 := Fld.other W17 f7 (Or.inr (slot_ne (Or.inr (own_h hw 55 rfl)) (Or.inr (own_h hw 51 rfl)) (by decide) (t := (.object "java/lang/String")) (t' := (.object "java/lang/String")) (by decide) (by decide)))
  have f21 := Fld.other W17 f8 (Or.inr (slot_ne (Or.inr (own_h hw 57 rfl)) (Or.inr (own_h hw 51 rfl)) (by decide) (t := (.object "java/util/List")) (t' := (.object "java/lang/String")) (by decide) (by decide)))
  have f22 := Fld.other W17 f9 (Or.inr (slot_ne (Or.inr (own_h hw 61 rfl)) (Or.inr (own_h hw 51 rfl)) (by decide) (t := (.array (.object "java/lang/String"))) (t' := (.object "java/lang/String")) (by decide) (by decide)))
  have f23 := Fld.other W17 f10 (Or.inr (slot_ne (Or.inr (own_h hw 66 rfl)) (Or.inr (own_h hw 51 rfl)) (by decide) (t := .byte) (t' := (.object "java/lang/String")) (by decide) (by decide)))
  have f24 := Fld.other W17 f11 (Or.inr (slot_ne (Or.inr (own_h hw 68 rfl)) (Or.inr (own_h hw 51 rfl)) (by decide) (t := (.object "com/example/tagwright/tagwright/Location")) (t' := (.object "java/lang/String")) (by decide) (by decide)))
  have f25 := Fld.other W17 f12 (Or.inr (slot_ne (Or.inr (own_h hw 70 rfl)) (Or.inr (own_h hw 51 rfl)) (by decide) (t := (.object "com/example/tagwright/tagwright/XmlElement")) (t' := (.object "java/lang/String")) (by decide) (by decide)))
  have f26 := Fld.other W17 f13 (Or.inr (slot_ne (Or.inr (own_h hw 72 rfl)) (Or.inr (own_h hw 51 rfl)) (by decide) (t := .int) (t' := (.object "java/lang/String")) (by decide) (by decide)))
  have f27 := Sta.wr W17 f14
  have f28 := Sta.wr W17 f15
  have f29 := f16.other W17 (Ne.symm pr15)
  have K17 : Keep h0 h17 [a1] := K3.wr W17 (Or.inl (List.mem_of_getElem? (i := 0) rfl))
  have Z17 := Nat.le_trans Z3 (Nat.le_of_eq W17.size.symm)
  have N17 := Fr.snoc X17 N3 g_a1
  refine own_s T17 (mkF m 16 #[rv a1, .val .null, rv a2, rv a3, rv a5, rv a4, .val .null, .val .null] []) st17 ?_
  refine own_s T17 (mkF m 18 #[rv a1, .val .null, rv a2, rv a3, rv a5, rv a4, .val .null, .val .null] [(.ref a2), (.ref a1)]) (fun _ k => XS.aloadN X17.here hx rfl (hb hby od_prog_100_m_1_16) rfl rfl (XS.aloadN X17.here hx rfl (hb hby od_prog_100_m_1_17) rfl rfl k)) ?_
  obtain ⟨T30, h30, X30, e30, W30, st30⟩ := putF X17 hx hZ hown (host := "") (Or.inl (own_h hw 52 rfl)) Via.refl e17 f19 f18 (Or.inr ⟨(own_h hw 53 rfl), rfl, hnm⟩) (own_h hw 7 rfl) (ty := (.object "java/lang/String")) (by decide) rfl rfl (g := (mkF m 18 #[rv a1, .val .null, rv a2, rv a3, rv a5, rv a4, .val .null, .val .null] [(.ref a2), (.ref a1)])) rfl rfl (hb hby od_prog_100_m_1_18)
  have Fw30 := Fld.same W30 f19
  have f31 := Exa.wr W30 f18
  have f32 := Fld.other W30 f20 (Or.inr (slot_ne (Or.inr (own_h hw 55 rfl)) (Or.inr (own_h hw 53 rfl)) (by decide) (t := (.object "java/lang/String")) (t' := (.object "java/lang/String")) (by decide) (by decide)))
  have f33 := Fld.other W30 f21 (Or.inr (slot_ne (Or.inr (own_h hw 57 rfl)) (Or.inr (own_h hw 53 rfl)) (by decide) (t := (.object "java/util/List")) (t' := (.object "java/lang/String")) (by decide) (by decide)))
  have f34 := Fld.other W30 f22 (Or.inr (slot_ne (Or.inr (own_h hw 61 rfl)) (Or.inr (own_h hw 53 rfl)) (by decide) (t := (.array (.object "java/lang/String"))) (t' := (.object "java/lang/String")) (by decide) (by decide)))
  have f35 := Fld.other W30 f23 (Or.inr (slot_ne (Or.inr (own_h hw 66 rfl)) (Or.inr (own_h hw 53 rfl)) (by decide) (t := .byte) (t' := (.object "java/lang/String")) (by decide) (by decide)))
  have f36 := Fld.other W30 f24 (Or.inr (slot_ne (Or.inr (own_h hw 68 rfl)) (Or.inr (own_h hw 53 rfl)) (by decide) (t := (.object "com/example/tagwright/tagwright/Location")) (t' := (.object "java/lang/String")) (by decide) (by decide)))
  have f37 := Fld.other W30 f25 (Or.inr (slot_ne (Or.inr (own_h hw 70 rfl)) (Or.inr (own_h hw 53 rfl)) (by decide) (t := (.object "com/example/tagwright/tagwright/XmlElement")) (t' := (.object "java/lang/String")) (by decide) (by decide)))
  have f38 := Fld.other W30 f26 (Or.inr (slot_ne (Or.inr (own_h hw 72 rfl)) (Or.inr (own_h hw 53 rfl)) (by decide) (t := .int) (t' := (.object "java/lang/String")) (by decide) (by decide)))
  have f39 := Sta.wr W30 f27
  have f40 := Sta.wr W30 f28
  have f41 := f29.other W30 (Ne.symm pr15)
  have K30 : Keep h0 h30 [a1] := K17.wr W30 (Or.inl (List.mem_of_getElem? (i := 0) rfl))
  have Z30 := Nat.le_trans Z17 (Nat.le_of_eq W30.size.symm)
  have N30 := Fr.snoc X30 N17 g_a1
  refine own_s T30 (mkF m 21 #[rv a1, .val .null, rv a2, rv a3, rv a5, rv a4, .val .null, .val .null] []) st30 ?_
  refine own_s T30 (mkF m 23 #[rv a1, .val .null, rv a2, rv a3, rv a5, rv a4, .val .null, .val .null] [(.ref a3), (.ref a1)]) (fun _ k => XS.aloadN X30.here hx rfl (hb hby od_prog_100_m_1_21) rfl rfl (XS.aloadN X30.here hx rfl (hb hby od_prog_100_m_1_22) rfl rfl k)) ?_
  obtain ⟨T42, h42, X42, e42, W42, st42⟩ := putF X30 hx hZ hown (host := "") (Or.inl (own_h hw 54 rfl)) Via.refl e30 f32 f31 (Or.inr ⟨(own_h hw 55 rfl), rfl, hnm⟩) (own_h hw 7 rfl) (ty := (.object "java/lang/String")) (by decide) rfl rfl (g := (mkF m 23 #[rv a1, .val .null, rv a2, rv a3, rv a5, rv a4, .val .null, .val .null] [(.ref a3), (.ref a1)])) rfl rfl (hb hby od_prog_100_m_1_23)
  have Fw42 := Fld.same W42 f32
  have f43 := Exa.wr W42 f31
  have f44 := Fld.other W42 f33 (Or.inr (slot_ne (Or.inr (own_h hw 57 rfl)) (Or.inr (own_h hw 55 rfl)) (by decide) (t := (.object "java/util/List")) (t' := (.object "java/lang/String")) (by decide) (by decide)))
  have f45 := Fld.other W42 f34 (Or.inr (slot_ne (Or.inr (own_h hw 61 rfl)) (Or.inr (own_h hw 55 rfl)) (by decide) (t := (.array (.object "java/lang/String"))) (t' := (.object "java/lang/String")) (by decide) (by decide)))
  have f46 := Fld.other W42 f35 (Or.inr (slot_ne (Or.inr (own_h hw 66 rfl)) (Or.inr (own_h hw 55 rfl)) (by decide) (t := .byte) (t' := (.object "java/lang/String")) (by decide) (by decide)))
  have f47 := Fld.other W42 f36 (Or.inr (slot_ne (Or.inr (own_h hw 68 rfl)) (Or.inr (own_h hw 55 rfl)) (by decide) (t := (.object "com/example/tagwright/tagwright/Location")) (t' := (.object "java/lang/String")) (by decide) (by decide)))
  have f48 := Fld.other W42 f37 (Or.inr (slot_ne (Or.inr (own_h hw 70 rfl)) (Or.inr (own_h hw 55 rfl)) (by decide) (t := (.object "com/example/tagwright/tagwright/XmlElement")) (t' := (.object "java/lang/String")) (by decide) (by decide)))
  have f49 := Fld.other W42 f38 (Or.inr (slot_ne (Or.inr (own_h hw 72 rfl)) (Or.inr (own_h hw 55 rfl)) (by decide) (t := .int) (t' := (.object "java/lang/String")) (by decide) (by decide)))
  have f50 := Sta.wr W42 f39
  have f51 := Sta.wr W42 f40
  have f52 := f41.other W42 (Ne.symm pr15)
  have K42 : Keep h0 h42 [a1] := K30.wr W42 (Or.inl (List.mem_of_getElem? (i := 0) rfl))
  have Z42 := Nat.le_trans Z30 (Nat.le_of_eq W42.size.symm)
  have N42 := Fr.snoc X42 N30 g_a1
  refine own_s T42 (mkF m 26 #[rv a1, .val .null, rv a2, rv a3, rv a5, rv a4, .val .null, .val .null] []) st42 ?_
  refine own_s T42 (mkF m 29 #[rv a1, .val .null, rv a2, rv a3, rv a5, rv a4, .val .null, .val .null] [(.ref a5), (.ref a1)]) (fun _ k => XS.aloadN X42.here hx rfl (hb hby od_prog_100_m_1_26) rfl rfl (XS.aload X42.here hx rfl (hb hby od_prog_100_m_1_27) rfl rfl k)) ?_
  obtain ⟨T53, h53, X53, e53, W53, st53⟩ := putF X42 hx hZ hown (host := "") (Or.inl (own_h hw 56 rfl)) Via.refl e42 f44 f43 (Or.inr ⟨(own_h hw 57 rfl), rfl, hnm⟩) (own_h hw 7 rfl) (ty := (.object "java/util/List")) (by decide) rfl rfl (g := (mkF m 29 #[rv a1, .val .null, rv a2, rv a3, rv a5, rv a4, .val .null, .val .null] [(.ref a5), (.ref a1)])) rfl rfl (hb hby od_prog_100_m_1_29)
  have Fw53 := Fld.same W53 f44
  have f54 := Exa.wr W53 f43
  have f55 := Fld.other W53 f45 (Or.inr (slot_ne (Or.inr (own_h hw 61 rfl)) (Or.inr (own_h hw 57 rfl)) (by decide) (t := (.array (.object "java/lang/String"))) (t' := (.object "java/util/List")) (by decide) (by decide)))
  have f56 := Fld.other W53 f46 (Or.inr (slot_ne (Or.inr (own_h hw 66 rfl)) (Or.inr (own_h hw 57 rfl)) (by decide) (t := .byte) (t' := (.object "java/util/List")) (by decide) (by decide)))
  have f57 := Fld.other W53 f47 (Or.inr (slot_ne (Or.inr (own_h hw 68 rfl)) (Or.inr (own_h hw 57 rfl)) (by decide) (t := (.object "com/example/tagwright/tagwright/Location")) (t' := (.object "java/util/List")) (by decide) (by decide)))
  have f58 := Fld.other W53 f48 (Or.inr (slot_ne (Or.inr (own_h hw 70 rfl)) (Or.inr (own_h hw 57 rfl)) (by decide) (t := (.object "com/example/tagwright/tagwright/XmlElement")) (t' := (.object "java/util/List")) (by decide) (by decide)))
  have f59 := Fld.other W53 f49 (Or.inr (slot_ne (Or.inr (own_h hw 72 rfl)) (Or.inr (own_h hw 57 rfl)) (by decide) (t := .int) (t' := (.object "java/util/List")) (by decide) (by decide)))
  have f60 := Sta.wr W53 f50
  have f61 := Sta.wr W53 f51
  have f62 := f52.other W53 (Ne.symm pr15)
  have K53 : Keep h0 h53 [a1] := K42.wr W53 (Or.inl (List.mem_of_getElem? (i := 0) rfl))
  have Z53 := Nat.le_trans Z42 (Nat.le_of_eq W53.size.symm)
  have N53 := Fr.snoc X53 N42 g_a1
  refine own_s T53 (mkF m 32 #[rv a1, .val .null, rv a2, rv a3, rv a5, rv a4, .val .null, .val .null] []) st53 ?_
  refine own_s T53 (mkF m 35 #[rv a1, .val .null, rv a2, rv a3, rv a5, rv a4, .val .null, .val .null] [(.ref a4), (.ref a1)]) (fun _ k => XS.aloadN X53.here hx rfl (hb hby od_prog_100_m_1_32) rfl rfl (XS.aload X53.here hx rfl (hb hby od_prog_100_m_1_33) rfl rfl k)) ?_
  obtain ⟨cl63, Ar63, q63, S63, Nn63, H63, G63⟩ := id f62
  refine own_s T53 (mkF m 39 #[rv a1, .val .null, rv a2, rv a3, rv a5, rv a4, .val .null, .val .null] [(.ref a1)]) (fun _ k => own_len X53 hx hZ e53 Ar63 S63 Nn63 (g := (mkF m 35 #[rv a1, .val .null, rv a2, rv a3, rv a5, rv a4, .val .null, .val .null] [(.ref a4), (.ref a1)])) rfl rfl (hb hby od_prog_100_m_1_35) (XS.ifNo X53.here hx rfl (hb hby od_prog_100_m_1_36) rfl ((if0 _ _).trans (teq (by decide : ((0 : Int32) = (0 : Int32)))).2) k)) ?_
  obtain ⟨T64, X64, e64, st64⟩ := getS2 X53 hx hZ hown (host := "") (Or.inl (own_h hw 58 rfl)) Via.refl e53 f61 (g := (mkF m 39 #[rv a1, .val .null, rv a2, rv a3, rv a5, rv a4, .val .null, .val .null] [(.ref a1)])) rfl (hb hby od_prog_100_m_1_39)
  refine own_s T64 (mkF m 42 #[rv a1, .val .null, rv a2, rv a3, rv a5, rv a4, .val .null, .val .null] [(.ref oA), (.ref a1)]) st64 ?_
  refine own_s T64 (mkF m 47 #[rv a1, .val .null, rv a2, rv a3, rv a5, rv a4, .val .null, .val .null] [(.ref oA), (.ref a1)]) (fun _ k => XS.goto X64.here hx rfl (pc0 := 42) (pc' := 47) rfl (hb hby od_prog_100_m_1_42) (by decide) (by decide) k) ?_
  obtain ⟨T65, h65, X65, e65, W65, st65⟩ := putF X64 hx hZ hown (host := "") (Or.inl (own_h hw 60 rfl)) Via.refl e64 f55 f54 (Or.inr ⟨(own_h hw 61 rfl), rfl, hnm⟩) (own_h hw 7 rfl) (ty := (.array (.object "java/lang/String"))) (by decide) rfl rfl (g := (mkF m 47 #[rv a1, .val .null, rv a2, rv a3, rv a5, rv a4, .val .null, .val .null] [(.ref oA), (.ref a1)])) rfl rfl (hb hby od_prog_100_m_1_47)
  have Fw65 := Fld.same W65 f55
  have f66 := Exa.wr W65 f54
  have f67 := Fld.other W65 f56 (Or.inr (slot_ne (Or.inr (own_h hw 66 rfl)) (Or.inr (own_h hw 61 rfl)) (by decide) (t := .byte) (t' := (.array (.object "java/lang/String"))) (by decide) (by decide)))
  have f68 := Fld.other W65 f57 (Or.inr (slot_ne (Or.inr (own_h hw 68 rfl)) (Or.inr (own_h hw 61 rfl)) (by decide) (t := (.object "com/example/tagwright/tagwright/Location")) (t' := (.array (.object "java/lang/String"))) (by decide) (by decide)))
  have f69 := Fld.other W65 f58 (Or.inr (slot_ne (Or.inr (own_h hw 70 rfl)) (Or.inr (own_h hw 61 rfl)) (by decide) (t := (.object "com/example/tagwright/tagwright/XmlElement")) (t' := (.array (.object "java/lang/String"))) (by decide) (by decide)))
  have f70 := Fld.other W65 f59 (Or.inr (slot_ne (Or.inr (own_h hw 72 rfl)) (Or.inr (own_h hw 61 rfl)) (by decide) (t := .int) (t' := (.array (.object "java/lang/String"))) (by decide) (by decide)))
  have f71 := Sta.wr W65 f60
  have f72 := Sta.wr W65 f61
  have f73 := f62.other W65 (Ne.symm pr15)
  have K65 : Keep h0 h65 [a1] := K53.wr W65 (Or.inl (List.mem_of_getElem? (i := 0) rfl))
  have Z65 := Nat.le_trans Z53 (Nat.le_of_eq W65.size.symm)
  have N65 := Fr.snoc X65 N53 g_a1
  refine own_s T65 (mkF m 50 #[rv a1, .val .null, rv a2, rv a3, rv a5, rv a4, .val .null, .val .null] []) st65 ?_
  refine own_s T65 (mkF m 53 #[rv a1, .val .null, rv a2, rv a3, rv a5, rv a4, .val .null, .val .null] [(.ref a4), (.ref a1)]) (fun _ k => XS.aloadN X65.here hx rfl (hb hby od_prog_100_m_1_50) rfl rfl (XS.aload X65.here hx rfl (hb hby od_prog_100_m_1_51) rfl rfl k)) ?_
  obtain ⟨v74, T74, L74, X74, hQ74, st74⟩ := own_callS X65 hx hZ (y := own_y7) (W := 1) hown (own_h hw 62 rfl) (own_h hw 63 rfl) (own_h hw 2 rfl) (own_h hw 64 rfl) (by decide) (own_rmisnE l Z a0 hw [] a4 ka vs (0 : Int32) h65 n0 Z65 f73 (by decide)) (by decide) (by decide) (g := (mkF m 53 #[rv a1, .val .null, rv a2, rv a3, rv a5, rv a4, .val .null, .val .null] [(.ref a4), (.ref a1)])) rfl (by rw [hml]; rfl) (argsL := [(.ref a4)]) (rest := [(.ref a1)]) rfl (lenOf own_pd5 rfl) rfl (by show 2 * 0 + _ ≤ _; exact Nat.le_of_eq rfl) (hb hby od_prog_100_m_1_53) e65 (by decide) (by decide)
  obtain ⟨rfl, Nq74, e74⟩ := hQ74
  have N74 := Fr.app N65 Nq74
  refine own_s T74 (mkF m 56 #[rv a1, .val .null, rv a2, rv a3, rv a5, rv a4, .val .null, .val .null] [(.int 0), (.ref a1)]) st74 ?_
  refine own_s T74 (mkF m 65 #[rv a1, .val .null, rv a2, rv a3, rv a5, rv a4, .val .null, .val .null] [(.int ((2 : Int32).toInt8.toInt32)), (.ref a1)]) (fun _ k => XS.ifYes X74.here hx rfl (pc0 := 56) (pc' := 63) rfl (hb hby od_prog_100_m_1_56) rfl ((if0 _ _).trans (teq (by decide : ((0 : Int32) = (0 : Int32)))).1) (by decide) (by decide) (XS.iconst X74.here hx rfl (hb hby od_prog_100_m_1_63) (XS.i2b X74.here hx rfl (hb hby od_prog_100_m_1_64) rfl k))) ?_
  obtain ⟨T75, h75, X75, e75, W75, st75⟩ := putFN X74 hx hZ hown (own_h hw 65 rfl) Via.refl e74 f67 f66 (Or.inr ⟨(own_h hw 66 rfl), rfl, hnm⟩) (own_h hw 7 rfl) (ty := .byte) (v' := (.int 2)) (by decide) rfl rfl (g := (mkF m 65 #[rv a1, .val .null, rv a2, rv a3, rv a5, rv a4, .val .null, .val .null] [(.int ((2 : Int32).toInt8.toInt32)), (.ref a1)])) rfl rfl (hb hby od_prog_100_m_1_65)
  have Fw75 := Fld.same W75 f67
  have f76 := Exa.wr W75 f66
  have f77 := Fld.other W75 Fw65 (Or.inr (slot_ne (Or.inr (own_h hw 61 rfl)) (Or.inr (own_h hw 66 rfl)) (by decide) (t := (.array (.object "java/lang/String"))) (t' := .byte) (by decide) (by decide)))
  have f78 := Fld.other W75 f68 (Or.inr (slot_ne (Or.inr (own_h hw 68 rfl)) (Or.inr (own_h hw 66 rfl)) (by decide) (t := (.object "com/example/tagwright/tagwright/Location")) (t' := .byte) (by decide) (by decide)))
  have f79 := Fld.other W75 f69 (Or.inr (slot_ne (Or.inr (own_h hw 70 rfl)) (Or.inr (own_h hw 66 rfl)) (by decide) (t := (.object "com/example/tagwright/tagwright/XmlElement")) (t' := .byte) (by decide) (by decide)))
  have f80 := Fld.other W75 f70 (Or.inr (slot_ne (Or.inr (own_h hw 72 rfl)) (Or.inr (own_h hw 66 rfl)) (by decide) (t := .int) (t' := .byte) (by decide) (by decide)))
  have f81 := Sta.wr W75 f71
  have f82 := Sta.wr W75 f72
  have f83 := f73.other W75 (Ne.symm pr15)
  have K75 : Keep h0 h75 [a1] := K65.wr W75 (Or.inl (List.mem_of_getElem? (i := 0) rfl))
  have Z75 := Nat.le_trans Z65 (Nat.le_of_eq W75.size.symm)
  have N75 := Fr.snoc X75 N74 g_a1
  refine own_s T75 (mkF m 68 #[rv a1, .val .null, rv a2, rv a3, rv a5, rv a4, .val .null, .val .null] []) st75 ?_
  refine own_s T75 (mkF m 71 #[rv a1, .val .null, rv a2, rv a3, rv a5, rv a4, .val .null, .val .null] [.null, (.ref a1)]) (fun _ k => XS.aloadN X75.here hx rfl (hb hby od_prog_100_m_1_68) rfl rfl (XS.aload X75.here hx rfl (hb hby od_prog_100_m_1_69) rfl rfl k)) ?_
  obtain ⟨T84, h84, X84, e84, W84, st84⟩ := putF X75 hx hZ hown (host := "") (Or.inl (own_h hw 67 rfl)) Via.refl e75 f78 f76 (Or.inr ⟨(own_h hw 68 rfl), rfl, hnm⟩) (own_h hw 7 rfl) (ty := (.object "com/example/tagwright/tagwright/Location")) (by decide) rfl rfl (g := (mkF m 71 #[rv a1, .val .null, rv a2, rv a3, rv a5, rv a4, .val .null, .val .null] [.null, (.ref a1)])) rfl rfl (hb hby od_prog_100_m_1_71)
  have Fw84 := Fld.same W84 f78
  have f85 := Exa.wr W84 f76
  have f86 := Fld.other W84 f77 (Or.inr (slot_ne (Or.inr (own_h hw 61 rfl)) (Or.inr (own_h hw 68 rfl)) (by decide) (t := (.array (.object "java/lang/String"))) (t' := (.object "com/example/tagwright/tagwright/Location")) (by decide) (by decide)))
  have f87 := Fld.other W84 Fw75 (Or.inr (slot_ne (Or.inr (own_h hw 66 rfl)) (Or.inr (own_h hw 68 rfl)) (by decide) (t := .byte) (t' := (.object "com/example/tagwright/tagwright/Location")) (by decide) (by decide)))
  have f88 := Fld.other W84 f79 (Or.inr (slot_ne (Or.inr (own_h hw 70 rfl)) (Or.inr (own_h hw 68 rfl)) (by decide) (t := (.object "com/example/tagwright/tagwright/XmlElement")) (t' := (.object "com/example/tagwright/tagwright/Location")) (by decide) (by decide)))
  have f89 := Fld.other W84 f80 (Or.inr (slot_ne (Or.inr (own_h hw 72 rfl)) (Or.inr (own_h hw 68 rfl)) (by decide) (t := .int) (t' := (.object "com/example/tagwright/tagwright/Location")) (by decide) (by decide)))
  have f90 := Sta.wr W84 f81
  have f91 := Sta.wr W84 f82
  have f92 := f83.other W84 (Ne.symm pr15)
  have K84 : Keep h0 h84 [a1] := K75.wr W84 (Or.inl (List.mem_of_getElem? (i := 0) rfl))
  have Z84 := Nat.le_trans Z75 (Nat.le_of_eq W84.size.symm)
  have N84 := Fr.snoc X84 N75 g_a1
  refine own_s T84 (mkF m 74 #[rv a1, .val .null, rv a2, rv a3, rv a5, rv a4, .val .null, .val .null] []) st84 ?_
  refine own_s T84 (mkF m 77 #[rv a1, .val .null, rv a2, rv a3, rv a5, rv a4, .val .null, .val .null] [.null, (.ref a1)]) (fun _ k => XS.aloadN X84.here hx rfl (hb hby od_prog_100_m_1_74) rfl rfl (XS.aload X84.here hx rfl (hb hby od_prog_100_m_1_75) rfl rfl k)) ?_
  obtain ⟨T93, h93, X93, e93, W93, st93⟩ := putF X84 hx hZ hown (host := "") (Or.inl (own_h hw 69 rfl)) Via.refl e84 f88 f85 (Or.inr ⟨(own_h hw 70 rfl), rfl, hnm⟩) (own_h hw 7 rfl) (ty := (.object "com/example/tagwright/tagwright/XmlElement")) (by decide) rfl rfl (g := (mkF m 77 #[rv a1, .val .null, rv a2, rv a3, rv a5, rv a4, .val .null, .val .null] [.null, (.ref a1)])) rfl rfl (hb hby od_prog_100_m_1_77)
  have Fw93 := Fld.same W93 f88
  have f94 := Exa.wr W93 f85
  have f95 := Fld.other W93 f86 (Or.inr (slot_ne (Or.inr (own_h hw 61 rfl)) (Or.inr (own_h hw 70 rfl)) (by decide) (t := (.array (.object "java/lang/String"))) (t' := (.object "com/example/tagwright/tagwright/XmlElement")) (by decide) (by decide)))
  have f96 := Fld.other W93 f87 (Or.inr (slot_ne (Or.inr (own_h hw 66 rfl)) (Or.inr (own_h hw 70 rfl)) (by decide) (t := .byte) (t' := (.object "com/example/tagwright/tagwright/XmlElement")) (by decide) (by decide)))
  have f97 := Fld.other W93 f89 (Or.inr (slot_ne (Or.inr (own_h hw 72 rfl)) (Or.inr (own_h hw 70 rfl)) (by decide) (t := .int) (t' := (.object "com/example/tagwright/tagwright/XmlElement")) (by decide) (by decide)))
  have f98 := Sta.wr W93 f90
  have f99 := Sta.wr W93 f91
  have f100 := f92.other W93 (Ne.symm pr15)
  have K93 : Keep h0 h93 [a1] := K84.wr W93 (Or.inl (List.mem_of_getElem? (i := 0) rfl))
  have Z93 := Nat.le_trans Z84 (Nat.le_of_eq W93.size.symm)
  have N93 := Fr.snoc X93 N84 g_a1
  refine own_s T93 (mkF m 80 #[rv a1, .val .null, rv a2, rv a3, rv a5, rv a4, .val .null, .val .null] []) st93 ?_
  refine own_s T93 (mkF m 96 #[rv a1, .val .null, rv a2, rv a3, rv a5, rv a4, .val .null, .val .null] [(.int 0), (.ref a1)]) (fun _ k => XS.aloadN X93.here hx rfl (hb hby od_prog_100_m_1_80) rfl rfl (XS.aload X93.here hx rfl (hb hby od_prog_100_m_1_81) rfl rfl (XS.ifnonnullNo X93.here hx rfl (hb hby od_prog_100_m_1_83) rfl (XS.iconst X93.here hx rfl (hb hby od_prog_100_m_1_86) (XS.goto X93.here hx rfl (pc0 := 87) (pc' := 96) rfl (hb hby od_prog_100_m_1_87) (by decide) (by decide) k))))) ?_
  obtain ⟨T101, h101, X101, e101, W101, st101⟩ := putF X93 hx hZ hown (host := "") (Or.inl (own_h hw 71 rfl)) Via.refl e93 f97 f94 (Or.inr ⟨(own_h hw 72 rfl), rfl, hnm⟩) (own_h hw 7 rfl) (ty := .int) (by decide) rfl rfl (g := (mkF m 96 #[rv a1, .val .null, rv a2, rv a3, rv a5, rv a4, .val .null, .val .null] [(.int 0), (.ref a1)])) rfl rfl (hb hby od_prog_100_m_1_96)
  have Fw101 := Fld.same W101 f97
  have f102 := Exa.wr W101 f94
  have f103 := Fld.other W101 f95 (Or.inr (slot_ne (Or.inr (own_h hw 61 rfl)) (Or.inr (own_h hw 72 rfl)) (by decide) (t := (.array (.object "java/lang/String"))) (t' := .int) (by decide) (by decide)))
  have f104 := Fld.other W101 f96 (Or.inr (slot_ne (Or.inr (own_h hw 66 rfl)) (Or.inr (own_h hw 72 rfl)) (by decide) (t := .byte) (t' := .int) (by decide) (by decide)))
  have f105 := Sta.wr W101 f98
  have f106 := Sta.wr W101 f99
  have f107 := f100.other W101 (Ne.symm pr15)
  have K101 : Keep h0 h101 [a1] := K93.wr W101 (Or.inl (List.mem_of_getElem? (i := 0) rfl))
  have Z101 := Nat.le_trans Z93 (Nat.le_of_eq W101.size.symm)
  have N101 := Fr.snoc X101 N93 g_a1
  refine own_s T101 (mkF m 99 #[rv a1, .val .null, rv a2, rv a3, rv a5, rv a4, .val .null, .val .null] []) st101 ?_
  exact own_finV X101 hx hret (hb hby od_prog_100_m_1_99) (own_end (Qv := (own_Qxi_z Z a1 a2 a3 a5 a4 oN oA ka vs h0 n0)) X101 (fun _ => rfl) hlk (by decide) (by decide) e101 ⟨rfl, N101, K101, f102, f103, f104⟩)
theorem od_prog_100_m_1_45 : decode prog_100_method_1_code 45 = .ok (.aload 5, 2) := by decide +kernel
theorem od_prog_100_m_1_59 : decode prog_100_method_1_code 59 = .ok (.iconst 4, 1) := by decide +kernel
theorem od_prog_100_m_1_60 : decode prog_100_method_1_code 60 = .ok (.goto 4, 3) := by decide +kernel
theorem own_efxi_o (m : MethodId) (x0 : Addr) (x2 : Addr) (x3 : Addr) (x4 : Addr) (x5 : Addr) : entryFrame m #[(.ref x0), .null, (.ref x2), (.ref x3), (.ref x4), (.ref x5), .null, .null] 8 = mkF m 0 #[rv x0, .val .null, rv x2, rv x3, rv x4, rv x5, .val .null, .val .null] [] := by first | (simp [entryFrame, mkF, argsToLocals, Value.category]; done) | rfl
def own_Qxi_o (Z : State) (a1 : Addr) (a2 : Addr) (a3 : Addr) (a5 : Addr) (a4 : Addr) (oN : Addr) (oA : Addr) (ka : ClassId) (vs : List Value) (z : Int32) (h0 : Heap) (n0 : Nat) : Option Value → Heap → List Loc → Prop := fun v h L => v = none ∧ Fr n0 L ∧ Keep h0 h [a1] ∧ Exa Z h a1 "com/example/tagwright/tagwright/XmlElement" ∧ Fld Z h a1 "com/example/tagwright/tagwright/XmlElement" "attributes" "[Ljava/lang/String;" (.ref a4) ∧ Fld Z h a1 "com/example/tagwright/tagwright/XmlElement" "stride" "B" (.int 4)
def own_Rxi_o : Room := { frames := 1, cells := 0, slots := 0, locals := 13 }
set_option maxRecDepth 65536 in
set_option maxHeartbeats 40000000 in
theorem own_rmxi_o (l : Launch) (Z : State) (a0 : Array Value) (hw : ∀ d ∈ tables_1, d.before a0 Z = true) (ws : List Jvm.Cond) (a1 : Addr) (a2 : Addr) (a3 : Addr) (a5 : Addr) (a4 : Addr) (oN : Addr) (oA : Addr) (ka : ClassId) (vs : List Value) (z : Int32) (h0 : Heap) (n0 : Nat) (Z0 : n0 ≤ h0.size) (g_a1 : n0 ≤ a1) (pr1 : Exa Z h0 a1 "com/example/tagwright/tagwright/XmlElement") (pr2 : Fld Z h0 a1 "com/example/tagwright/tagwright/XmlElement" "children" "Ljava/util/List;" .null) (pr3 : Fld Z h0 a1 "com/example/tagwright/tagwright/XmlElement" "namespace" "Ljava/lang/String;" .null) (pr4 : Fld Z h0 a1 "com/example/tagwright/tagwright/XmlElement" "localName" "Ljava/lang/String;" .null) (pr5 : Fld Z h0 a1 "com/example/tagwright/tagwright/XmlElement" "tagName" "Ljava/lang/String;" .null) (pr6 : Fld Z h0 a1 "com/example/tagwright/tagwright/XmlElement" "declarations" "Ljava/util/List;" .null) (pr7 : Fld Z h0 a1 "com/example/tagwright/tagwright/XmlElement" "attributes" "[Ljava/lang/String;" .null) (pr8 : Fld Z h0 a1 "com/example/tagwright/tagwright/XmlElement" "stride" "B" (.int 0)) (pr9 : Fld Z h0 a1 "com/example/tagwright/tagwright/XmlElement" "location" "Lcom/example/tagwright/tagwright/Location;" .null) (pr10 : Fld Z h0 a1 "com/example/tagwright/tagwright/XmlElement" "parent" "Lcom/example/tagwright/tagwright/XmlElement;" .null) (pr11 : Fld Z h0 a1 "com/example/tagwright/tagwright/XmlElement" "index" "I" (.int 0)) (pr12 : Sta Z h0 "com/example/tagwright/tagwright/XmlElement" "NO_CHILDREN" "Ljava/util/List;" (.ref oN)) (pr13 : Sta Z h0 "com/example/tagwright/tagwright/XmlElement" "NO_ATTRIBUTES" "[Ljava/lang/String;" (.ref oA)) (pr14 : Arv Z h0 a4 ka (.object "java/lang/String") z vs .null) (pr15 : a1 ≠ a4) (hz0 : ¬ z = (0 : Int32)) (hm : z % (2 : Int32) = (1 : Int32)) :
    own_Met l Z own_y11 prog_100_method_1_code 8 none ws own_Rxi_o h0 #[(.ref a1), .null, (.ref a2), (.ref a3), (.ref a5), (.ref a4), .null, .null] (own_Qxi_o Z a1 a2 a3 a5 a4 oN oA ka vs z h0 n0) own_Rxi_o.cells own_Rxi_o.slots := by
  refine own_start (plainFor_of_name own_pn3) ?_
  intro p e s m below meth c s₁ X0 hx hZ hby hml hret hlk hown hnm e0
  have hown : s.vm.findClass "com/example/tagwright/tagwright/XmlElement" = some m.cls := hown
  have hml : c.maxLocals = 8 := hml
  have N0 := Fr.nil n0
  refine own_cast (own_efxi_o m a1 a2 a3 a5 a4) ?_
  refine own_s s₁ (mkF m 1 #[rv a1, .val .null, rv a2, rv a3, rv a5, rv a4, .val .null, .val .null] [(.ref a1)]) (fun _ k => XS.aloadN X0.here hx rfl (hb hby od_prog_100_m_1_0) rfl rfl k) ?_
  obtain ⟨T1, X1, e1, st1⟩ := initO X0 hx hZ hown (own_h hw 45 rfl) (own_h hw 35 rfl) (own_h hw 36 rfl) e0 (g := (mkF m 1 #[rv a1, .val .null, rv a2, rv a3, rv a5, rv a4, .val .null, .val .null] [(.ref a1)])) rfl (by rw [hml]; rfl) rfl (hb hby od_prog_100_m_1_1) (by decide) (W := 0) (by show 2 * 0 + _ ≤ _; exact Nat.le_of_eq rfl) (by decide)
  refine own_s T1 (mkF m 4 #[rv a1, .val .null, rv a2, rv a3, rv a5, rv a4, .val .null, .val .null] []) st1 ?_
  refine own_s T1 (mkF m 5 #[rv a1, .val .null, rv a2, rv a3, rv a5, rv a4, .val .null, .val .null] [(.ref a1)]) (fun _ k => XS.aloadN X1.here hx rfl (hb hby od_prog_100_m_1_4) rfl rfl k) ?_
  obtain ⟨T2, X2, e2, st2⟩ := getS2 X1 hx hZ hown (host := "") (Or.inl (own_h hw 46 rfl)) Via.refl e1 pr12 (g := (mkF m 5 #[rv a1, .val .null, rv a2, rv a3, rv a5, rv a4, .val .null, .val .null] [(.ref a1)])) rfl (hb hby od_prog_100_m_1_5)
  refine own_s T2 (mkF m 8 #[rv a1, .val .null, rv a2, rv a3, rv a5, rv a4, .val .null, .val .null] [(.ref oN), (.ref a1)]) st2 ?_
  obtain ⟨T3, h3, X3, e3, W3, st3⟩ := putF X2 hx hZ hown (host := "") (Or.inl (own_h hw 48 rfl)) Via.refl e2 pr2 pr1 (Or.inl (own_h hw 49 rfl)) (own_h hw 7 rfl) (ty := (.object "java/util/List")) (by decide) rfl rfl (g := (mkF m 8 #[rv a1, .val .null, rv a2, rv a3, rv a5, rv a4, .val .null, .val .null] [(.ref oN), (.ref a1)])) rfl rfl (hb hby od_prog_100_m_1_8)
  have Fw3 := Fld.same W3 pr2
  have f4 := Exa.wr W3 pr1
  have f5 := Fld.other W3 pr3 (Or.inr (slot_ne (Or.inr (own_h hw 51 rfl)) (Or.inl (own_h hw 49 rfl)) (by decide) (t := (.object "java/lang/String")) (t' := (.object "java/util/List")) (by decide) (by decide)))
  have f6 := Fld.other W3 pr4 (Or.inr (slot_ne (Or.inr (own_h hw 53 rfl)) (Or.inl (own_h hw 49 rfl)) (by decide) (t := (.object "java/lang/String")) (t' := (.object "java/util/List")) (by decide) (by decide)))
  have f7 := Fld.other W3 pr5 (Or.inr (slot_ne (Or.inr (own_h hw 55 rfl)) (Or.inl (own_h hw 49 rfl)) (by decide) (t := (.object "java/lang/String")) (t' := (.object "java/util/List")) (by decide) (by decide)))
  have f8 := Fld.other W3 pr6 (Or.inr (slot_ne (Or.inr (own_h hw 57 rfl)) (Or.inl (own_h hw 49 rfl)) (by decide) (t := (.object "java/util/List")) (t' := (.object "java/util/List")) (by decide) (by decide)))
  have f9 := Fld.other W3 pr7 (Or.inr (slot_ne (Or.inr (own_h hw 61 rfl)) (Or.inl (own_h hw 49 rfl)) (by decide) (t := (.array (.object "java/lang/String"))) (t' := (.object "java/util/List")) (by decide) (by decide)))
  have f10 := Fld.other W3 pr8 (Or.inr (slot_ne (Or.inr (own_h hw 66 rfl)) (Or.inl (own_h hw 49 rfl)) (by decide) (t := .byte) (t' := (.object "java/util/List")) (by decide) (by decide)))
  have f11 := Fld.other W3 pr9 (Or.inr (slot_ne (Or.inr (own_h hw 68 rfl)) (Or.inl (own_h hw 49 rfl)) (by decide) (t := (.object "com/example/tagwright/tagwright/Location")) (t' := (.object "java/util/List")) (by decide) (by decide)))
  have f12 := Fld.other W3 pr10 (Or.inr (slot_ne (Or.inr (own_h hw 70 rfl)) (Or.inl (own_h hw 49 rfl)) (by decide) (t := (.object "com/example/tagwright/tagwright/XmlElement")) (t' := (.object "java/util/List")) (by decide) (by decide)))
  have f13 := Fld.other W3 pr11 (Or.inr (slot_ne (Or.inr (own_h hw 72 rfl)) (Or.inl (own_h hw 49 rfl)) (by decide) (t := .int) (t' := (.object "java/util/List")) (by decide) (by decide)))
  have f14 := Sta.wr W3 pr12
  have f15 := Sta.wr W3 pr13
  have f16 := pr14.other W3 (Ne.symm pr15)
  have K3 : Keep h0 h3 [a1] := (Keep.refl h0 [a1]).wr W3 (Or.inl (List.mem_of_getElem? (i := 0) rfl))
  have Z3 := Nat.le_trans Z0 (Nat.le_of_eq W3.size.symm)
  have N3 := Fr.snoc X3 N0 g_a1
  refine own_s T3 (mkF m 11 #[rv a1, .val .null, rv a2, rv a3, rv a5, rv a4, .val .null, .val .null] []) st3 ?_
  refine own_s T3 (mkF m 13 #[rv a1, .val .null, rv a2, rv a3, rv a5, rv a4, .val .null, .val .null] [.null, (.ref a1)]) (fun _ k => XS.aloadN X3.here hx rfl (hb hby od_prog_100_m_1_11) rfl rfl (XS.aloadN X3.here hx rfl (hb hby od_prog_100_m_1_12) rfl rfl k)) ?_
  obtain ⟨T17, h17, X17, e17, W17, st17⟩ := putF X3 hx hZ hown (host := "") (Or.inl (own_h hw 50 rfl)) Via.refl e3 f5 f4 (Or.inr ⟨(own_h hw 51 rfl), rfl, hnm⟩) (own_h hw 7 rfl) (ty := (.object "java/lang/String")) (by decide) rfl rfl (g := (mkF m 13 #[rv a1, .val .null, rv a2, rv a3, rv a5, rv a4, .val .null, .val .null] [.null, (.ref a1)])) rfl rfl (hb hby od_prog_100_m_1_13)
  have Fw17 := Fld.same W17 f5
  have f18 := Exa.wr W17 f4
  have f19 := Fld.other W17 f6 (Or.inr (slot_ne (Or.inr (own_h hw 53 rfl)) (Or.inr (own_h hw 51 rfl)) (by decide) (t := (.object "java/lang/String")) (t' := (.object "java/lang/String")) (by decide) (by decide)))
  have f20 := Fld.other W17 f7 (Or.inr (slot_ne (Or.inr (own_h hw 55 rfl)) (Or.inr (own_h hw 51 rfl)) (by decide) (t := (.object "java/lang/String")) (t' := (.object "java/lang/String")) (by decide) (by decide)))
  have f21 := Fld.other W17 f8 (Or.inr (slot_ne (Or.inr (own_h hw 57 rfl)) (Or.inr (own_h hw 51 rfl)) (by decide) (t := (.object "java/util/List")) (t' := (.object "java/lang/String")) (by decide) (by decide)))
  have f22 := Fld.other W17 f9 (Or.inr (slot_ne (Or.inr (own_h hw 61 rfl)) (Or.inr (own_h hw 51 rfl)) (by decide) (t := (.array (.object "java/lang/String"))) (t' := (.object "java/lang/String")) (by decide) (by decide)))
  have f23 := Fld.other W17 f10 (Or.inr (slot_ne (Or.inr (own_h hw 66 rfl)) (Or.inr (own_h hw 51 rfl)) (by decide) (t := .byte) (t' := (.object "java/lang/String")) (by decide) (by decide)))
  have f24 := Fld.other W17 f11 (Or.inr (slot_ne (Or.inr (own_h hw 68 rfl)) (Or.inr (own_h hw 51 rfl)) (by decide) (t := (.object "com/example/tagwright/tagwright/Location")) (t' := (.object "java/lang/String")) (by decide) (by decide)))
  have f25 := Fld.other W17 f12 (Or.inr (slot_ne (Or.inr (own_h hw 70 rfl)) (Or.inr (own_h hw 51 rfl)) (by decide) (t := (.object "com/example/tagwright/tagwright/XmlElement")) (t' := (.object "java/lang/String")) (by decide) (by decide)))
  have f26 := Fld.other W17 f13 (Or.inr (slot_ne (Or.inr (own_h hw 72 rfl)) (Or.inr (own_h hw 51 rfl)) (by decide) (t := .int) (t' := (.object "java/lang/String")) (by decide) (by decide)))
  have f27 := Sta.wr W17 f14
  have f28 := Sta.wr W17 f15
  have f29 := f16.other W17 (Ne.symm pr15)
  have K17 : Keep h0 h17 [a1] := K3.wr W17 (Or.inl (List.mem_of_getElem? (i := 0) rfl))
  have Z17 := Nat.le_trans Z3 (Nat.le_of_eq W17.size.symm)
  have N17 := Fr.snoc X17 N3 g_a1
  refine own_s T17 (mkF m 16 #[rv a1, .val .null, rv a2, rv a3, rv a5, rv a4, .val .null, .val .null] []) st17 ?_
  refine own_s T17 (mkF m 18 #[rv a1, .val .null, rv a2, rv a3, rv a5, rv a4, .val .null, .val .null] [(.ref a2), (.ref a1)]) (fun _ k => XS.aloadN X17.here hx rfl (hb hby od_prog_100_m_1_16) rfl rfl (XS.aloadN X17.here hx rfl (hb hby od_prog_100_m_1_17) rfl rfl k)) ?_
  obtain ⟨T30, h30, X30, e30, W30, st30⟩ := putF X17 hx hZ hown (host := "") (Or.inl (own_h hw 52 rfl)) Via.refl e17 f19 f18 (Or.inr ⟨(own_h hw 53 rfl), rfl, hnm⟩) (own_h hw 7 rfl) (ty := (.object "java/lang/String")) (by decide) rfl rfl (g := (mkF m 18 #[rv a1, .val .null, rv a2, rv a3, rv a5, rv a4, .val .null, .val .null] [(.ref a2), (.ref a1)])) rfl rfl (hb hby od_prog_100_m_1_18)
  have Fw30 := Fld.same W30 f19
  have f31 := Exa.wr W30 f18
  have f32 := Fld.other W30 f20 (Or.inr (slot_ne (Or.inr (own_h hw 55 rfl)) (Or.inr (own_h hw 53 rfl)) (by decide) (t := (.object "java/lang/String")) (t' := (.object "java/lang/String")) (by decide) (by decide)))
  have f33 := Fld.other W30 f21 (Or.inr (slot_ne (Or.inr (own_h hw 57 rfl)) (Or.inr (own_h hw 53 rfl)) (by decide) (t := (.object "java/util/List")) (t' := (.object "java/lang/String")) (by decide) (by decide)))
  have f34 := Fld.other W30 f22 (Or.inr (slot_ne (Or.inr (own_h hw 61 rfl)) (Or.inr (own_h hw 53 rfl)) (by decide) (t := (.array (.object "java/lang/String"))) (t' := (.object "java/lang/String")) (by decide) (by decide)))
  have f35 := Fld.other W30 f23 (Or.inr (slot_ne (Or.inr (own_h hw 66 rfl)) (Or.inr (own_h hw 53 rfl)) (by decide) (t := .byte) (t' := (.object "java/lang/String")) (by decide) (by decide)))
  have f36 := Fld.other W30 f24 (Or.inr (slot_ne (Or.inr (own_h hw 68 rfl)) (Or.inr (own_h hw 53 rfl)) (by decide) (t := (.object "com/example/tagwright/tagwright/Location")) (t' := (.object "java/lang/String")) (by decide) (by decide)))
  have f37 := Fld.other W30 f25 (Or.inr (slot_ne (Or.inr (own_h hw 70 rfl)) (Or.inr (own_h hw 53 rfl)) (by decide) (t := (.object "com/example/tagwright/tagwright/XmlElement")) (t' := (.object "java/lang/String")) (by decide) (by decide)))
  have f38 := Fld.other W30 f26 (Or.inr (slot_ne (Or.inr (own_h hw 72 rfl)) (Or.inr (own_h hw 53 rfl)) (by decide) (t := .int) (t' := (.object "java/lang/String")) (by decide) (by decide)))
  have f39 := Sta.wr W30 f27
  have f40 := Sta.wr W30 f28
  have f41 := f29.other W30 (Ne.symm pr15)
  have K30 : Keep h0 h30 [a1] := K17.wr W30 (Or.inl (List.mem_of_getElem? (i := 0) rfl))
  have Z30 := Nat.le_trans Z17 (Nat.le_of_eq W30.size.symm)
  have N30 := Fr.snoc X30 N17 g_a1
  refine own_s T30 (mkF m 21 #[rv a1, .val .null, rv a2, rv a3, rv a5, rv a4, .val .null, .val .null] []) st30 ?_
  refine own_s T30 (mkF m 23 #[rv a1, .val .null, rv a2, rv a3, rv a5, rv a4, .val .null, .val .null] [(.ref a3), (.ref a1)]) (fun _ k => XS.aloadN X30.here hx rfl (hb hby od_prog_100_m_1_21) rfl rfl (XS.aloadN X30.here hx rfl (hb hby od_prog_100_m_1_22) rfl rfl k)) ?_
  obtain ⟨T42, h42, X42, e42, W42, st42⟩ := putF X30 hx hZ hown (host := "") (Or.inl (own_h hw 54 rfl)) Via.refl e30 f32 f31 (Or.inr ⟨(own_h hw 55 rfl), rfl, hnm⟩) (own_h hw 7 rfl) (ty := (.object "java/lang/String")) (by decide) rfl rfl (g := (mkF m 23 #[rv a1, .val .null, rv a2, rv a3, rv a5, rv a4, .val .null, .val .null] [(.ref a3), (.ref a1)])) rfl rfl (hb hby od_prog_100_m_1_23)
  have Fw42 := Fld.same W42 f32
  have f43 := Exa.wr W42 f31
  have f44 := Fld.other W42 f33 (Or.inr (slot_ne (Or.inr (own_h hw 57 rfl)) (Or.inr (own_h hw 55 rfl)) (by decide) (t := (.object "java/util/List")) (t' := (.object "java/lang/String")) (by decide) (by decide)))
  have f45 := Fld.other W42 f34 (Or.inr (slot_ne (Or.inr (own_h hw 61 rfl)) (Or.inr (own_h hw 55 rfl)) (by decide) (t := (.array (.object "java/lang/String"))) (t' := (.object "java/lang/String")) (by decide) (by decide)))
  have f46 := Fld.other W42 f35 (Or.inr (slot_ne (Or.inr (own_h hw 66 rfl)) (Or.inr (own_h hw 55 rfl)) (by decide) (t := .byte) (t' := (.object "java/lang/String")) (by decide) (by decide)))
  have f47 := Fld.other W42 f36 (Or.inr (slot_ne (Or.inr (own_h hw 68 rfl)) (Or.inr (own_h hw 55 rfl)) (by decide) (t := (.object "com/example/tagwright/tagwright/Location")) (t' := (.object "java/lang/String")) (by decide) (by decide)))
  have f48 := Fld.other W42 f37 (Or.inr (slot_ne (Or.inr (own_h hw 70 rfl)) (Or.inr (own_h hw 55 rfl)) (by decide) (t := (.object "com/example/tagwright/tagwright/XmlElement")) (t' := (.object "java/lang/String")) (by decide) (by decide)))
  have f49 := Fld.other W42 f38 (Or.inr (slot_ne (Or.inr (own_h hw 72 rfl)) (Or.inr (own_h hw 55 rfl)) (by decide) (t := .int) (t' := (.object "java/lang/String")) (by decide) (by decide)))
  have f50 := Sta.wr W42 f39
  have f51 := Sta.wr W42 f40
  have f52 := f41.other W42 (Ne.symm pr15)
  have K42 : Keep h0 h42 [a1] := K30.wr W42 (Or.inl (List.mem_of_getElem? (i := 0) rfl))
  have Z42 := Nat.le_trans Z30 (Nat.le_of_eq W42.size.symm)
  have N42 := Fr.snoc X42 N30 g_a1
  refine own_s T42 (mkF m 26 #[rv a1, .val .null, rv a2, rv a3, rv a5, rv a4, .val .null, .val .null] []) st42 ?_
  refine own_s T42 (mkF m 29 #[rv a1, .val .null, rv a2, rv a3, rv a5, rv a4, .val .null, .val .null] [(.ref a5), (.ref a1)]) (fun _ k => XS.aloadN X42.here hx rfl (hb hby od_prog_100_m_1_26) rfl rfl (XS.aload X42.here hx rfl (hb hby od_prog_100_m_1_27) rfl rfl k)) ?_
  obtain ⟨T53, h53, X53, e53, W53, st53⟩ := putF X42 hx hZ hown (host := "") (Or.inl (own_h hw 56 rfl)) Via.refl e42 f44 f43 (Or.inr ⟨(own_h hw 57 rfl), rfl, hnm⟩) (own_h hw 7 rfl) (ty := (.object "java/util/List")) (by decide) rfl rfl (g := (mkF m 29 #[rv a1, .val .null, rv a2, rv a3, rv a5, rv a4, .val .null, .val .null] [(.ref a5), (.ref a1)])) rfl rfl (hb hby od_prog_100_m_1_29)
  have Fw53 := Fld.same W53 f44
  have f54 := Exa.wr W53 f43
  have f55 := Fld.other W53 f45 (Or.inr (slot_ne (Or.inr (own_h hw 61 rfl)) (Or.inr (own_h hw 57 rfl)) (by decide) (t := (.array (.object "java/lang/String"))) (t' := (.object "java/util/List")) (by decide) (by decide)))
  have f56 := Fld.other W53 f46 (Or.inr (slot_ne (Or.inr (own_h hw 66 rfl)) (Or.inr (own_h hw 57 rfl)) (by decide) (t := .byte) (t' := (.object "java/util/List")) (by decide) (by decide)))
  have f57 := Fld.other W53 f47 (Or.inr (slot_ne (Or.inr (own_h hw 68 rfl)) (Or.inr (own_h hw 57 rfl)) (by decide) (t := (.object "com/example/tagwright/tagwright/Location")) (t' := (.object "java/util/List")) (by decide) (by decide)))
  have f58 := Fld.other W53 f48 (Or.inr (slot_ne (Or.inr (own_h hw 70 rfl)) (Or.inr (own_h hw 57 rfl)) (by decide) (t := (.object "com/example/tagwright/tagwright/XmlElement")) (t' := (.object "java/util/List")) (by decide) (by decide)))
  have f59 := Fld.other W53 f49 (Or.inr (slot_ne (Or.inr (own_h hw 72 rfl)) (Or.inr (own_h hw 57 rfl)) (by decide) (t := .int) (t' := (.object "java/util/List")) (by decide) (by decide)))
  have f60 := Sta.wr W53 f50
  have f61 := Sta.wr W53 f51
  have f62 := f52.other W53 (Ne.symm pr15)
  have K53 : Keep h0 h53 [a1] := K42.wr W53 (Or.inl (List.mem_of_getElem? (i := 0) rfl))
  have Z53 := Nat.le_trans Z42 (Nat.le_of_eq W53.size.symm)
  have N53 := Fr.snoc X53 N42 g_a1
  refine own_s T53 (mkF m 32 #[rv a1, .val .null, rv a2, rv a3, rv a5, rv a4, .val .null, .val .null] []) st53 ?_
  refine own_s T53 (mkF m 35 #[rv a1, .val .null, rv a2, rv a3, rv a5, rv a4, .val .null, .val .null] [(.ref a4), (.ref a1)]) (fun _ k => XS.aloadN X53.here hx rfl (hb hby od_prog_100_m_1_32) rfl rfl (XS.aload X53.here hx rfl (hb hby od_prog_100_m_1_33) rfl rfl k)) ?_
  obtain ⟨cl63, Ar63, q63, S63, Nn63, H63, G63⟩ := id f62
  refine own_s T53 (mkF m 47 #[rv a1, .val .null, rv a2, rv a3, rv a5, rv a4, .val .null, .val .null] [(.ref a4), (.ref a1)]) (fun _ k => own_len X53 hx hZ e53 Ar63 S63 Nn63 (g := (mkF m 35 #[rv a1, .val .null, rv a2, rv a3, rv a5, rv a4, .val .null, .val .null] [(.ref a4), (.ref a1)])) rfl rfl (hb hby od_prog_100_m_1_35) (XS.ifYes X53.here hx rfl (pc0 := 36) (pc' := 45) rfl (hb hby od_prog_100_m_1_36) rfl ((if0 _ _).trans (feq hz0).2) (by decide) (by decide) (XS.aload X53.here hx rfl (hb hby od_prog_100_m_1_45) rfl rfl k))) ?_
  obtain ⟨T64, h64, X64, e64, W64, st64⟩ := putF X53 hx hZ hown (host := "") (Or.inl (own_h hw 60 rfl)) Via.refl e53 f55 f54 (Or.inr ⟨(own_h hw 61 rfl), rfl, hnm⟩) (own_h hw 7 rfl) (ty := (.array (.object "java/lang/String"))) (by decide) rfl rfl (g := (mkF m 47 #[rv a1, .val .null, rv a2, rv a3, rv a5, rv a4, .val .null, .val .null] [(.ref a4), (.ref a1)])) rfl rfl (hb hby od_prog_100_m_1_47)
  have Fw64 := Fld.same W64 f55
  have f65 := Exa.wr W64 f54
  have f66 := Fld.other W64 f56 (Or.inr (slot_ne (Or.inr (own_h hw 66 rfl)) (Or.inr (own_h hw 61 rfl)) (by decide) (t := .byte) (t' := (.array (.object "java/lang/String"))) (by decide) (by decide)))
  have f67 := Fld.other W64 f57 (Or.inr (slot_ne (Or.inr (own_h hw 68 rfl)) (Or.inr (own_h hw 61 rfl)) (by decide) (t := (.object "com/example/tagwright/tagwright/Location")) (t' := (.array (.object "java/lang/String"))) (by decide) (by decide)))
  have f68 := Fld.other W64 f58 (Or.inr (slot_ne (Or.inr (own_h hw 70 rfl)) (Or.inr (own_h hw 61 rfl)) (by decide) (t := (.object "com/example/tagwright/tagwright/XmlElement")) (t' := (.array (.object "java/lang/String"))) (by decide) (by decide)))
  have f69 := Fld.other W64 f59 (Or.inr (slot_ne (Or.inr (own_h hw 72 rfl)) (Or.inr (own_h hw 61 rfl)) (by decide) (t := .int) (t' := (.array (.object "java/lang/String"))) (by decide) (by decide)))
  have f70 := Sta.wr W64 f60
  have f71 := Sta.wr W64 f61
  have f72 := f62.other W64 (Ne.symm pr15)
  have K64 : Keep h0 h64 [a1] := K53.wr W64 (Or.inl (List.mem_of_getElem? (i := 0) rfl))
  have Z64 := Nat.le_trans Z53 (Nat.le_of_eq W64.size.symm)
  have N64 := Fr.snoc X64 N53 g_a1
  refine own_s T64 (mkF m 50 #[rv a1, .val .null, rv a2, rv a3, rv a5, rv a4, .val .null, .val .null] []) st64 ?_
  refine own_s T64 (mkF m 53 #[rv a1, .val .null, rv a2, rv a3, rv a5, rv a4, .val .null, .val .null] [(.ref a4), (.ref a1)]) (fun _ k => XS.aloadN X64.here hx rfl (hb hby od_prog_100_m_1_50) rfl rfl (XS.aload X64.here hx rfl (hb hby od_prog_100_m_1_51) rfl rfl k)) ?_
  obtain ⟨v73, T73, L73, X73, hQ73, st73⟩ := own_callS X64 hx hZ (y := own_y7) (W := 1) hown (own_h hw 62 rfl) (own_h hw 63 rfl) (own_h hw 2 rfl) (own_h hw 64 rfl) (by decide) (own_rmisnO l Z a0 hw [] a4 ka vs z h64 n0 Z64 f72 hm) (by decide) (by decide) (g := (mkF m 53 #[rv a1, .val .null, rv a2, rv a3, rv a5, rv a4, .val .null, .val .null] [(.ref a4), (.ref a1)])) rfl (by rw [hml]; rfl) (argsL := [(.ref a4)]) (rest := [(.ref a1)]) rfl (lenOf own_pd5 rfl) rfl (by show 2 * 0 + _ ≤ _; exact Nat.le_of_eq rfl) (hb hby od_prog_100_m_1_53) e64 (by decide) (by decide)
  obtain ⟨rfl, Nq73, e73⟩ := hQ73
  have N73 := Fr.app N64 Nq73
  refine own_s T73 (mkF m 56 #[rv a1, .val .null, rv a2, rv a3, rv a5, rv a4, .val .null, .val .null] [(.int 1), (.ref a1)]) st73 ?_
  refine own_s T73 (mkF m 65 #[rv a1, .val .null, rv a2, rv a3, rv a5, rv a4, .val .null, .val .null] [(.int ((4 : Int32).toInt8.toInt32)), (.ref a1)]) (fun _ k => XS.ifNo X73.here hx rfl (hb hby od_prog_100_m_1_56) rfl ((if0 _ _).trans (feq (by decide : ¬ ((1 : Int32) = (0 : Int32)))).1) (XS.iconst X73.here hx rfl (hb hby od_prog_100_m_1_59) (XS.goto X73.here hx rfl (pc0 := 60) (pc' := 64) rfl (hb hby od_prog_100_m_1_60) (by decide) (by decide) (XS.i2b X73.here hx rfl (hb hby od_prog_100_m_1_64) rfl k)))) ?_
  obtain ⟨T74, h74, X74, e74, W74, st74⟩ := putFN X73 hx hZ hown (own_h hw 65 rfl) Via.refl e73 f66 f65 (Or.inr ⟨(own_h hw 66 rfl), rfl, hnm⟩) (own_h hw 7 rfl) (ty := .byte) (v' := (.int 4)) (by decide) rfl rfl (g := (mkF m 65 #[rv a1, .val .null, rv a2, rv a3, rv a5, rv a4, .val .null, .val .null] [(.int ((4 : Int32).toInt8.toInt32)), (.ref a1)])) rfl rfl (hb hby od_prog_100_m_1_65)
  have Fw74 := Fld.same W74 f66
  have f75 := Exa.wr W74 f65
  have f76 := Fld.other W74 Fw64 (Or.inr (slot_ne (Or.inr (own_h hw 61 rfl)) (Or.inr (own_h hw 66 rfl)) (by decide) (t := (.array (.object "java/lang/String"))) (t' := .byte) (by decide) (by decide)))
  have f77 := Fld.other W74 f67 (Or.inr (slot_ne (Or.inr (own_h hw 68 rfl)) (Or.inr (own_h hw 66 rfl)) (by decide) (t := (.object "com/example/tagwright/tagwright/Location")) (t' := .byte) (by decide) (by decide)))
  have f78 := Fld.other W74 f68 (Or.inr (slot_ne (Or.inr (own_h hw 70 rfl)) (Or.inr (own_h hw 66 rfl)) (by decide) (t := (.object "com/example/tagwright/tagwright/XmlElement")) (t' := .byte) (by decide) (by decide)))
  have f79 := Fld.other W74 f69 (Or.inr (slot_ne (Or.inr (own_h hw 72 rfl)) (Or.inr (own_h hw 66 rfl)) (by decide) (t := .int) (t' := .byte) (by decide) (by decide)))
  have f80 := Sta.wr W74 f70
  have f81 := Sta.wr W74 f71
  have f82 := f72.other W74 (Ne.symm pr15)
  have K74 : Keep h0 h74 [a1] := K64.wr W74 (Or.inl (List.mem_of_getElem? (i := 0) rfl))
  have Z74 := Nat.le_trans Z64 (Nat.le_of_eq W74.size.symm)
  have N74 := Fr.snoc X74 N73 g_a1
  refine own_s T74 (mkF m 68 #[rv a1, .val .null, rv a2, rv a3, rv a5, rv a4, .val .null, .val .null] []) st74 ?_
  refine own_s T74 (mkF m 71 #[rv a1, .val .null, rv a2, rv a3, rv a5, rv a4, .val .null, .val .null] [.null, (.ref a1)]) (fun _ k => XS.aloadN X74.here hx rfl (hb hby od_prog_100_m_1_68) rfl rfl (XS.aload X74.here hx rfl (hb hby od_prog_100_m_1_69) rfl rfl k)) ?_
  obtain ⟨T83, h83, X83, e83, W83, st83⟩ := putF X74 hx hZ hown (host := "") (Or.inl (own_h hw 67 rfl)) Via.refl e74 f77 f75 (Or.inr ⟨(own_h hw 68 rfl), rfl, hnm⟩) (own_h hw 7 rfl) (ty := (.object "com/example/tagwright/tagwright/Location")) (by decide) rfl rfl (g := (mkF m 71 #[rv a1, .val .null, rv a2, rv a3, rv a5, rv a4, .val .null, .val .null] [.null, (.ref a1)])) rfl rfl (hb hby od_prog_100_m_1_71)
  have Fw83 := Fld.same W83 f77
  have f84 := Exa.wr W83 f75
  have f85 := Fld.other W83 f76 (Or.inr (slot_ne (Or.inr (own_h hw 61 rfl)) (Or.inr (own_h hw 68 rfl)) (by decide) (t := (.array (.object "java/lang/String"))) (t' := (.object "com/example/tagwright/tagwright/Location")) (by decide) (by decide)))
  have f86 := Fld.other W83 Fw74 (Or.inr (slot_ne (Or.inr (own_h hw 66 rfl)) (Or.inr (own_h hw 68 rfl)) (by decide) (t := .byte) (t' := (.object "com/example/tagwright/tagwright/Location")) (by decide) (by decide)))
  have f87 := Fld.other W83 f78 (Or.inr (slot_ne (Or.inr (own_h hw 70 rfl)) (Or.inr (own_h hw 68 rfl)) (by decide) (t := (.object "com/example/tagwright/tagwright/XmlElement")) (t' := (.object "com/example/tagwright/tagwright/Location")) (by decide) (by decide)))
  have f88 := Fld.other W83 f79 (Or.inr (slot_ne (Or.inr (own_h hw 72 rfl)) (Or.inr (own_h hw 68 rfl)) (by decide) (t := .int) (t' := (.object "com/example/tagwright/tagwright/Location")) (by decide) (by decide)))
  have f89 := Sta.wr W83 f80
  have f90 := Sta.wr W83 f81
  have f91 := f82.other W83 (Ne.symm pr15)
  have K83 : Keep h0 h83 [a1] := K74.wr W83 (Or.inl (List.mem_of_getElem? (i := 0) rfl))
  have Z83 := Nat.le_trans Z74 (Nat.le_of_eq W83.size.symm)
  have N83 := Fr.snoc X83 N74 g_a1
  refine own_s T83 (mkF m 74 #[rv a1, .val .null, rv a2, rv a3, rv a5, rv a4, .val .null, .val .null] []) st83 ?_
  refine own_s T83 (mkF m 77 #[rv a1, .val .null, rv a2, rv a3, rv a5, rv a4, .val .null, .val .null] [.null, (.ref a1)]) (fun _ k => XS.aloadN X83.here hx rfl (hb hby od_prog_100_m_1_74) rfl rfl (XS.aload X83.here hx rfl (hb hby od_prog_100_m_1_75) rfl rfl k)) ?_
  obtain ⟨T92, h92, X92, e92, W92, st92⟩ := putF X83 hx hZ hown (host := "") (Or.inl (own_h hw 69 rfl)) Via.refl e83 f87 f84 (Or.inr ⟨(own_h hw 70 rfl), rfl, hnm⟩) (own_h hw 7 rfl) (ty := (.object "com/example/tagwright/tagwright/XmlElement")) (by decide) rfl rfl (g := (mkF m 77 #[rv a1, .val .null, rv a2, rv a3, rv a5, rv a4, .val .null, .val .null] [.null, (.ref a1)])) rfl rfl (hb hby od_prog_100_m_1_77)
  have Fw92 := Fld.same W92 f87
  have f93 := Exa.wr W92 f84
  have f94 := Fld.other W92 f85 (Or.inr (slot_ne (Or.inr (own_h hw 61 rfl)) (Or.inr (own_h hw 70 rfl)) (by decide) (t := (.array (.object "java/lang/String"))) (t' := (.object "com/example/tagwright/tagwright/XmlElement")) (by decide) (by decide)))
  have f95 := Fld.other W92 f86 (Or.inr (slot_ne (Or.inr (own_h hw 66 rfl)) (Or.inr (own_h hw 70 rfl)) (by decide) (t := .byte) (t' := (.object "com/example/tagwright/tagwright/XmlElement")) (by decide) (by decide)))
  have f96 := Fld.other W92 f88 (Or.inr (slot_ne (Or.inr (own_h hw 72 rfl)) (Or.inr (own_h hw 70 rfl)) (by decide) (t := .int) (t' := (.object "com/example/tagwright/tagwright/XmlElement")) (by decide) (by decide)))
  have f97 := Sta.wr W92 f89
  have f98 := Sta.wr W92 f90
  have f99 := f91.other W92 (Ne.symm pr15)
  have K92 : Keep h0 h92 [a1] := K83.wr W92 (Or.inl (List.mem_of_getElem? (i := 0) rfl))
  have Z92 := Nat.le_trans Z83 (Nat.le_of_eq W92.size.symm)
  have N92 := Fr.snoc X92 N83 g_a1
  refine own_s T92 (mkF m 80 #[rv a1, .val .null, rv a2, rv a3, rv a5, rv a4, .val .null, .val .null] []) st92 ?_
  refine own_s T92 (mkF m 96 #[rv a1, .val .null, rv a2, rv a3, rv a5, rv a4, .val .null, .val .null] [(.int 0), (.ref a1)]) (fun _ k => XS.aloadN X92.here hx rfl (hb hby od_prog_100_m_1_80) rfl rfl (XS.aload X92.here hx rfl (hb hby od_prog_100_m_1_81) rfl rfl (XS.ifnonnullNo X92.here hx rfl (hb hby od_prog_100_m_1_83) rfl (XS.iconst X92.here hx rfl (hb hby od_prog_100_m_1_86) (XS.goto X92.here hx rfl (pc0 := 87) (pc' := 96) rfl (hb hby od_prog_100_m_1_87) (by decide) (by decide) k))))) ?_
  obtain ⟨T100, h100, X100, e100, W100, st100⟩ := putF X92 hx hZ hown (host := "") (Or.inl (own_h hw 71 rfl)) Via.refl e92 f96 f93 (Or.inr ⟨(own_h hw 72 rfl), rfl, hnm⟩) (own_h hw 7 rfl) (ty := .int) (by decide) rfl rfl (g := (mkF m 96 #[rv a1, .val .null, rv a2, rv a3, rv a5, rv a4, .val .null, .val .null] [(.int 0), (.ref a1)])) rfl rfl (hb hby od_prog_100_m_1_96)
  have Fw100 := Fld.same W100 f96
  have f101 := Exa.wr W100 f93
  have f102 := Fld.other W100 f94 (Or.inr (slot_ne (Or.inr (own_h hw 61 rfl)) (Or.inr (own_h hw 72 rfl)) (by decide) (t := (.array (.object "java/lang/String"))) (t' := .int) (by decide) (by decide)))
  have f103 := Fld.other W100 f95 (Or.inr (slot_ne (Or.inr (own_h hw 66 rfl)) (Or.inr (own_h hw 72 rfl)) (by decide) (t := .byte) (t' := .int) (by decide) (by decide)))
  have f104 := Sta.wr W100 f97
  have f105 := Sta.wr W100 f98
  have f106 := f99.other W100 (Ne.symm pr15)
  have K100 : Keep h0 h100 [a1] := K92.wr W100 (Or.inl (List.mem_of_getElem? (i := 0) rfl))
  have Z100 := Nat.le_trans Z92 (Nat.le_of_eq W100.size.symm)
  have N100 := Fr.snoc X100 N92 g_a1
  refine own_s T100 (mkF m 99 #[rv a1, .val .null, rv a2, rv a3, rv a5, rv a4, .val .null, .val .null] []) st100 ?_
  exact own_finV X100 hx hret (hb hby od_prog_100_m_1_99) (own_end (Qv := (own_Qxi_o Z a1 a2 a3 a5 a4 oN oA ka vs z h0 n0)) X100 (fun _ => rfl) hlk (by decide) (by decide) e100 ⟨rfl, N100, K100, f101, f102, f103⟩)
theorem own_efxi_e (m : MethodId) (x0 : Addr) (x2 : Addr) (x3 : Addr) (x4 : Addr) (x5 : Addr) : entryFrame m #[(.ref x0), .null, (.ref x2), (.ref x3), (.ref x4), (.ref x5), .null, .null] 8 = mkF m 0 #[rv x0, .val .null, rv x2, rv x3, rv x4, rv x5, .val .null, .val .null] [] := by first | (simp [entryFrame, mkF, argsToLocals, Value.category]; done) | rfl
def own_Qxi_e (Z : State) (a1 : Addr) (a2 : Addr) (a3 : Addr) (a5 : Addr) (a4 : Addr) (oN : Addr) (oA : Addr) (ka : ClassId) (vs : List Value) (z : Int32) (h0 : Heap) (n0 : Nat) : Option Value → Heap → List Loc → Prop := fun v h L => v = none ∧ Fr n0 L ∧ Keep h0 h [a1] ∧ Exa Z h a1 "com/example/tagwright/tagwright/XmlElement" ∧ Fld Z h a1 "com/example/tagwright/tagwright/XmlElement" "attributes" "[Ljava/lang/String;" (.ref a4) ∧ Fld Z h a1 "com/example/tagwright/tagwright/XmlElement" "stride" "B" (.int 2)
def own_Rxi_e : Room := { frames := 1, cells := 0, slots := 0, locals := 13 }
set_option maxRecDepth 65536 in
set_option maxHeartbeats 40000000 in
theorem own_rmxi_e (l : Launch) (Z : State) (a0 : Array Value) (hw : ∀ d ∈ tables_1, d.before a0 Z = true) (ws : List Jvm.Cond) (a1 : Addr) (a2 : Addr) (a3 : Addr) (a5 : Addr) (a4 : Addr) (oN : Addr) (oA : Addr) (ka : ClassId) (vs : List Value) (z : Int32) (h0 : Heap) (n0 : Nat) (Z0 : n0 ≤ h0.size) (g_a1 : n0 ≤ a1) (pr1 : Exa Z h0 a1 "com/example/tagwright/tagwright/XmlElement") (pr2 : Fld Z h0 a1 "com/example/tagwright/tagwright/XmlElement" "children" "Ljava/util/List;" .null) (pr3 : Fld Z h0 a1 "com/example/tagwright/tagwright/XmlElement" "namespace" "Ljava/lang/String;" .null) (pr4 : Fld Z h0 a1 "com/example/tagwright/tagwright/XmlElement" "localName" "Ljava/lang/String;" .null) (pr5 : Fld Z h0 a1 "com/example/tagwright/tagwright/XmlElement" "tagName" "Ljava/lang/String;" .null) (pr6 : Fld Z h0 a1 "com/example/tagwright/tagwright/XmlElement" "declarations" "Ljava/util/List;" .null) (pr7 : Fld Z h0 a1 "com/example/tagwright/tagwright/XmlElement" "attributes" "[Ljava/lang/String;" .null) (pr8 : Fld Z h0 a1 "com/example/tagwright/tagwright/XmlElement" "stride" "B" (.int 0)) (pr9 : Fld Z h0 a1 "com/example/tagwright/tagwright/XmlElement" "location" "Lcom/example/tagwright/tagwright/Location;" .null) (pr10 : Fld Z h0 a1 "com/example/tagwright/tagwright/XmlElement" "parent" "Lcom/example/tagwright/tagwright/XmlElement;" .null) (pr11 : Fld Z h0 a1 "com/example/tagwright/tagwright/XmlElement" "index" "I" (.int 0)) (pr12 : Sta Z h0 "com/example/tagwright/tagwright/XmlElement" "NO_CHILDREN" "Ljava/util/List;" (.ref oN)) (pr13 : Sta Z h0 "com/example/tagwright/tagwright/XmlElement" "NO_ATTRIBUTES" "[Ljava/lang/String;" (.ref oA)) (pr14 : Arv Z h0 a4 ka (.object "java/lang/String") z vs .null) (pr15 : a1 ≠ a4) (hz0 : ¬ z = (0 : Int32)) (hm : ¬ z % (2 : Int32) = (1 : Int32)) :
    own_Met l Z own_y11 prog_100_method_1_code 8 none ws own_Rxi_e h0 #[(.ref a1), .null, (.ref a2), (.ref a3), (.ref a5), (.ref a4), .null, .null] (own_Qxi_e Z a1 a2 a3 a5 a4 oN oA ka vs z h0 n0) own_Rxi_e.cells own_Rxi_e.slots := by
  refine own_start (plainFor_of_name own_pn3) ?_
  intro p e s m below meth c s₁ X0 hx hZ hby hml hret hlk hown hnm e0
  have hown : s.vm.findClass "com/example/tagwright/tagwright/XmlElement" = some m.cls := hown
  have hml : c.maxLocals = 8 := hml
  have N0 := Fr.nil n0
  refine own_cast (own_efxi_e m a1 a2 a3 a5 a4) ?_
  refine own_s s₁ (mkF m 1 #[rv a1, .val .null, rv a2, rv a3, rv a5, rv a4, .val .null, .val .null] [(.ref a1)]) (fun _ k => XS.aloadN X0.here hx rfl (hb hby od_prog_100_m_1_0) rfl rfl k) ?_
  obtain ⟨T1, X1, e1, st1⟩ := initO X0 hx hZ hown (own_h hw 45 rfl) (own_h hw 35 rfl) (own_h hw 36 rfl) e0 (g := (mkF m 1 #[rv a1, .val .null, rv a2, rv a3, rv a5, rv a4, .val .null, .val .null] [(.ref a1)])) rfl (by rw [hml]; rfl) rfl (hb hby od_prog_100_m_1_1) (by decide) (W := 0) (by show 2 * 0 + _ ≤ _; exact Nat.le_of_eq rfl) (by decide)
  refine own_s T1 (mkF m 4 #[rv a1, .val .null, rv a2, rv a3, rv a5, rv a4, .val .null, .val .null] []) st1 ?_
  refine own_s T1 (mkF m 5 #[rv a1, .val .null, rv a2, rv a3, rv a5, rv a4, .val .null, .val .null] [(.ref a1)]) (fun _ k => XS.aloadN X1.here hx rfl (hb hby od_prog_100_m_1_4) rfl rfl k) ?_
  obtain ⟨T2, X2, e2, st2⟩ := getS2 X1 hx hZ hown (host := "") (Or.inl (own_h hw 46 rfl)) Via.refl e1 pr12 (g := (mkF m 5 #[rv a1, .val .null, rv a2, rv a3, rv a5, rv a4, .val .null, .val .null] [(.ref a1)])) rfl (hb hby od_prog_100_m_1_5)
  refine own_s T2 (mkF m 8 #[rv a1, .val .null, rv a2, rv a3, rv a5, rv a4, .val .null, .val .null] [(.ref oN), (.ref a1)]) st2 ?_
  obtain ⟨T3, h3, X3, e3, W3, st3⟩ := putF X2 hx hZ hown (host := "") (Or.inl (own_h hw 48 rfl)) Via.refl e2 pr2 pr1 (Or.inl (own_h hw 49 rfl)) (own_h hw 7 rfl) (ty := (.object "java/util/List")) (by decide) rfl rfl (g := (mkF m 8 #[rv a1, .val .null, rv a2, rv a3, rv a5, rv a4, .val .null, .val .null] [(.ref oN), (.ref a1)])) rfl rfl (hb hby od_prog_100_m_1_8)
  have Fw3 := Fld.same W3 pr2
  have f4 := Exa.wr W3 pr1
  have f5 := Fld.other W3 pr3 (Or.inr (slot_ne (Or.inr (own_h hw 51 rfl)) (Or.inl (own_h hw 49 rfl)) (by decide) (t := (.object "java/lang/String")) (t' := (.object "java/util/List")) (by decide) (by decide)))
  have f6 := Fld.other W3 pr4 (Or.inr (slot_ne (Or.inr (own_h hw 53 rfl)) (Or.inl (own_h hw 49 rfl)) (by decide) (t := (.object "java/lang/String")) (t' := (.object "java/util/List")) (by decide) (by decide)))
  have f7 := Fld.other W3 pr5 (Or.inr (slot_ne (Or.inr (own_h hw 55 rfl)) (Or.inl (own_h hw 49 rfl)) (by decide) (t := (.object "java/lang/String")) (t' := (.object "java/util/List")) (by decide) (by decide)))
  have f8 := Fld.other W3 pr6 (Or.inr (slot_ne (Or.inr (own_h hw 57 rfl)) (Or.inl (own_h hw 49 rfl)) (by decide) (t := (.object "java/util/List")) (t' := (.object "java/util/List")) (by decide) (by decide)))
  have f9 := Fld.other W3 pr7 (Or.inr (slot_ne (Or.inr (own_h hw 61 rfl)) (Or.inl (own_h hw 49 rfl)) (by decide) (t := (.array (.object "java/lang/String"))) (t' := (.object "java/util/List")) (by decide) (by decide)))
  have f10 := Fld.other W3 pr8 (Or.inr (slot_ne (Or.inr (own_h hw 66 rfl)) (Or.inl (own_h hw 49 rfl)) (by decide) (t := .byte) (t' := (.object "java/util/List")) (by decide) (by decide)))
  have f11 := Fld.other W3 pr9 (Or.inr (slot_ne (Or.inr (own_h hw 68 rfl)) (Or.inl (own_h hw 49 rfl)) (by decide) (t := (.object "com/example/tagwright/tagwright/Location")) (t' := (.object "java/util/List")) (by decide) (by decide)))
  have f12 := Fld.other W3 pr10 (Or.inr (slot_ne (Or.inr (own_h hw 70 rfl)) (Or.inl (own_h hw 49 rfl)) (by decide) (t := (.object "com/example/tagwright/tagwright/XmlElement")) (t' := (.object "java/util/List")) (by decide) (by decide)))
  have f13 := Fld.other W3 pr11 (Or.inr (slot_ne (Or.inr (own_h hw 72 rfl)) (Or.inl (own_h hw 49 rfl)) (by decide) (t := .int) (t' := (.object "java/util/List")) (by decide) (by decide)))
  have f14 := Sta.wr W3 pr12
  have f15 := Sta.wr W3 pr13
  have f16 := pr14.other W3 (Ne.symm pr15)
  have K3 : Keep h0 h3 [a1] := (Keep.refl h0 [a1]).wr W3 (Or.inl (List.mem_of_getElem? (i := 0) rfl))
  have Z3 := Nat.le_trans Z0 (Nat.le_of_eq W3.size.symm)
  have N3 := Fr.snoc X3 N0 g_a1
  refine own_s T3 (mkF m 11 #[rv a1, .val .null, rv a2, rv a3, rv a5, rv a4, .val .null, .val .null] []) st3 ?_
  refine own_s T3 (mkF m 13 #[rv a1, .val .null, rv a2, rv a3, rv a5, rv a4, .val .null, .val .null] [.null, (.ref a1)]) (fun _ k => XS.aloadN X3.here hx rfl (hb hby od_prog_100_m_1_11) rfl rfl (XS.aloadN X3.here hx rfl (hb hby od_prog_100_m_1_12) rfl rfl k)) ?_
  obtain ⟨T17, h17, X17, e17, W17, st17⟩ := putF X3 hx hZ hown (host := "") (Or.inl (own_h hw 50 rfl)) Via.refl e3 f5 f4 (Or.inr ⟨(own_h hw 51 rfl), rfl, hnm⟩) (own_h hw 7 rfl) (ty := (.object "java/lang/String")) (by decide) rfl rfl (g := (mkF m 13 #[rv a1, .val .null, rv a2, rv a3, rv a5, rv a4, .val .null, .val .null] [.null, (.ref a1)])) rfl rfl (hb hby od_prog_100_m_1_13)
  have Fw17 := Fld.same W17 f5
  have f18 := Exa.wr W17 f4
  have f19 := Fld.other W17 f6 (Or.inr (slot_ne (Or.inr (own_h hw 53 rfl)) (Or.inr (own_h hw 51 rfl)) (by decide) (t := (.object "java/lang/String")) (t' := (.object "java/lang/String")) (by decide) (by decide)))
  have f20 := Fld.other W17 f7 (Or.inr (slot_ne (Or.inr (own_h hw 55 rfl)) (Or.inr (own_h hw 51 rfl)) (by decide) (t := (.object "java/lang/String")) (t' := (.object "java/lang/String")) (by decide) (by decide)))
  have f21 := Fld.other W17 f8 (Or.inr (slot_ne (Or.inr (own_h hw 57 rfl)) (Or.inr (own_h hw 51 rfl)) (by decide) (t := (.object "java/util/List")) (t' := (.object "java/lang/String")) (by decide) (by decide)))
  have f22 := Fld.other W17 f9 (Or.inr (slot_ne (Or.inr (own_h hw 61 rfl)) (Or.inr (own_h hw 51 rfl)) (by decide) (t := (.array (.object "java/lang/String"))) (t' := (.object "java/lang/String")) (by decide) (by decide)))
  have f23 := Fld.other W17 f10 (Or.inr (slot_ne (Or.inr (own_h hw 66 rfl)) (Or.inr (own_h hw 51 rfl)) (by decide) (t := .byte) (t' := (.object "java/lang/String")) (by decide) (by decide)))
  have f24 := Fld.other W17 f11 (Or.inr (slot_ne (Or.inr (own_h hw 68 rfl)) (Or.inr (own_h hw 51 rfl)) (by decide) (t := (.object "com/example/tagwright/tagwright/Location")) (t' := (.object "java/lang/String")) (by decide) (by decide)))
  have f25 := Fld.other W17 f12 (Or.inr (slot_ne (Or.inr (own_h hw 70 rfl)) (Or.inr (own_h hw 51 rfl)) (by decide) (t := (.object "com/example/tagwright/tagwright/XmlElement")) (t' := (.object "java/lang/String")) (by decide) (by decide)))
  have f26 := Fld.other W17 f13 (Or.inr (slot_ne (Or.inr (own_h hw 72 rfl)) (Or.inr (own_h hw 51 rfl)) (by decide) (t := .int) (t' := (.object "java/lang/String")) (by decide) (by decide)))
  have f27 := Sta.wr W17 f14
  have f28 := Sta.wr W17 f15
  have f29 := f16.other W17 (Ne.symm pr15)
  have K17 : Keep h0 h17 [a1] := K3.wr W17 (Or.inl (List.mem_of_getElem? (i := 0) rfl))
  have Z17 := Nat.le_trans Z3 (Nat.le_of_eq W17.size.symm)
  have N17 := Fr.snoc X17 N3 g_a1
  refine own_s T17 (mkF m 16 #[rv a1, .val .null, rv a2, rv a3, rv a5, rv a4, .val .null, .val .null] []) st17 ?_
  refine own_s T17 (mkF m 18 #[rv a1, .val .null, rv a2, rv a3, rv a5, rv a4, .val .null, .val .null] [(.ref a2), (.ref a1)]) (fun _ k => XS.aloadN X17.here hx rfl (hb hby od_prog_100_m_1_16) rfl rfl (XS.aloadN X17.here hx rfl (hb hby od_prog_100_m_1_17) rfl rfl k)) ?_
  obtain ⟨T30, h30, X30, e30, W30, st30⟩ := putF X17 hx hZ hown (host := "") (Or.inl (own_h hw 52 rfl)) Via.refl e17 f19 f18 (Or.inr ⟨(own_h hw 53 rfl), rfl, hnm⟩) (own_h hw 7 rfl) (ty := (.object "java/lang/String")) (by decide) rfl rfl (g := (mkF m 18 #[rv a1, .val .null, rv a2, rv a3, rv a5, rv a4, .val .null, .val .null] [(.ref a2), (.ref a1)])) rfl rfl (hb hby od_prog_100_m_1_18)
  have Fw30 := Fld.same W30 f19
  have f31 := Exa.wr W30 f18
  have f32 := Fld.other W30 f20 (Or.inr (slot_ne (Or.inr (own_h hw 55 rfl)) (Or.inr (own_h hw 53 rfl)) (by decide) (t := (.object "java/lang/String")) (t' := (.object "java/lang/String")) (by decide) (by decide)))
  have f33 := Fld.other W30 f21 (Or.inr (slot_ne (Or.inr (own_h hw 57 rfl)) (Or.inr (own_h hw 53 rfl)) (by decide) (t := (.object "java/util/List")) (t' := (.object "java/lang/String")) (by decide) (by decide)))
  have f34 := Fld.other W30 f22 (Or.inr (slot_ne (Or.inr (own_h hw 61 rfl)) (Or.inr (own_h hw 53 rfl)) (by decide) (t := (.array (.object "java/lang/String"))) (t' := (.object "java/lang/String")) (by decide) (by decide)))
  have f35 := Fld.other W30 f23 (Or.inr (slot_ne (Or.inr (own_h hw 66 rfl)) (Or.inr (own_h hw 53 rfl)) (by decide) (t := .byte) (t' := (.object "java/lang/String")) (by decide) (by decide)))
  have f36 := Fld.other W30 f24 (Or.inr (slot_ne (Or.inr (own_h hw 68 rfl)) (Or.inr (own_h hw 53 rfl)) (by decide) (t := (.object "com/example/tagwright/tagwright/Location")) (t' := (.object "java/lang/String")) (by decide) (by decide)))
  have f37 := Fld.other W30 f25 (Or.inr (slot_ne (Or.inr (own_h hw 70 rfl)) (Or.inr (own_h hw 53 rfl)) (by decide) (t := (.object "com/example/tagwright/tagwright/XmlElement")) (t' := (.object "java/lang/String")) (by decide) (by decide)))
  have f38 := Fld.other W30 f26 (Or.inr (slot_ne (Or.inr (own_h hw 72 rfl)) (Or.inr (own_h hw 53 rfl)) (by decide) (t := .int) (t' := (.object "java/lang/String")) (by decide) (by decide)))
  have f39 := Sta.wr W30 f27
  have f40 := Sta.wr W30 f28
  have f41 := f29.other W30 (Ne.symm pr15)
  have K30 : Keep h0 h30 [a1] := K17.wr W30 (Or.inl (List.mem_of_getElem? (i := 0) rfl))
  have Z30 := Nat.le_trans Z17 (Nat.le_of_eq W30.size.symm)
  have N30 := Fr.snoc X30 N17 g_a1
  refine own_s T30 (mkF m 21 #[rv a1, .val .null, rv a2, rv a3, rv a5, rv a4, .val .null, .val .null] []) st30 ?_
  refine own_s T30 (mkF m 23 #[rv a1, .val .null, rv a2, rv a3, rv a5, rv a4, .val .null, .val .null] [(.ref a3), (.ref a1)]) (fun _ k => XS.aloadN X30.here hx rfl (hb hby od_prog_100_m_1_21) rfl rfl (XS.aloadN X30.here hx rfl (hb hby od_prog_100_m_1_22) rfl rfl k)) ?_
  obtain ⟨T42, h42, X42, e42, W42, st42⟩ := putF X30 hx hZ hown (host := "") (Or.inl (own_h hw 54 rfl)) Via.refl e30 f32 f31 (Or.inr ⟨(own_h hw 55 rfl), rfl, hnm⟩) (own_h hw 7 rfl) (ty := (.object "java/lang/String")) (by decide) rfl rfl (g := (mkF m 23 #[rv a1, .val .null, rv a2, rv a3, rv a5, rv a4, .val .null, .val .null] [(.ref a3), (.ref a1)])) rfl rfl (hb hby od_prog_100_m_1_23)
  have Fw42 := Fld.same W42 f32
  have f43 := Exa.wr W42 f31
  have f44 := Fld.other W42 f33 (Or.inr (slot_ne (Or.inr (own_h hw 57 rfl)) (Or.inr (own_h hw 55 rfl)) (by decide) (t := (.object "java/util/List")) (t' := (.object "java/lang/String")) (by decide) (by decide)))
  have f45 := Fld.other W42 f34 (Or.inr (slot_ne (Or.inr (own_h hw 61 rfl)) (Or.inr (own_h hw 55 rfl)) (by decide) (t := (.array (.object "java/lang/String"))) (t' := (.object "java/lang/String")) (by decide) (by decide)))
  have f46 := Fld.other W42 f35 (Or.inr (slot_ne (Or.inr (own_h hw 66 rfl)) (Or.inr (own_h hw 55 rfl)) (by decide) (t := .byte) (t' := (.object "java/lang/String")) (by decide) (by decide)))
  have f47 := Fld.other W42 f36 (Or.inr (slot_ne (Or.inr (own_h hw 68 rfl)) (Or.inr (own_h hw 55 rfl)) (by decide) (t := (.object "com/example/tagwright/tagwright/Location")) (t' := (.object "java/lang/String")) (by decide) (by decide)))
  have f48 := Fld.other W42 f37 (Or.inr (slot_ne (Or.inr (own_h hw 70 rfl)) (Or.inr (own_h hw 55 rfl)) (by decide) (t := (.object "com/example/tagwright/tagwright/XmlElement")) (t' := (.object "java/lang/String")) (by decide) (by decide)))
  have f49 := Fld.other W42 f38 (Or.inr (slot_ne (Or.inr (own_h hw 72 rfl)) (Or.inr (own_h hw 55 rfl)) (by decide) (t := .int) (t' := (.object "java/lang/String")) (by decide) (by decide)))
  have f50 := Sta.wr W42 f39
  have f51 := Sta.wr W42 f40
  have f52 := f41.other W42 (Ne.symm pr15)
  have K42 : Keep h0 h42 [a1] := K30.wr W42 (Or.inl (List.mem_of_getElem? (i := 0) rfl))
  have Z42 := Nat.le_trans Z30 (Nat.le_of_eq W42.size.symm)
  have N42 := Fr.snoc X42 N30 g_a1
  refine own_s T42 (mkF m 26 #[rv a1, .val .null, rv a2, rv a3, rv a5, rv a4, .val .null, .val .null] []) st42 ?_
  refine own_s T42 (mkF m 29 #[rv a1, .val .null, rv a2, rv a3, rv a5, rv a4, .val .null, .val .null] [(.ref a5), (.ref a1)]) (fun _ k => XS.aloadN X42.here hx rfl (hb hby od_prog_100_m_1_26) rfl rfl (XS.aload X42.here hx rfl (hb hby od_prog_100_m_1_27) rfl rfl k)) ?_
  obtain ⟨T53, h53, X53, e53, W53, st53⟩ := putF X42 hx hZ hown (host := "") (Or.inl (own_h hw 56 rfl)) Via.refl e42 f44 f43 (Or.inr ⟨(own_h hw 57 rfl), rfl, hnm⟩) (own_h hw 7 rfl) (ty := (.object "java/util/List")) (by decide) rfl rfl (g := (mkF m 29 #[rv a1, .val .null, rv a2, rv a3, rv a5, rv a4, .val .null, .val .null] [(.ref a5), (.ref a1)])) rfl rfl (hb hby od_prog_100_m_1_29)
  have Fw53 := Fld.same W53 f44
  have f54 := Exa.wr W53 f43
  have f55 := Fld.other W53 f45 (Or.inr (slot_ne (Or.inr (own_h hw 61 rfl)) (Or.inr (own_h hw 57 rfl)) (by decide) (t := (.array (.object "java/lang/String"))) (t' := (.object "java/util/List")) (by decide) (by decide)))
  have f56 := Fld.other W53 f46 (Or.inr (slot_ne (Or.inr (own_h hw 66 rfl)) (Or.inr (own_h hw 57 rfl)) (by decide) (t := .byte) (t' := (.object "java/util/List")) (by decide) (by decide)))
  have f57 := Fld.other W53 f47 (Or.inr (slot_ne (Or.inr (own_h hw 68 rfl)) (Or.inr (own_h hw 57 rfl)) (by decide) (t := (.object "com/example/tagwright/tagwright/Location")) (t' := (.object "java/util/List")) (by decide) (by decide)))
  have f58 := Fld.other W53 f48 (Or.inr (slot_ne (Or.inr (own_h hw 70 rfl)) (Or.inr (own_h hw 57 rfl)) (by decide) (t := (.object "com/example/tagwright/tagwright/XmlElement")) (t' := (.object "java/util/List")) (by decide) (by decide)))
  have f59 := Fld.other W53 f49 (Or.inr (slot_ne (Or.inr (own_h hw 72 rfl)) (Or.inr (own_h hw 57 rfl)) (by decide) (t := .int) (t' := (.object "java/util/List")) (by decide) (by decide)))
  have f60 := Sta.wr W53 f50
  have f61 := Sta.wr W53 f51
  have f62 := f52.other W53 (Ne.symm pr15)
  have K53 : Keep h0 h53 [a1] := K42.wr W53 (Or.inl (List.mem_of_getElem? (i := 0) rfl))
  have Z53 := Nat.le_trans Z42 (Nat.le_of_eq W53.size.symm)
  have N53 := Fr.snoc X53 N42 g_a1
  refine own_s T53 (mkF m 32 #[rv a1, .val .null, rv a2, rv a3, rv a5, rv a4, .val .null, .val .null] []) st53 ?_
  refine own_s T53 (mkF m 35 #[rv a1, .val .null, rv a2, rv a3, rv a5, rv a4, .val .null, .val .null] [(.ref a4), (.ref a1)]) (fun _ k => XS.aloadN X53.here hx rfl (hb hby od_prog_100_m_1_32) rfl rfl (XS.aload X53.here hx rfl (hb hby od_prog_100_m_1_33) rfl rfl k)) ?_
  obtain ⟨cl63, Ar63, q63, S63, Nn63, H63, G63⟩ := id f62
  refine own_s T53 (mkF m 47 #[rv a1, .val .null, rv a2, rv a3, rv a5, rv a4, .val .null, .val .null] [(.ref a4), (.ref a1)]) (fun _ k => own_len X53 hx hZ e53 Ar63 S63 Nn63 (g := (mkF m 35 #[rv a1, .val .null, rv a2, rv a3, rv a5, rv a4, .val .null, .val .null] [(.ref a4), (.ref a1)])) rfl rfl (hb hby od_prog_100_m_1_35) (XS.ifYes X53.here hx rfl (pc0 := 36) (pc' := 45) rfl (hb hby od_prog_100_m_1_36) rfl ((if0 _ _).trans (feq hz0).2) (by decide) (by decide) (XS.aload X53.here hx rfl (hb hby od_prog_100_m_1_45) rfl rfl k))) ?_
  obtain ⟨T64, h64, X64, e64, W64, st64⟩ := putF X53 hx hZ hown (host := "") (Or.inl (own_h hw 60 rfl)) Via.refl e53 f55 f54 (Or.inr ⟨(own_h hw 61 rfl), rfl, hnm⟩) (own_h hw 7 rfl) (ty := (.array (.object "java/lang/String"))) (by decide) rfl rfl (g := (mkF m 47 #[rv a1, .val .null, rv a2, rv a3, rv a5, rv a4, .val .null, .val .null] [(.ref a4), (.ref a1)])) rfl rfl (hb hby od_prog_100_m_1_47)
  have Fw64 := Fld.same W64 f55
  have f65 := Exa.wr W64 f54
  have f66 := Fld.other W64 f56 (Or.inr (slot_ne (Or.inr (own_h hw 66 rfl)) (Or.inr (own_h hw 61 rfl)) (by decide) (t := .byte) (t' := (.array (.object "java/lang/String"))) (by decide) (by decide)))
  have f67 := Fld.other W64 f57 (Or.inr (slot_ne (Or.inr (own_h hw 68 rfl)) (Or.inr (own_h hw 61 rfl)) (by decide) (t := (.object "com/example/tagwright/tagwright/Location")) (t' := (.array (.object "java/lang/String"))) (by decide) (by decide)))
  have f68 := Fld.other W64 f58 (Or.inr (slot_ne (Or.inr (own_h hw 70 rfl)) (Or.inr (own_h hw 61 rfl)) (by decide) (t := (.object "com/example/tagwright/tagwright/XmlElement")) (t' := (.array (.object "java/lang/String"))) (by decide) (by decide)))
  have f69 := Fld.other W64 f59 (Or.inr (slot_ne (Or.inr (own_h hw 72 rfl)) (Or.inr (own_h hw 61 rfl)) (by decide) (t := .int) (t' := (.array (.object "java/lang/String"))) (by decide) (by decide)))
  have f70 := Sta.wr W64 f60
  have f71 := Sta.wr W64 f61
  have f72 := f62.other W64 (Ne.symm pr15)
  have K64 : Keep h0 h64 [a1] := K53.wr W64 (Or.inl (List.mem_of_getElem? (i := 0) rfl))
  have Z64 := Nat.le_trans Z53 (Nat.le_of_eq W64.size.symm)
  have N64 := Fr.snoc X64 N53 g_a1
  refine own_s T64 (mkF m 50 #[rv a1, .val .null, rv a2, rv a3, rv a5, rv a4, .val .null, .val .null] []) st64 ?_
  refine own_s T64 (mkF m 53 #[rv a1, .val .null, rv a2, rv a3, rv a5, rv a4, .val .null, .val .null] [(.ref a4), (.ref a1)]) (fun _ k => XS.aloadN X64.here hx rfl (hb hby od_prog_100_m_1_50) rfl rfl (XS.aload X64.here hx rfl (hb hby od_prog_100_m_1_51) rfl rfl k)) ?_
  obtain ⟨v73, T73, L73, X73, hQ73, st73⟩ := own_callS X64 hx hZ (y := own_y7) (W := 1) hown (own_h hw 62 rfl) (own_h hw 63 rfl) (own_h hw 2 rfl) (own_h hw 64 rfl) (by decide) (own_rmisnE l Z a0 hw [] a4 ka vs z h64 n0 Z64 f72 hm) (by decide) (by decide) (g := (mkF m 53 #[rv a1, .val .null, rv a2, rv a3, rv a5, rv a4, .val .null, .val .null] [(.ref a4), (.ref a1)])) rfl (by rw [hml]; rfl) (argsL := [(.ref a4)]) (rest := [(.ref a1)]) rfl (lenOf own_pd5 rfl) rfl (by show 2 * 0 + _ ≤ _; exact Nat.le_of_eq rfl) (hb hby od_prog_100_m_1_53) e64 (by decide) (by decide)
  obtain ⟨rfl, Nq73, e73⟩ := hQ73
  have N73 := Fr.app N64 Nq73
  refine own_s T73 (mkF m 56 #[rv a1, .val .null, rv a2, rv a3, rv a5, rv a4, .val .null, .val .null] [(.int 0), (.ref a1)]) st73 ?_
  refine own_s T73 (mkF m 65 #[rv a1, .val .null, rv a2, rv a3, rv a5, rv a4, .val .null, .val .null] [(.int ((2 : Int32).toInt8.toInt32)), (.ref a1)]) (fun _ k => XS.ifYes X73.here hx rfl (pc0 := 56) (pc' := 63) rfl (hb hby od_prog_100_m_1_56) rfl ((if0 _ _).trans (teq (by decide : ((0 : Int32) = (0 : Int32)))).1) (by decide) (by decide) (XS.iconst X73.here hx rfl (hb hby od_prog_100_m_1_63) (XS.i2b X73.here hx rfl (hb hby od_prog_100_m_1_64) rfl k))) ?_
  obtain ⟨T74, h74, X74, e74, W74, st74⟩ := putFN X73 hx hZ hown (own_h hw 65 rfl) Via.refl e73 f66 f65 (Or.inr ⟨(own_h hw 66 rfl), rfl, hnm⟩) (own_h hw 7 rfl) (ty := .byte) (v' := (.int 2)) (by decide) rfl rfl (g := (mkF m 65 #[rv a1, .val .null, rv a2, rv a3, rv a5, rv a4, .val .null, .val .null] [(.int ((2 : Int32).toInt8.toInt32)), (.ref a1)])) rfl rfl (hb hby od_prog_100_m_1_65)
  have Fw74 := Fld.same W74 f66
  have f75 := Exa.wr W74 f65
  have f76 := Fld.other W74 Fw64 (Or.inr (slot_ne (Or.inr (own_h hw 61 rfl)) (Or.inr (own_h hw 66 rfl)) (by decide) (t := (.array (.object "java/lang/String"))) (t' := .byte) (by decide) (by decide)))
  have f77 := Fld.other W74 f67 (Or.inr (slot_ne (Or.inr (own_h hw 68 rfl)) (Or.inr (own_h hw 66 rfl)) (by decide) (t := (.object "com/example/tagwright/tagwright/Location")) (t' := .byte) (by decide) (by decide)))
  have f78 := Fld.other W74 f68 (Or.inr (slot_ne (Or.inr (own_h hw 70 rfl)) (Or.inr (own_h hw 66 rfl)) (by decide) (t := (.object "com/example/tagwright/tagwright/XmlElement")) (t' := .byte) (by decide) (by decide)))
  have f79 := Fld.other W74 f69 (Or.inr (slot_ne (Or.inr (own_h hw 72 rfl)) (Or.inr (own_h hw 66 rfl)) (by decide) (t := .int) (t' := .byte) (by decide) (by decide)))
  have f80 := Sta.wr W74 f70
  have f81 := Sta.wr W74 f71
  have f82 := f72.other W74 (Ne.symm pr15)
  have K74 : Keep h0 h74 [a1] := K64.wr W74 (Or.inl (List.mem_of_getElem? (i := 0) rfl))
  have Z74 := Nat.le_trans Z64 (Nat.le_of_eq W74.size.symm)
  have N74 := Fr.snoc X74 N73 g_a1
  refine own_s T74 (mkF m 68 #[rv a1, .val .null, rv a2, rv a3, rv a5, rv a4, .val .null, .val .null] []) st74 ?_
  refine own_s T74 (mkF m 71 #[rv a1, .val .null, rv a2, rv a3, rv a5, rv a4, .val .null, .val .null] [.null, (.ref a1)]) (fun _ k => XS.aloadN X74.here hx rfl (hb hby od_prog_100_m_1_68) rfl rfl (XS.aload X74.here hx rfl (hb hby od_prog_100_m_1_69) rfl rfl k)) ?_
  obtain ⟨T83, h83, X83, e83, W83, st83⟩ := putF X74 hx hZ hown (host := "") (Or.inl (own_h hw 67 rfl)) Via.refl e74 f77 f75 (Or.inr ⟨(own_h hw 68 rfl), rfl, hnm⟩) (own_h hw 7 rfl) (ty := (.object "com/example/tagwright/tagwright/Location")) (by decide) rfl rfl (g := (mkF m 71 #[rv a1, .val .null, rv a2, rv a3, rv a5, rv a4, .val .null, .val .null] [.null, (.ref a1)])) rfl rfl (hb hby od_prog_100_m_1_71)
  have Fw83 := Fld.same W83 f77
  have f84 := Exa.wr W83 f75
  have f85 := Fld.other W83 f76 (Or.inr (slot_ne (Or.inr (own_h hw 61 rfl)) (Or.inr (own_h hw 68 rfl)) (by decide) (t := (.array (.object "java/lang/String"))) (t' := (.object "com/example/tagwright/tagwright/Location")) (by decide) (by decide)))
  have f86 := Fld.other W83 Fw74 (Or.inr (slot_ne (Or.inr (own_h hw 66 rfl)) (Or.inr (own_h hw 68 rfl)) (by decide) (t := .byte) (t' := (.object "com/example/tagwright/tagwright/Location")) (by decide) (by decide)))
  have f87 := Fld.other W83 f78 (Or.inr (slot_ne (Or.inr (own_h hw 70 rfl)) (Or.inr (own_h hw 68 rfl)) (by decide) (t := (.object "com/example/tagwright/tagwright/XmlElement")) (t' := (.object "com/example/tagwright/tagwright/Location")) (by decide) (by decide)))
  have f88 := Fld.other W83 f79 (Or.inr (slot_ne (Or.inr (own_h hw 72 rfl)) (Or.inr (own_h hw 68 rfl)) (by decide) (t := .int) (t' := (.object "com/example/tagwright/tagwright/Location")) (by decide) (by decide)))
  have f89 := Sta.wr W83 f80
  have f90 := Sta.wr W83 f81
  have f91 := f82.other W83 (Ne.symm pr15)
  have K83 : Keep h0 h83 [a1] := K74.wr W83 (Or.inl (List.mem_of_getElem? (i := 0) rfl))
  have Z83 := Nat.le_trans Z74 (Nat.le_of_eq W83.size.symm)
  have N83 := Fr.snoc X83 N74 g_a1
  refine own_s T83 (mkF m 74 #[rv a1, .val .null, rv a2, rv a3, rv a5, rv a4, .val .null, .val .null] []) st83 ?_
  refine own_s T83 (mkF m 77 #[rv a1, .val .null, rv a2, rv a3, rv a5, rv a4, .val .null, .val .null] [.null, (.ref a1)]) (fun _ k => XS.aloadN X83.here hx rfl (hb hby od_prog_100_m_1_74) rfl rfl (XS.aload X83.here hx rfl (hb hby od_prog_100_m_1_75) rfl rfl k)) ?_
  obtain ⟨T92, h92, X92, e92, W92, st92⟩ := putF X83 hx hZ hown (host := "") (Or.inl (own_h hw 69 rfl)) Via.refl e83 f87 f84 (Or.inr ⟨(own_h hw 70 rfl), rfl, hnm⟩) (own_h hw 7 rfl) (ty := (.object "com/example/tagwright/tagwright/XmlElement")) (by decide) rfl rfl (g := (mkF m 77 #[rv a1, .val .null, rv a2, rv a3, rv a5, rv a4, .val .null, .val .null] [.null, (.ref a1)])) rfl rfl (hb hby od_prog_100_m_1_77)
  have Fw92 := Fld.same W92 f87
  have f93 := Exa.wr W92 f84
  have f94 := Fld.other W92 f85 (Or.inr (slot_ne (Or.inr (own_h hw 61 rfl)) (Or.inr (own_h hw 70 rfl)) (by decide) (t := (.array (.object "java/lang/String"))) (t' := (.object "com/example/tagwright/tagwright/XmlElement")) (by decide) (by decide)))
  have f95 := Fld.other W92 f86 (Or.inr (slot_ne (Or.inr (own_h hw 66 rfl)) (Or.inr (own_h hw 70 rfl)) (by decide) (t := .byte) (t' := (.object "com/example/tagwright/tagwright/XmlElement")) (by decide) (by decide)))
  have f96 := Fld.other W92 f88 (Or.inr (slot_ne (Or.inr (own_h hw 72 rfl)) (Or.inr (own_h hw 70 rfl)) (by decide) (t := .int) (t' := (.object "com/example/tagwright/tagwright/XmlElement")) (by decide) (by decide)))
  have f97 := Sta.wr W92 f89
  have f98 := Sta.wr W92 f90
  have f99 := f91.other W92 (Ne.symm pr15)
  have K92 : Keep h0 h92 [a1] := K83.wr W92 (Or.inl (List.mem_of_getElem? (i := 0) rfl))
  have Z92 := Nat.le_trans Z83 (Nat.le_of_eq W92.size.symm)
  have N92 := Fr.snoc X92 N83 g_a1
  refine own_s T92 (mkF m 80 #[rv a1, .val .null, rv a2, rv a3, rv a5, rv a4, .val .null, .val .null] []) st92 ?_
  refine own_s T92 (mkF m 96 #[rv a1, .val .null, rv a2, rv a3, rv a5, rv a4, .val .null, .val .null] [(.int 0), (.ref a1)]) (fun _ k => XS.aloadN X92.here hx rfl (hb hby od_prog_100_m_1_80) rfl rfl (XS.aload X92.here hx rfl (hb hby od_prog_100_m_1_81) rfl rfl (XS.ifnonnullNo X92.here hx rfl (hb hby od_prog_100_m_1_83) rfl (XS.iconst X92.here hx rfl (hb hby od_prog_100_m_1_86) (XS.goto X92.here hx rfl (pc0 := 87) (pc' := 96) rfl (hb hby od_prog_100_m_1_87) (by decide) (by decide) k))))) ?_
  obtain ⟨T100, h100, X100, e100, W100, st100⟩ := putF X92 hx hZ hown (host := "") (Or.inl (own_h hw 71 rfl)) Via.refl e92 f96 f93 (Or.inr ⟨(own_h hw 72 rfl), rfl, hnm⟩) (own_h hw 7 rfl) (ty := .int) (by decide) rfl rfl (g := (mkF m 96 #[rv a1, .val .null, rv a2, rv a3, rv a5, rv a4, .val .null, .val .null] [(.int 0), (.ref a1)])) rfl rfl (hb hby od_prog_100_m_1_96)
  have Fw100 := Fld.same W100 f96
  have f101 := Exa.wr W100 f93
  have f102 := Fld.other W100 f94 (Or.inr (slot_ne (Or.inr (own_h hw 61 rfl)) (Or.inr (own_h hw 72 rfl)) (by decide) (t := (.array (.object "java/lang/String"))) (t' := .int) (by decide) (by decide)))
  have f103 := Fld.other W100 f95 (Or.inr (slot_ne (Or.inr (own_h hw 66 rfl)) (Or.inr (own_h hw 72 rfl)) (by decide) (t := .byte) (t' := .int) (by decide) (by decide)))
  have f104 := Sta.wr W100 f97
  have f105 := Sta.wr W100 f98
  have f106 := f99.other W100 (Ne.symm pr15)
  have K100 : Keep h0 h100 [a1] := K92.wr W100 (Or.inl (List.mem_of_getElem? (i := 0) rfl))
  have Z100 := Nat.le_trans Z92 (Nat.le_of_eq W100.size.symm)
  have N100 := Fr.snoc X100 N92 g_a1
  refine own_s T100 (mkF m 99 #[rv a1, .val .null, rv a2, rv a3, rv a5, rv a4, .val .null, .val .null] []) st100 ?_
  exact own_finV X100 hx hret (hb hby od_prog_100_m_1_99) (own_end (Qv := (own_Qxi_e Z a1 a2 a3 a5 a4 oN oA ka vs z h0 n0)) X100 (fun _ => rfl) hlk (by decide) (by decide) e100 ⟨rfl, N100, K100, f101, f102, f103⟩)
abbrev own_y12 : MethodName := ⟨"com/example/tagwright/tagwright/XmlElement", "attributeCount", "()I"⟩
theorem od_prog_100_m_15_0 : decode prog_100_method_15_code 0 = .ok (.aload_n 0, 1) := by decide +kernel
theorem od_prog_100_m_15_1 : decode prog_100_method_15_code 1 = .ok (.getfield 33, 3) := by decide +kernel
theorem od_prog_100_m_15_4 : decode prog_100_method_15_code 4 = .ok (.arraylength, 1) := by decide +kernel
theorem od_prog_100_m_15_5 : decode prog_100_method_15_code 5 = .ok (.aload_n 0, 1) := by decide +kernel
theorem od_prog_100_m_15_6 : decode prog_100_method_15_code 6 = .ok (.getfield 40, 3) := by decide +kernel
theorem od_prog_100_m_15_9 : decode prog_100_method_15_code 9 = .ok (.idiv, 1) := by decide +kernel
theorem od_prog_100_m_15_10 : decode prog_100_method_15_code 10 = .ok (.ireturn, 1) := by decide +kernel
theorem own_efcnt2 (m : MethodId) (x0 : Addr) : entryFrame m #[(.ref x0)] 1 = mkF m 0 #[rv x0] [] := by first | (simp [entryFrame, mkF, argsToLocals, Value.category]; done) | rfl
def own_Qcnt2 (Z : State) (a1 : Addr) (d : Addr) (ka : ClassId) (vs : List Value) (z : Int32) (h0 : Heap) (n0 : Nat) : Option Value → Heap → List Loc → Prop := fun v h L => v = some (.int (z / (2 : Int32))) ∧ Fr n0 L ∧ h = h0
def own_Rcnt2 : Room := { frames := 0, cells := 0, slots := 0, locals := 0 }
set_option maxRecDepth 65536 in
set_option maxHeartbeats 40000000 in
theorem own_rmcnt2 (l : Launch) (Z : State) (a0 : Array Value) (hw : ∀ d ∈ tables_1, d.before a0 Z = true) (ws : List Jvm.Cond) (a1 : Addr) (d : Addr) (ka : ClassId) (vs : List Value) (z : Int32) (h0 : Heap) (n0 : Nat) (Z0 : n0 ≤ h0.size) (pr0 : Fld Z h0 a1 "com/example/tagwright/tagwright/XmlElement" "attributes" "[Ljava/lang/String;" (.ref d)) (pr1 : Fld Z h0 a1 "com/example/tagwright/tagwright/XmlElement" "stride" "B" (.int 2)) (pr2 : Arv Z h0 d ka (.object "java/lang/String") z vs .null) :
    own_Met l Z own_y12 prog_100_method_15_code 1 (some .int) ws own_Rcnt2 h0 #[(.ref a1)] (own_Qcnt2 Z a1 d ka vs z h0 n0) own_Rcnt2.cells own_Rcnt2.slots := by
  refine own_start (plainFor_of_name own_pn3) ?_
  intro p e s m below meth c s₁ X0 hx hZ hby hml hret hlk hown hnm e0
  have hown : s.vm.findClass "com/example/tagwright/tagwright/XmlElement" = some m.cls := hown
  have hml : c.maxLocals = 1 := hml
  have N0 := Fr.nil n0
  refine own_cast (own_efcnt2 m a1) ?_
  refine own_s s₁ (mkF m 1 #[rv a1] [(.ref a1)]) (fun _ k => XS.aloadN X0.here hx rfl (hb hby od_prog_100_m_15_0) rfl rfl k) ?_
  obtain ⟨T1, X1, e1, st1⟩ := getF X0 hx hZ hown (host := "") (Or.inl (own_h hw 60 rfl)) Via.refl e0 pr0 (g := (mkF m 1 #[rv a1] [(.ref a1)])) rfl rfl (hb hby od_prog_100_m_15_1)
  refine own_s T1 (mkF m 4 #[rv a1] [(.ref d)]) st1 ?_
  obtain ⟨cl2, Ar2, q2, S2, Nn2, H2, G2⟩ := id pr2
  refine own_s T1 (mkF m 6 #[rv a1] [(.ref a1), (.int z)]) (fun _ k => own_len X1 hx hZ e1 Ar2 S2 Nn2 (g := (mkF m 4 #[rv a1] [(.ref d)])) rfl rfl (hb hby od_prog_100_m_15_4) (XS.aloadN X1.here hx rfl (hb hby od_prog_100_m_15_5) rfl rfl k)) ?_
  obtain ⟨T3, X3, e3, st3⟩ := getF X1 hx hZ hown (host := "") (Or.inl (own_h hw 65 rfl)) Via.refl e1 pr1 (g := (mkF m 6 #[rv a1] [(.ref a1), (.int z)])) rfl rfl (hb hby od_prog_100_m_15_6)
  refine own_s T3 (mkF m 9 #[rv a1] [(.int 2), (.int z)]) st3 ?_
  refine own_s T3 (mkF m 10 #[rv a1] [(.int (z / (2 : Int32)))]) (fun _ k => XS.idiv X3.here hx rfl (hb hby od_prog_100_m_15_9) rfl (by decide) k) ?_
  exact own_finI X3 hx hret (hb hby od_prog_100_m_15_10) (own_end (Qv := (own_Qcnt2 Z a1 d ka vs z h0 n0)) X3 (own_some hret) hlk (by decide) (by decide) e3 ⟨rfl, N0, rfl⟩)
theorem own_efcnt4 (m : MethodId) (x0 : Addr) : entryFrame m #[(.ref x0)] 1 = mkF m 0 #[rv x0] [] := by first | (simp [entryFrame, mkF, argsToLocals, Value.category]; done) | rfl
def own_Qcnt4 (Z : State) (a1 : Addr) (d : Addr) (ka : ClassId) (vs : List Value) (z : Int32) (h0 : Heap) (n0 : Nat) : Option Value → Heap → List Loc → Prop := fun v h L => v = some (.int (z / (4 : Int32))) ∧ Fr n0 L ∧ h = h0
def own_Rcnt4 : Room := { frames := 0, cells := 0, slots := 0, locals := 0 }
set_option maxRecDepth 65536 in
set_option maxHeartbeats 40000000 in
theorem own_rmcnt4 (l : Launch) (Z : State) (a0 : Array Value) (hw : ∀ d ∈ tables_1, d.before a0 Z = true) (ws : List Jvm.Cond) (a1 : Addr) (d : Addr) (ka : ClassId) (vs : List Value) (z : Int32) (h0 : Heap) (n0 : Nat) (Z0 : n0 ≤ h0.size) (pr0 : Fld Z h0 a1 "com/example/tagwright/tagwright/XmlElement" "attributes" "[Ljava/lang/String;" (.ref d)) (pr1 : Fld Z h0 a1 "com/example/tagwright/tagwright/XmlElement" "stride" "B" (.int 4)) (pr2 : Arv Z h0 d ka (.object "java/lang/String") z vs .null) :
    own_Met l Z own_y12 prog_100_method_15_code 1 (some .int) ws own_Rcnt4 h0 #[(.ref a1)] (own_Qcnt4 Z a1 d ka vs z h0 n0) own_Rcnt4.cells own_Rcnt4.slots := by
  refine own_start (plainFor_of_name own_pn3) ?_
  intro p e s m below meth c s₁ X0 hx hZ hby hml hret hlk hown hnm e0
  have hown : s.vm.findClass "com/example/tagwright/tagwright/XmlElement" = some m.cls := hown
  have hml : c.maxLocals = 1 := hml
  have N0 := Fr.nil n0
  refine own_cast (own_efcnt4 m a1) ?_
  refine own_s s₁ (mkF m 1 #[rv a1] [(.ref a1)]) (fun _ k => XS.aloadN X0.here hx rfl (hb hby od_prog_100_m_15_0) rfl rfl k) ?_
  obtain ⟨T1, X1, e1, st1⟩ := getF X0 hx hZ hown (host := "") (Or.inl (own_h hw 60 rfl)) Via.refl e0 pr0 (g := (mkF m 1 #[rv a1] [(.ref a1)])) rfl rfl (hb hby od_prog_100_m_15_1)
  refine own_s T1 (mkF m 4 #[rv a1] [(.ref d)]) st1 ?_
  obtain ⟨cl2, Ar2, q2, S2, Nn2, H2, G2⟩ := id pr2
  refine own_s T1 (mkF m 6 #[rv a1] [(.ref a1), (.int z)]) (fun _ k => own_len X1 hx hZ e1 Ar2 S2 Nn2 (g := (mkF m 4 #[rv a1] [(.ref d)])) rfl rfl (hb hby od_prog_100_m_15_4) (XS.aloadN X1.here hx rfl (hb hby od_prog_100_m_15_5) rfl rfl k)) ?_
  obtain ⟨T3, X3, e3, st3⟩ := getF X1 hx hZ hown (host := "") (Or.inl (own_h hw 65 rfl)) Via.refl e1 pr1 (g := (mkF m 6 #[rv a1] [(.ref a1), (.int z)])) rfl rfl (hb hby od_prog_100_m_15_6)
  refine own_s T3 (mkF m 9 #[rv a1] [(.int 4), (.int z)]) st3 ?_
  refine own_s T3 (mkF m 10 #[rv a1] [(.int (z / (4 : Int32)))]) (fun _ k => XS.idiv X3.here hx rfl (hb hby od_prog_100_m_15_9) rfl (by decide) k) ?_
  exact own_finI X3 hx hret (hb hby od_prog_100_m_15_10) (own_end (Qv := (own_Qcnt4 Z a1 d ka vs z h0 n0)) X3 (own_some hret) hlk (by decide) (by decide) e3 ⟨rfl, N0, rfl⟩)
abbrev own_y13 : MethodName := ⟨"com/example/tagwright/tagwright/XmlElement", "attributeNamespace", "(I)Ljava/lang/String;"⟩
theorem od_prog_100_m_16_0 : decode prog_100_method_16_code 0 = .ok (.aload_n 0, 1) := by decide +kernel
theorem od_prog_100_m_16_1 : decode prog_100_method_16_code 1 = .ok (.getfield 40, 3) := by decide +kernel
theorem od_prog_100_m_16_4 : decode prog_100_method_16_code 4 = .ok (.iconst 4, 1) := by decide +kernel
theorem od_prog_100_m_16_5 : decode prog_100_method_16_code 5 = .ok (.if_icmp .ne 19, 3) := by decide +kernel
theorem od_prog_100_m_16_24 : decode prog_100_method_16_code 24 = .ok (.aconst_null, 1) := by decide +kernel
theorem od_prog_100_m_16_25 : decode prog_100_method_16_code 25 = .ok (.areturn, 1) := by decide +kernel
theorem own_efgs0 (m : MethodId) (x0 : Addr) (x1 : Int32) : entryFrame m #[(.ref x0), (.int x1)] 2 = mkF m 0 #[rv x0, iv x1] [] := by first | (simp [entryFrame, mkF, argsToLocals, Value.category]; done) | rfl
def own_Qgs0 (Z : State) (a1 : Addr) (p2 : Int32) (h0 : Heap) (n0 : Nat) : Option Value → Heap → List Loc → Prop := fun v h L => v = some .null ∧ Fr n0 L ∧ h = h0
def own_Rgs0 : Room := { frames := 0, cells := 0, slots := 0, locals := 0 }
set_option maxRecDepth 65536 in
set_option maxHeartbeats 40000000 in
theorem own_rmgs0 (l : Launch) (Z : State) (a0 : Array Value) (hw : ∀ d ∈ tables_1, d.before a0 Z = true) (ws : List Jvm.Cond) (a1 : Addr) (p2 : Int32) (h0 : Heap) (n0 : Nat) (Z0 : n0 ≤ h0.size) (pr0 : Fld Z h0 a1 "com/example/tagwright/tagwright/XmlElement" "stride" "B" (.int 2)) :
    own_Met l Z own_y13 prog_100_method_16_code 2 (some (.object "java/lang/String")) ws own_Rgs0 h0 #[(.ref a1), (.int p2)] (own_Qgs0 Z a1 p2 h0 n0) own_Rgs0.cells own_Rgs0.slots := by
  refine own_start (plainFor_of_name own_pn3) ?_
  intro p e s m below meth c s₁ X0 hx hZ hby hml hret hlk hown hnm e0
  have hown : s.vm.findClass "com/example/tagwright/tagwright/XmlElement" = some m.cls := hown
  have hml : c.maxLocals = 2 := hml
  have N0 := Fr.nil n0
  refine own_cast (own_efgs0 m a1 p2) ?_
  refine own_s s₁ (mkF m 1 #[rv a1, iv p2] [(.ref a1)]) (fun _ k => XS.aloadN X0.here hx rfl (hb hby od_prog_100_m_16_0) rfl rfl k) ?_
  obtain ⟨T1, X1, e1, st1⟩ := getF X0 hx hZ hown (host := "") (Or.inl (own_h hw 65 rfl)) Via.refl e0 pr0 (g := (mkF m 1 #[rv a1, iv p2] [(.ref a1)])) rfl rfl (hb hby od_prog_100_m_16_1)
  refine own_s T1 (mkF m 4 #[rv a1, iv p2] [(.int 2)]) st1 ?_
  refine own_s T1 (mkF m 25 #[rv a1, iv p2] [.null]) (fun _ k => XS.iconst X1.here hx rfl (hb hby od_prog_100_m_16_4) (XS.icmpYes X1.here hx rfl (pc0 := 5) (pc' := 24) rfl (hb hby od_prog_100_m_16_5) rfl (feq (by decide : ¬ ((2 : Int32) = (4 : Int32)))).2 (by decide) (by decide) (XS.aconstNull X1.here hx rfl (hb hby od_prog_100_m_16_24) k))) ?_
  exact own_finA X1 hx hret rfl rfl (hb hby od_prog_100_m_16_25) (own_end (Qv := (own_Qgs0 Z a1 p2 h0 n0)) X1 (own_some hret) hlk (by decide) (by decide) e1 ⟨rfl, N0, rfl⟩)
abbrev own_y14 : MethodName := ⟨"com/example/tagwright/tagwright/XmlElement", "attributeName", "(I)Ljava/lang/String;"⟩
theorem od_prog_100_m_18_0 : decode prog_100_method_18_code 0 = .ok (.aload_n 0, 1) := by decide +kernel
theorem od_prog_100_m_18_1 : decode prog_100_method_18_code 1 = .ok (.getfield 33, 3) := by decide +kernel
theorem od_prog_100_m_18_4 : decode prog_100_method_18_code 4 = .ok (.iload_n 1, 1) := by decide +kernel
theorem od_prog_100_m_18_5 : decode prog_100_method_18_code 5 = .ok (.aload_n 0, 1) := by decide +kernel
theorem od_prog_100_m_18_6 : decode prog_100_method_18_code 6 = .ok (.getfield 40, 3) := by decide +kernel
theorem od_prog_100_m_18_9 : decode prog_100_method_18_code 9 = .ok (.imul, 1) := by decide +kernel
theorem od_prog_100_m_18_10 : decode prog_100_method_18_code 10 = .ok (.iconst 0, 1) := by decide +kernel
theorem od_prog_100_m_18_11 : decode prog_100_method_18_code 11 = .ok (.iadd, 1) := by decide +kernel
theorem od_prog_100_m_18_12 : decode prog_100_method_18_code 12 = .ok (.aaload, 1) := by decide +kernel
theorem od_prog_100_m_18_13 : decode prog_100_method_18_code 13 = .ok (.areturn, 1) := by decide +kernel
theorem own_efgn0_1 (m : MethodId) (x0 : Addr) (x1 : Int32) : entryFrame m #[(.ref x0), (.int x1)] 2 = mkF m 0 #[rv x0, iv x1] [] := by first | (simp [entryFrame, mkF, argsToLocals, Value.category]; done) | rfl
def own_Qgn0_1 (Z : State) (a1 : Addr) (d : Addr) (kd : ClassId) (z : Int32) (x : Addr) (v1 : Value) (v2 : Value) (v3 : Value) (v4 : Value) (v5 : Value) (v6 : Value) (v7 : Value) (v8 : Value) (v9 : Value) (v10 : Value) (v11 : Value) (v12 : Value) (h0 : Heap) (n0 : Nat) : Option Value → Heap → List Loc → Prop := fun v h L => v = some (.ref x) ∧ Fr n0 L ∧ h = h0
def own_Rgn0_1 : Room := { frames := 0, cells := 0, slots := 0, locals := 0 }
set_option maxRecDepth 65536 in
set_option maxHeartbeats 40000000 in
theorem own_rmgn0_1 (l : Launch) (Z : State) (a0 : Array Value) (hw : ∀ d ∈ tables_1, d.before a0 Z = true) (ws : List Jvm.Cond) (a1 : Addr) (d : Addr) (kd : ClassId) (z : Int32) (x : Addr) (v1 : Value) (v2 : Value) (v3 : Value) (v4 : Value) (v5 : Value) (v6 : Value) (v7 : Value) (v8 : Value) (v9 : Value) (v10 : Value) (v11 : Value) (v12 : Value) (h0 : Heap) (n0 : Nat) (Z0 : n0 ≤ h0.size) (pr0 : Fld Z h0 a1 "com/example/tagwright/tagwright/XmlElement" "attributes" "[Ljava/lang/String;" (.ref d)) (pr1 : Fld Z h0 a1 "com/example/tagwright/tagwright/XmlElement" "stride" "B" (.int 4)) (pr2 : Arv Z h0 d kd (.object "java/lang/String") z [(.ref x), v1, v2, v3, v4, v5, v6, v7, v8, v9, v10, v11, v12] .null) (hz0 : (0 : Int32) < z) :
    own_Met l Z own_y14 prog_100_method_18_code 2 (some (.object "java/lang/String")) ws own_Rgn0_1 h0 #[(.ref a1), (.int 0)] (own_Qgn0_1 Z a1 d kd z x v1 v2 v3 v4 v5 v6 v7 v8 v9 v10 v11 v12 h0 n0) own_Rgn0_1.cells own_Rgn0_1.slots := by
  refine own_start (plainFor_of_name own_pn3) ?_
  intro p e s m below meth c s₁ X0 hx hZ hby hml hret hlk hown hnm e0
  have hown : s.vm.findClass "com/example/tagwright/tagwright/XmlElement" = some m.cls := hown
  have hml : c.maxLocals = 2 := hml
  have N0 := Fr.nil n0
  refine own_cast (own_efgn0_1 m a1 (0 : Int32)) ?_
  refine own_s s₁ (mkF m 1 #[rv a1, iv 0] [(.ref a1)]) (fun _ k => XS.aloadN X0.here hx rfl (hb hby od_prog_100_m_18_0) rfl rfl k) ?_
  obtain ⟨T1, X1, e1, st1⟩ := getF X0 hx hZ hown (host := "") (Or.inl (own_h hw 60 rfl)) Via.refl e0 pr0 (g := (mkF m 1 #[rv a1, iv 0] [(.ref a1)])) rfl rfl (hb hby od_prog_100_m_18_1)
  refine own_s T1 (mkF m 4 #[rv a1, iv 0] [(.ref d)]) st1 ?_
  refine own_s T1 (mkF m 6 #[rv a1, iv 0] [(.ref a1), (.int 0), (.ref d)]) (fun _ k => XS.iloadN X1.here hx rfl (hb hby od_prog_100_m_18_4) rfl  (XS.aloadN X1.here hx rfl (hb hby od_prog_100_m_18_5) rfl rfl k)) ?_
  obtain ⟨T2, X2, e2, st2⟩ := getF X1 hx hZ hown (host := "") (Or.inl (own_h hw 65 rfl)) Via.refl e1 pr1 (g := (mkF m 6 #[rv a1, iv 0] [(.ref a1), (.int 0), (.ref d)])) rfl rfl (hb hby od_prog_100_m_18_6)
  refine own_s T2 (mkF m 9 #[rv a1, iv 0] [(.int 4), (.int 0), (.ref d)]) st2 ?_
  refine own_s T2 (mkF m 12 #[rv a1, iv 0] [(.int 0), (.ref d)]) (fun _ k => XS.imul X2.here hx rfl (hb hby od_prog_100_m_18_9) rfl (XS.iconst X2.here hx rfl (hb hby od_prog_100_m_18_10) (XS.iadd X2.here hx rfl (hb hby od_prog_100_m_18_11) rfl k))) ?_
  obtain ⟨cl3, Ar3, q3, S3, Nn3, H3, G3⟩ := id pr2
  have hin3 : ¬ ((0 : Int32) < 0 ∨ cl3.slots.size ≤ ((0 : Int32)).toNatClampNeg) := (inb_of S3 ⟨by decide, hz0⟩)
  refine own_s T2 (mkF m 13 #[rv a1, iv 0] [(.ref x)]) (fun _ k => X2.aaload hx (j := (0 : Int32)) (v := (.ref x)) (own_at e2 Ar3.1) (State.isArrayOf_alike hZ.alike Ar3.2.1) rfl Ar3.2.2 hin3 (Has.at H3 hin3 rfl) (g := (mkF m 12 #[rv a1, iv 0] [(.int 0), (.ref d)])) rfl rfl (hb hby od_prog_100_m_18_12) _ k) ?_
  exact own_finA X2 hx hret rfl rfl (hb hby od_prog_100_m_18_13) (own_end (Qv := (own_Qgn0_1 Z a1 d kd z x v1 v2 v3 v4 v5 v6 v7 v8 v9 v10 v11 v12 h0 n0)) X2 (own_some hret) hlk (by decide) (by decide) e2 ⟨rfl, N0, rfl⟩)
abbrev own_y15 : MethodName := ⟨"com/example/tagwright/tagwright/XmlElement", "attributeValue", "(I)Ljava/lang/String;"⟩
theorem od_prog_100_m_19_0 : decode prog_100_method_19_code 0 = .ok (.aload_n 0, 1) := by decide +kernel
theorem od_prog_100_m_19_1 : decode prog_100_method_19_code 1 = .ok (.getfield 33, 3) := by decide +kernel
theorem od_prog_100_m_19_4 : decode prog_100_method_19_code 4 = .ok (.iload_n 1, 1) := by decide +kernel
theorem od_prog_100_m_19_5 : decode prog_100_method_19_code 5 = .ok (.aload_n 0, 1) := by decide +kernel
theorem od_prog_100_m_19_6 : decode prog_100_method_19_code 6 = .ok (.getfield 40, 3) := by decide +kernel
theorem od_prog_100_m_19_9 : decode prog_100_method_19_code 9 = .ok (.imul, 1) := by decide +kernel
theorem od_prog_100_m_19_10 : decode prog_100_method_19_code 10 = .ok (.iconst 1, 1) := by decide +kernel
theorem od_prog_100_m_19_11 : decode prog_100_method_19_code 11 = .ok (.iadd, 1) := by decide +kernel
theorem od_prog_100_m_19_12 : decode prog_100_method_19_code 12 = .ok (.aaload, 1) := by decide +kernel
theorem od_prog_100_m_19_13 : decode prog_100_method_19_code 13 = .ok (.areturn, 1) := by decide +kernel
theorem own_efgv0_1 (m : MethodId) (x0 : Addr) (x1 : Int32) : entryFrame m #[(.ref x0), (.int x1)] 2 = mkF m 0 #[rv x0, iv x1] [] := by first | (simp [entryFrame, mkF, argsToLocals, Value.category]; done) | rfl
def own_Qgv0_1 (Z : State) (a1 : Addr) (d : Addr) (kd : ClassId) (z : Int32) (v0 : Value) (x : Addr) (v2 : Value) (v3 : Value) (v4 : Value) (v5 : Value) (v6 : Value) (v7 : Value) (v8 : Value) (v9 : Value) (v10 : Value) (v11 : Value) (v12 : Value) (h0 : Heap) (n0 : Nat) : Option Value → Heap → List Loc → Prop := fun v h L => v = some (.ref x) ∧ Fr n0 L ∧ h = h0
def own_Rgv0_1 : Room := { frames := 0, cells := 0, slots := 0, locals := 0 }
set_option maxRecDepth 65536 in
set_option maxHeartbeats 40000000 in
theorem own_rmgv0_1 (l : Launch) (Z : State) (a0 : Array Value) (hw : ∀ d ∈ tables_1, d.before a0 Z = true) (ws : List Jvm.Cond) (a1 : Addr) (d : Addr) (kd : ClassId) (z : Int32) (v0 : Value) (x : Addr) (v2 : Value) (v3 : Value) (v4 : Value) (v5 : Value) (v6 : Value) (v7 : Value) (v8 : Value) (v9 : Value) (v10 : Value) (v11 : Value) (v12 : Value) (h0 : Heap) (n0 : Nat) (Z0 : n0 ≤ h0.size) (pr0 : Fld Z h0 a1 "com/example/tagwright/tagwright/XmlElement" "attributes" "[Ljava/lang/String;" (.ref d)) (pr1 : Fld Z h0 a1 "com/example/tagwright/tagwright/XmlElement" "stride" "B" (.int 4)) (pr2 : Arv Z h0 d kd (.object "java/lang/String") z [v0, (.ref x), v2, v3, v4, v5, v6, v7, v8, v9, v10, v11, v12] .null) (hz1 : (1 : Int32) < z) :
    own_Met l Z own_y15 prog_100_method_19_code 2 (some (.object "java/lang/String")) ws own_Rgv0_1 h0 #[(.ref a1), (.int 0)] (own_Qgv0_1 Z a1 d kd z v0 x v2 v3 v4 v5 v6 v7 v8 v9 v10 v11 v12 h0 n0) own_Rgv0_1.cells own_Rgv0_1.slots := by
  refine own_start (plainFor_of_name own_pn3) ?_
  intro p e s m below meth c s₁ X0 hx hZ hby hml hret hlk hown hnm e0
  have hown : s.vm.findClass "com/example/tagwright/tagwright/XmlElement" = some m.cls := hown
  have hml : c.maxLocals = 2 := hml
  have N0 := Fr.nil n0
  refine own_cast (own_efgv0_1 m a1 (0 : Int32)) ?_
  refine own_s s₁ (mkF m 1 #[rv a1, iv 0] [(.ref a1)]) (fun _ k => XS.aloadN X0.here hx rfl (hb hby od_prog_100_m_19_0) rfl rfl k) ?_
  obtain ⟨T1, X1, e1, st1⟩ := getF X0 hx hZ hown (host := "") (Or.inl (own_h hw 60 rfl)) Via.refl e0 pr0 (g := (mkF m 1 #[rv a1, iv 0] [(.ref a1)])) rfl rfl (hb hby od_prog_100_m_19_1)
  refine own_s T1 (mkF m 4 #[rv a1, iv 0] [(.ref d)]) st1 ?_
  refine own_s T1 (mkF m 6 #[rv a1, iv 0] [(.ref a1), (.int 0), (.ref d)]) (fun _ k => XS.iloadN X1.here hx rfl (hb hby od_prog_100_m_19_4) rfl  (XS.aloadN X1.here hx rfl (hb hby od_prog_100_m_19_5) rfl rfl k)) ?_
  obtain ⟨T2, X2, e2, st2⟩ := getF X1 hx hZ hown (host := "") (Or.inl (own_h hw 65 rfl)) Via.refl e1 pr1 (g := (mkF m 6 #[rv a1, iv 0] [(.ref a1), (.int 0), (.ref d)])) rfl rfl (hb hby od_prog_100_m_19_6)
  refine own_s T2 (mkF m 9 #[rv a1, iv 0] [(.int 4), (.int 0), (.ref d)]) st2 ?_
  refine own_s T2 (mkF m 12 #[rv a1, iv 0] [(.int 1), (.ref d)]) (fun _ k => XS.imul X2.here hx rfl (hb hby od_prog_100_m_19_9) rfl (XS.iconst X2.here hx rfl (hb hby od_prog_100_m_19_10) (XS.iadd X2.here hx rfl (hb hby od_prog_100_m_19_11) rfl k))) ?_
  obtain ⟨cl3, Ar3, q3, S3, Nn3, H3, G3⟩ := id pr2
  have hin3 : ¬ ((1 : Int32) < 0 ∨ cl3.slots.size ≤ ((1 : Int32)).toNatClampNeg) := (inb_of S3 ⟨by decide, hz1⟩)
  refine own_s T2 (mkF m 13 #[rv a1, iv 0] [(.ref x)]) (fun _ k => X2.aaload hx (j := (1 : Int32)) (v := (.ref x)) (own_at e2 Ar3.1) (State.isArrayOf_alike hZ.alike Ar3.2.1) rfl Ar3.2.2 hin3 (Has.at H3 hin3 rfl) (g := (mkF m 12 #[rv a1, iv 0] [(.int 1), (.ref d)])) rfl rfl (hb hby od_prog_100_m_19_12) _ k) ?_
  exact own_finA X2 hx hret rfl rfl (hb hby od_prog_100_m_19_13) (own_end (Qv := (own_Qgv0_1 Z a1 d kd z v0 x v2 v3 v4 v5 v6 v7 v8 v9 v10 v11 v12 h0 n0)) X2 (own_some hret) hlk (by decide) (by decide) e2 ⟨rfl, N0, rfl⟩)
theorem od_prog_100_m_16_8 : decode prog_100_method_16_code 8 = .ok (.aload_n 0, 1) := by decide +kernel
theorem od_prog_100_m_16_9 : decode prog_100_method_16_code 9 = .ok (.getfield 33, 3) := by decide +kernel
theorem od_prog_100_m_16_12 : decode prog_100_method_16_code 12 = .ok (.iload_n 1, 1) := by decide +kernel
theorem od_prog_100_m_16_13 : decode prog_100_method_16_code 13 = .ok (.aload_n 0, 1) := by decide +kernel
theorem od_prog_100_m_16_14 : decode prog_100_method_16_code 14 = .ok (.getfield 40, 3) := by decide +kernel
theorem od_prog_100_m_16_17 : decode prog_100_method_16_code 17 = .ok (.imul, 1) := by decide +kernel
theorem od_prog_100_m_16_18 : decode prog_100_method_16_code 18 = .ok (.iconst 2, 1) := by decide +kernel
theorem od_prog_100_m_16_19 : decode prog_100_method_16_code 19 = .ok (.iadd, 1) := by decide +kernel
theorem od_prog_100_m_16_20 : decode prog_100_method_16_code 20 = .ok (.aaload, 1) := by decide +kernel
theorem od_prog_100_m_16_21 : decode prog_100_method_16_code 21 = .ok (.goto 4, 3) := by decide +kernel
theorem own_efgs0_1 (m : MethodId) (x0 : Addr) (x1 : Int32) : entryFrame m #[(.ref x0), (.int x1)] 2 = mkF m 0 #[rv x0, iv x1] [] := by first | (simp [entryFrame, mkF, argsToLocals, Value.category]; done) | rfl
def own_Qgs0_1 (Z : State) (a1 : Addr) (d : Addr) (kd : ClassId) (z : Int32) (v0 : Value) (v1 : Value) (x : Addr) (v3 : Value) (v4 : Value) (v5 : Value) (v6 : Value) (v7 : Value) (v8 : Value) (v9 : Value) (v10 : Value) (v11 : Value) (v12 : Value) (h0 : Heap) (n0 : Nat) : Option Value → Heap → List Loc → Prop := fun v h L => v = some (.ref x) ∧ Fr n0 L ∧ h = h0
def own_Rgs0_1 : Room := { frames := 0, cells := 0, slots := 0, locals := 0 }
set_option maxRecDepth 65536 in
set_option maxHeartbeats 40000000 in
theorem own_rmgs0_1 (l : Launch) (Z : State) (a0 : Array Value) (hw : ∀ d ∈ tables_1, d.before a0 Z = true) (ws : List Jvm.Cond) (a1 : Addr) (d : Addr) (kd : ClassId) (z : Int32) (v0 : Value) (v1 : Value) (x : Addr) (v3 : Value) (v4 : Value) (v5 : Value) (v6 : Value) (v7 : Value) (v8 : Value) (v9 : Value) (v10 : Value) (v11 : Value) (v12 : Value) (h0 : Heap) (n0 : Nat) (Z0 : n0 ≤ h0.size) (pr0 : Fld Z h0 a1 "com/example/tagwright/tagwright/XmlElement" "attributes" "[Ljava/lang/String;" (.ref d)) (pr1 : Fld Z h0 a1 "com/example/tagwright/tagwright/XmlElement" "stride" "B" (.int 4)) (pr2 : Arv Z h0 d kd (.object "java/lang/String") z [v0, v1, (.ref x), v3, v4, v5, v6, v7, v8, v9, v10, v11, v12] .null) (hz2 : (2 : Int32) < z) :
    own_Met l Z own_y13 prog_100_method_16_code 2 (some (.object "java/lang/String")) ws own_Rgs0_1 h0 #[(.ref a1), (.int 0)] (own_Qgs0_1 Z a1 d kd z v0 v1 x v3 v4 v5 v6 v7 v8 v9 v10 v11 v12 h0 n0) own_Rgs0_1.cells own_Rgs0_1.slots := by
  refine own_start (plainFor_of_name own_pn3) ?_
  intro p e s m below meth c s₁ X0 hx hZ hby hml hret hlk hown hnm e0
  have hown : s.vm.findClass "com/example/tagwright/tagwright/XmlElement" = some m.cls := hown
  have hml : c.maxLocals = 2 := hml
  have N0 := Fr.nil n0
  refine own_cast (own_efgs0_1 m a1 (0 : Int32)) ?_
  refine own_s s₁ (mkF m 1 #[rv a1, iv 0] [(.ref a1)]) (fun _ k => XS.aloadN X0.here hx rfl (hb hby od_prog_100_m_16_0) rfl rfl k) ?_
  obtain ⟨T1, X1, e1, st1⟩ := getF X0 hx hZ hown (host := "") (Or.inl (own_h hw 65 rfl)) Via.refl e0 pr1 (g := (mkF m 1 #[rv a1, iv 0] [(.ref a1)])) rfl rfl (hb hby od_prog_100_m_16_1)
  refine own_s T1 (mkF m 4 #[rv a1, iv 0] [(.int 4)]) st1 ?_
  refine own_s T1 (mkF m 9 #[rv a1, iv 0] [(.ref a1)]) (fun _ k => XS.iconst X1.here hx rfl (hb hby od_prog_100_m_16_4) (XS.icmpNo X1.here hx rfl (hb hby od_prog_100_m_16_5) rfl (teq (by decide : ((4 : Int32) = (4 : Int32)))).2 (XS.aloadN X1.here hx rfl (hb hby od_prog_100_m_16_8) rfl rfl k))) ?_
  obtain ⟨T2, X2, e2, st2⟩ := getF X1 hx hZ hown (host := "") (Or.inl (own_h hw 60 rfl)) Via.refl e1 pr0 (g := (mkF m 9 #[rv a1, iv 0] [(.ref a1)])) rfl rfl (hb hby od_prog_100_m_16_9)
  refine own_s T2 (mkF m 12 #[rv a1, iv 0] [(.ref d)]) st2 ?_
  refine own_s T2 (mkF m 14 #[rv a1, iv 0] [(.ref a1), (.int 0), (.ref d)]) (fun _ k => XS.iloadN X2.here hx rfl (hb hby od_prog_100_m_16_12) rfl  (XS.aloadN X2.here hx rfl (hb hby od_prog_100_m_16_13) rfl rfl k)) ?_
  obtain ⟨T3, X3, e3, st3⟩ := getF X2 hx hZ hown (host := "") (Or.inl (own_h hw 65 rfl)) Via.refl e2 pr1 (g := (mkF m 14 #[rv a1, iv 0] [(.ref a1), (.int 0), (.ref d)])) rfl rfl (hb hby od_prog_100_m_16_14)
  refine own_s T3 (mkF m 17 #[rv a1, iv 0] [(.int 4), (.int 0), (.ref d)]) st3 ?_
  refine own_s T3 (mkF m 20 #[rv a1, iv 0] [(.int 2), (.ref d)]) (fun _ k => XS.imul X3.here hx rfl (hb hby od_prog_100_m_16_17) rfl (XS.iconst X3.here hx rfl (hb hby od_prog_100_m_16_18) (XS.iadd X3.here hx rfl (hb hby od_prog_100_m_16_19) rfl k))) ?_
  obtain ⟨cl4, Ar4, q4, S4, Nn4, H4, G4⟩ := id pr2
  have hin4 : ¬ ((2 : Int32) < 0 ∨ cl4.slots.size ≤ ((2 : Int32)).toNatClampNeg) := (inb_of S4 ⟨by decide, hz2⟩)
  refine own_s T3 (mkF m 25 #[rv a1, iv 0] [(.ref x)]) (fun _ k => X3.aaload hx (j := (2 : Int32)) (v := (.ref x)) (own_at e3 Ar4.1) (State.isArrayOf_alike hZ.alike Ar4.2.1) rfl Ar4.2.2 hin4 (Has.at H4 hin4 rfl) (g := (mkF m 20 #[rv a1, iv 0] [(.int 2), (.ref d)])) rfl rfl (hb hby od_prog_100_m_16_20) _ (XS.goto X3.here hx rfl (pc0 := 21) (pc' := 25) rfl (hb hby od_prog_100_m_16_21) (by decide) (by decide) k)) ?_
  exact own_finA X3 hx hret rfl rfl (hb hby od_prog_100_m_16_25) (own_end (Qv := (own_Qgs0_1 Z a1 d kd z v0 v1 x v3 v4 v5 v6 v7 v8 v9 v10 v11 v12 h0 n0)) X3 (own_some hret) hlk (by decide) (by decide) e3 ⟨rfl, N0, rfl⟩)
abbrev own_y16 : MethodName := ⟨"com/example/tagwright/tagwright/XmlElement", "attributeLocalName", "(I)Ljava/lang/String;"⟩
theorem od_prog_100_m_17_0 : decode prog_100_method_17_code 0 = .ok (.aload_n 0, 1) := by decide +kernel
theorem od_prog_100_m_17_1 : decode prog_100_method_17_code 1 = .ok (.getfield 33, 3) := by decide +kernel
theorem od_prog_100_m_17_4 : decode prog_100_method_17_code 4 = .ok (.iload_n 1, 1) := by decide +kernel
theorem od_prog_100_m_17_5 : decode prog_100_method_17_code 5 = .ok (.aload_n 0, 1) := by decide +kernel
theorem od_prog_100_m_17_6 : decode prog_100_method_17_code 6 = .ok (.getfield 40, 3) := by decide +kernel
theorem od_prog_100_m_17_9 : decode prog_100_method_17_code 9 = .ok (.imul, 1) := by decide +kernel
theorem od_prog_100_m_17_10 : decode prog_100_method_17_code 10 = .ok (.aload_n 0, 1) := by decide +kernel
theorem od_prog_100_m_17_11 : decode prog_100_method_17_code 11 = .ok (.getfield 40, 3) := by decide +kernel
theorem od_prog_100_m_17_14 : decode prog_100_method_17_code 14 = .ok (.iconst 4, 1) := by decide +kernel
theorem od_prog_100_m_17_15 : decode prog_100_method_17_code 15 = .ok (.if_icmp .ne 7, 3) := by decide +kernel
theorem od_prog_100_m_17_18 : decode prog_100_method_17_code 18 = .ok (.iconst 3, 1) := by decide +kernel
theorem od_prog_100_m_17_19 : decode prog_100_method_17_code 19 = .ok (.goto 4, 3) := by decide +kernel
theorem od_prog_100_m_17_23 : decode prog_100_method_17_code 23 = .ok (.iadd, 1) := by decide +kernel
theorem od_prog_100_m_17_24 : decode prog_100_method_17_code 24 = .ok (.aaload, 1) := by decide +kernel
theorem od_prog_100_m_17_25 : decode prog_100_method_17_code 25 = .ok (.areturn, 1) := by decide +kernel
theorem own_efgl0_1 (m : MethodId) (x0 : Addr) (x1 : Int32) : entryFrame m #[(.ref x0), (.int x1)] 2 = mkF m 0 #[rv x0, iv x1] [] := by first | (simp [entryFrame, mkF, argsToLocals, Value.category]; done) | rfl
def own_Qgl0_1 (Z : State) (a1 : Addr) (d : Addr) (kd : ClassId) (z : Int32) (v0 : Value) (v1 : Value) (v2 : Value) (x : Addr) (v4 : Value) (v5 : Value) (v6 : Value) (v7 : Value) (v8 : Value) (v9 : Value) (v10 : Value) (v11 : Value) (v12 : Value) (h0 : Heap) (n0 : Nat) : Option Value → Heap → List Loc → Prop := fun v h L => v = some (.ref x) ∧ Fr n0 L ∧ h = h0
def own_Rgl0_1 : Room := { frames := 0, cells := 0, slots := 0, locals := 0 }
set_option maxRecDepth 65536 in
set_option maxHeartbeats 40000000 in
theorem own_rmgl0_1 (l : Launch) (Z : State) (a0 : Array Value) (hw : ∀ d ∈ tables_1, d.before a0 Z = true) (ws : List Jvm.Cond) (a1 : Addr) (d : Addr) (kd : ClassId) (z : Int32) (v0 : Value) (v1 : Value) (v2 : Value) (x : Addr) (v4 : Value) (v5 : Value) (v6 : Value) (v7 : Value) (v8 : Value) (v9 : Value) (v10 : Value) (v11 : Value) (v12 : Value) (h0 : Heap) (n0 : Nat) (Z0 : n0 ≤ h0.size) (pr0 : Fld Z h0 a1 "com/example/tagwright/tagwright/XmlElement" "attributes" "[Ljava/lang/String;" (.ref d)) (pr1 : Fld Z h0 a1 "com/example/tagwright/tagwright/XmlElement" "stride" "B" (.int 4)) (pr2 : Arv Z h0 d kd (.object "java/lang/String") z [v0, v1, v2, (.ref x), v4, v5, v6, v7, v8, v9, v10, v11, v12] .null) (hz3 : (3 : Int32) < z) :
    own_Met l Z own_y16 prog_100_method_17_code 2 (some (.object "java/lang/String")) ws own_Rgl0_1 h0 #[(.ref a1), (.int 0)] (own_Qgl0_1 Z a1 d kd z v0 v1 v2 x v4 v5 v6 v7 v8 v9 v10 v11 v12 h0 n0) own_Rgl0_1.cells own_Rgl0_1.slots := by
  refine own_start (plainFor_of_name own_pn3) ?_
  intro p e s m below meth c s₁ X0 hx hZ hby hml hret hlk hown hnm e0
  have hown : s.vm.findClass "com/example/tagwright/tagwright/XmlElement" = some m.cls := hown
  have hml : c.maxLocals = 2 := hml
  have N0 := Fr.nil n0
  refine own_cast (own_efgl0_1 m a1 (0 : Int32)) ?_
  refine own_s s₁ (mkF m 1 #[rv a1, iv 0] [(.ref a1)]) (fun _ k => XS.aloadN X0.here hx rfl (hb hby od_prog_100_m_17_0) rfl rfl k) ?_
  obtain ⟨T1, X1, e1, st1⟩ := getF X0 hx hZ hown (host := "") (Or.inl (own_h hw 60 rfl)) Via.refl e0 pr0 (g := (mkF m 1 #[rv a1, iv 0] [(.ref a1)])) rfl rfl (hb hby od_prog_100_m_17_1)
  refine own_s T1 (mkF m 4 #[rv a1, iv 0] [(.ref d)]) st1 ?_
  refine own_s T1 (mkF m 6 #[rv a1, iv 0] [(.ref a1), (.int 0), (.ref d)]) (fun _ k => XS.iloadN X1.here hx rfl (hb hby od_prog_100_m_17_4) rfl  (XS.aloadN X1.here hx rfl (hb hby od_prog_100_m_17_5) rfl rfl k)) ?_
  obtain ⟨T2, X2, e2, st2⟩ := getF X1 hx hZ hown (host := "") (Or.inl (own_h hw 65 rfl)) Via.refl e1 pr1 (g := (mkF m 6 #[rv a1, iv 0] [(.ref a1), (.int 0), (.ref d)])) rfl rfl (hb hby od_prog_100_m_17_6)
  refine own_s T2 (mkF m 9 #[rv a1, iv 0] [(.int 4), (.int 0), (.ref d)]) st2 ?_
  refine own_s T2 (mkF m 11 #[rv a1, iv 0] [(.ref a1), (.int 0), (.ref d)]) (fun _ k => XS.imul X2.here hx rfl (hb hby od_prog_100_m_17_9) rfl (XS.aloadN X2.here hx rfl (hb hby od_prog_100_m_17_10) rfl rfl k)) ?_
  obtain ⟨T3, X3, e3, st3⟩ := getF X2 hx hZ hown (host := "") (Or.inl (own_h hw 65 rfl)) Via.refl e2 pr1 (g := (mkF m 11 #[rv a1, iv 0] [(.ref a1), (.int 0), (.ref d)])) rfl rfl (hb hby od_prog_100_m_17_11)
  refine own_s T3 (mkF m 14 #[rv a1, iv 0] [(.int 4), (.int 0), (.ref d)]) st3 ?_
  refine own_s T3 (mkF m 24 #[rv a1, iv 0] [(.int 3), (.ref d)]) (fun _ k => XS.iconst X3.here hx rfl (hb hby od_prog_100_m_17_14) (XS.icmpNo X3.here hx rfl (hb hby od_prog_100_m_17_15) rfl (teq (by decide : ((4 : Int32) = (4 : Int32)))).2 (XS.iconst X3.here hx rfl (hb hby od_prog_100_m_17_18) (XS.goto X3.here hx rfl (pc0 := 19) (pc' := 23) rfl (hb hby od_prog_100_m_17_19) (by decide) (by decide) (XS.iadd X3.here hx rfl (hb hby od_prog_100_m_17_23) rfl k))))) ?_
  obtain ⟨cl4, Ar4, q4, S4, Nn4, H4, G4⟩ := id pr2
  have hin4 : ¬ ((3 : Int32) < 0 ∨ cl4.slots.size ≤ ((3 : Int32)).toNatClampNeg) := (inb_of S4 ⟨by decide, hz3⟩)
  refine own_s T3 (mkF m 25 #[rv a1, iv 0] [(.ref x)]) (fun _ k => X3.aaload hx (j := (3 : Int32)) (v := (.ref x)) (own_at e3 Ar4.1) (State.isArrayOf_alike hZ.alike Ar4.2.1) rfl Ar4.2.2 hin4 (Has.at H4 hin4 rfl) (g := (mkF m 24 #[rv a1, iv 0] [(.int 3), (.ref d)])) rfl rfl (hb hby od_prog_100_m_17_24) _ k) ?_
  exact own_finA X3 hx hret rfl rfl (hb hby od_prog_100_m_17_25) (own_end (Qv := (own_Qgl0_1 Z a1 d kd z v0 v1 v2 x v4 v5 v6 v7 v8 v9 v10 v11 v12 h0 n0)) X3 (own_some hret) hlk (by decide) (by decide) e3 ⟨rfl, N0, rfl⟩)
theorem own_pd9 : parseMethodDescriptor "(I)Ljava/lang/String;" = some ⟨[.int], some (.object "java/lang/String")⟩ := by decide +kernel
abbrev own_y17 : MethodName := ⟨"com/example/tagwright/tagwright/XmlElementNewAttributesPinLaw", "check", "(Lcom/example/tagwright/tagwright/XmlElement;IZIIII)Z"⟩
theorem od_m_5_0 : decode method_5_code 0 = .ok (.iload_n 3, 1) := by decide +kernel
theorem od_m_5_1 : decode method_5_code 1 = .ok (.iload_n 1, 1) := by decide +kernel
theorem od_m_5_2 : decode method_5_code 2 = .ok (.invokestatic 41, 3) := by decide +kernel
theorem od_m_5_5 : decode method_5_code 5 = .ok (.astore 7, 2) := by decide +kernel
theorem od_m_5_7 : decode method_5_code 7 = .ok (.iload 4, 2) := by decide +kernel
theorem od_m_5_9 : decode method_5_code 9 = .ok (.iload_n 1, 1) := by decide +kernel
theorem od_m_5_10 : decode method_5_code 10 = .ok (.invokestatic 41, 3) := by decide +kernel
theorem od_m_5_13 : decode method_5_code 13 = .ok (.astore 8, 2) := by decide +kernel
theorem od_m_5_15 : decode method_5_code 15 = .ok (.aload 7, 2) := by decide +kernel
theorem od_m_5_17 : decode method_5_code 17 = .ok (.aload_n 0, 1) := by decide +kernel
theorem od_m_5_18 : decode method_5_code 18 = .ok (.iload_n 1, 1) := by decide +kernel
theorem od_m_5_19 : decode method_5_code 19 = .ok (.invokevirtual 49, 3) := by decide +kernel
theorem od_m_5_22 : decode method_5_code 22 = .ok (.invokevirtual 53, 3) := by decide +kernel
theorem od_m_5_25 : decode method_5_code 25 = .ok (.ifCond .eq 16, 3) := by decide +kernel
theorem od_m_5_28 : decode method_5_code 28 = .ok (.aload 8, 2) := by decide +kernel
theorem od_m_5_30 : decode method_5_code 30 = .ok (.aload_n 0, 1) := by decide +kernel
theorem od_m_5_31 : decode method_5_code 31 = .ok (.iload_n 1, 1) := by decide +kernel
theorem od_m_5_32 : decode method_5_code 32 = .ok (.invokevirtual 57, 3) := by decide +kernel
theorem od_m_5_35 : decode method_5_code 35 = .ok (.invokevirtual 53, 3) := by decide +kernel
theorem od_m_5_38 : decode method_5_code 38 = .ok (.ifCond .ne 5, 3) := by decide +kernel
theorem od_m_5_43 : decode method_5_code 43 = .ok (.iload_n 2, 1) := by decide +kernel
theorem od_m_5_44 : decode method_5_code 44 = .ok (.ifCond .eq 43, 3) := by decide +kernel
theorem od_m_5_47 : decode method_5_code 47 = .ok (.iload 6, 2) := by decide +kernel
theorem od_m_5_49 : decode method_5_code 49 = .ok (.iload_n 1, 1) := by decide +kernel
theorem od_m_5_50 : decode method_5_code 50 = .ok (.invokestatic 41, 3) := by decide +kernel
theorem od_m_5_53 : decode method_5_code 53 = .ok (.aload_n 0, 1) := by decide +kernel
theorem od_m_5_54 : decode method_5_code 54 = .ok (.iload_n 1, 1) := by decide +kernel
theorem od_m_5_55 : decode method_5_code 55 = .ok (.invokevirtual 60, 3) := by decide +kernel
theorem od_m_5_58 : decode method_5_code 58 = .ok (.invokevirtual 53, 3) := by decide +kernel
theorem od_m_5_61 : decode method_5_code 61 = .ok (.ifCond .eq 24, 3) := by decide +kernel
theorem od_m_5_64 : decode method_5_code 64 = .ok (.iload 5, 2) := by decide +kernel
theorem od_m_5_66 : decode method_5_code 66 = .ok (.iload_n 1, 1) := by decide +kernel
theorem od_m_5_67 : decode method_5_code 67 = .ok (.invokestatic 41, 3) := by decide +kernel
theorem od_m_5_70 : decode method_5_code 70 = .ok (.aload_n 0, 1) := by decide +kernel
theorem od_m_5_71 : decode method_5_code 71 = .ok (.iload_n 1, 1) := by decide +kernel
theorem od_m_5_72 : decode method_5_code 72 = .ok (.invokevirtual 63, 3) := by decide +kernel
theorem od_m_5_75 : decode method_5_code 75 = .ok (.invokevirtual 53, 3) := by decide +kernel
theorem od_m_5_78 : decode method_5_code 78 = .ok (.ifCond .eq 7, 3) := by decide +kernel
theorem od_m_5_81 : decode method_5_code 81 = .ok (.iconst 1, 1) := by decide +kernel
theorem od_m_5_82 : decode method_5_code 82 = .ok (.goto 4, 3) := by decide +kernel
theorem od_m_5_86 : decode method_5_code 86 = .ok (.ireturn, 1) := by decide +kernel
theorem own_efchk0_1 (m : MethodId) (x0 : Addr) (x1 : Int32) (x2 : Int32) (x3 : Int32) (x4 : Int32) (x5 : Int32) (x6 : Int32) : entryFrame m #[(.ref x0), (.int x1), (.int x2), (.int x3), (.int x4), (.int x5), (.int x6)] 9 = mkF m 0 #[rv x0, iv x1, iv x2, iv x3, iv x4, iv x5, iv x6, u_, u_] [] := by first | (simp [entryFrame, mkF, argsToLocals, Value.category]; done) | rfl
def own_Qchk0_1 (Z : State) (a1 : Addr) (p4 : Int32) (p5 : Int32) (p6 : Int32) (p7 : Int32) (d : Addr) (kd : ClassId) (z : Int32) (sn : Addr) (sv : Addr) (ss : Addr) (sl : Addr) (v4 : Value) (v5 : Value) (v6 : Value) (v7 : Value) (v8 : Value) (v9 : Value) (v10 : Value) (v11 : Value) (v12 : Value) (bn : Addr) (kn : ClassId) (bv : Addr) (kv : ClassId) (bs : Addr) (ks : ClassId) (bl : Addr) (kl : ClassId) (gC : Int32) (h0 : Heap) (n0 : Nat) : Option Value → Heap → List Loc → Prop := fun v h L => v = some (.int 1) ∧ Fr n0 L ∧ Keep h0 h []
def own_Rchk0_1 : Room := { frames := 4, cells := 8, slots := 20, locals := 52 }
set_option maxRecDepth 65536 in
set_option maxHeartbeats 40000000 in
theorem own_rmchk0_1 (l : Launch) (Z : State) (a0 : Array Value) (hw : ∀ d ∈ tables_1, d.before a0 Z = true) (ws : List Jvm.Cond) (a1 : Addr) (p4 : Int32) (p5 : Int32) (p6 : Int32) (p7 : Int32) (d : Addr) (kd : ClassId) (z : Int32) (sn : Addr) (sv : Addr) (ss : Addr) (sl : Addr) (v4 : Value) (v5 : Value) (v6 : Value) (v7 : Value) (v8 : Value) (v9 : Value) (v10 : Value) (v11 : Value) (v12 : Value) (bn : Addr) (kn : ClassId) (bv : Addr) (kv : ClassId) (bs : Addr) (ks : ClassId) (bl : Addr) (kl : ClassId) (gC : Int32) (h0 : Heap) (n0 : Nat) (Z0 : n0 ≤ h0.size) (pr0 : Exa Z h0 a1 "com/example/tagwright/tagwright/XmlElement") (pr1 : Fld Z h0 a1 "com/example/tagwright/tagwright/XmlElement" "attributes" "[Ljava/lang/String;" (.ref d)) (pr2 : Fld Z h0 a1 "com/example/tagwright/tagwright/XmlElement" "stride" "B" (.int 4)) (pr3 : Arv Z h0 d kd (.object "java/lang/String") z [(.ref sn), (.ref sv), (.ref ss), (.ref sl), v4, v5, v6, v7, v8, v9, v10, v11, v12] .null) (pr4 : Exa Z h0 sn "java/lang/String") (pr5 : Fld Z h0 sn "java/lang/String" "coder" "B" (.int 0)) (pr6 : Fld Z h0 sn "java/lang/String" "value" "[B" (.ref bn)) (pr7 : Arv Z h0 bn kn .byte (1 : Int32) [(.int (own_by (own_chr p4 (0 : Int32))))] (.int 0)) (pr8 : Exa Z h0 sv "java/lang/String") (pr9 : Fld Z h0 sv "java/lang/String" "coder" "B" (.int 0)) (pr10 : Fld Z h0 sv "java/lang/String" "value" "[B" (.ref bv)) (pr11 : Arv Z h0 bv kv .byte (1 : Int32) [(.int (own_by (own_chr p5 (0 : Int32))))] (.int 0)) (pr12 : Exa Z h0 ss "java/lang/String") (pr13 : Fld Z h0 ss "java/lang/String" "coder" "B" (.int 0)) (pr14 : Fld Z h0 ss "java/lang/String" "value" "[B" (.ref bs)) (pr15 : Arv Z h0 bs ks .byte (1 : Int32) [(.int (own_by (own_chr p7 (0 : Int32))))] (.int 0)) (pr16 : Exa Z h0 sl "java/lang/String") (pr17 : Fld Z h0 sl "java/lang/String" "coder" "B" (.int 0)) (pr18 : Fld Z h0 sl "java/lang/String" "value" "[B" (.ref bl)) (pr19 : Arv Z h0 bl kl .byte (1 : Int32) [(.int (own_by (own_chr p6 (0 : Int32))))] (.int 0)) (pr20 : Sta Z h0 "java/lang/String" "COMPACT_STRINGS" "Z" (.int gC)) (hG : ¬ gC = (0 : Int32)) (hz0 : (0 : Int32) < z) (hz1 : (1 : Int32) < z) (hz2 : (2 : Int32) < z) (hz3 : (3 : Int32) < z) :
    own_Met l Z own_y17 method_5_code 9 (some .boolean) ws own_Rchk0_1 h0 #[(.ref a1), (.int 0), (.int 1), (.int p4), (.int p5), (.int p6), (.int p7)] (own_Qchk0_1 Z a1 p4 p5 p6 p7 d kd z sn sv ss sl v4 v5 v6 v7 v8 v9 v10 v11 v12 bn kn bv kv bs ks bl kl gC h0 n0) own_Rchk0_1.cells own_Rchk0_1.slots := by
  refine own_start (plainFor_of_name own_pn2) ?_
  intro p e s m below meth c s₁ X0 hx hZ hby hml hret hlk hown hnm e0
  have hown : s.vm.findClass "com/example/tagwright/tagwright/XmlElementNewAttributesPinLaw" = some m.cls := hown
  have hml : c.maxLocals = 9 := hml
  have N0 := Fr.nil n0
  refine own_cast (own_efchk0_1 m a1 (0 : Int32) (1 : Int32) p4 p5 p6 p7) ?_
  refine own_s s₁ (mkF m 2 #[rv a1, iv 0, iv 1, iv p4, iv p5, iv p6, iv p7, u_, u_] [(.int 0), (.int p4)]) (fun _ k => XS.iloadN X0.here hx rfl (hb hby od_m_5_0) rfl  (XS.iloadN X0.here hx rfl (hb hby od_m_5_1) rfl  k)) ?_
  obtain ⟨v1, T1, L1, X1, hQ1, st1⟩ := own_callS X0 hx hZ (y := own_y4) (W := 0) hown (own_h hw 82 rfl) (own_h hw 83 rfl) (own_h hw 80 rfl) (own_h hw 84 rfl) (by decide) (own_rmstr l Z a0 hw [] p4 (0 : Int32) gC h0 n0 Z0 pr20 hG) (by decide) (by decide) (g := (mkF m 2 #[rv a1, iv 0, iv 1, iv p4, iv p5, iv p6, iv p7, u_, u_] [(.int 0), (.int p4)])) rfl (by rw [hml]; rfl) (argsL := [(.int p4), (.int 0)]) (rest := []) rfl (lenOf own_pd6 rfl) rfl (by show 2 * 0 + _ ≤ _; exact Nat.le_of_eq rfl) (hb hby od_m_5_2) e0 (by decide) (by decide)
  obtain ⟨za1, zb1, zk1, rfl, Nq1, Kq1, g_za1, sq_za1, g_zb1, sq_zb1, q1_0, q1_1, q1_2, q1_3⟩ := hQ1
  have N1 := Fr.app N0 Nq1
  have sz_za1 : h0.size ≤ za1 := Nat.le_trans (Keep.refl h0 []).1 sq_za1
  have sz_zb1 : h0.size ≤ zb1 := Nat.le_trans (Keep.refl h0 []).1 sq_zb1
  have f2 := pr0.keep Kq1
  have f3 := pr1.keep Kq1 nin0
  have f4 := pr2.keep Kq1 nin0
  have f5 := pr3.keep Kq1 nin0
  have f6 := pr4.keep Kq1
  have f7 := pr5.keep Kq1 nin0
  have f8 := pr6.keep Kq1 nin0
  have f9 := pr7.keep Kq1 nin0
  have f10 := pr8.keep Kq1
  have f11 := pr9.keep Kq1 nin0
  have f12 := pr10.keep Kq1 nin0
  have f13 := pr11.keep Kq1 nin0
  have f14 := pr12.keep Kq1
  have f15 := pr13.keep Kq1 nin0
  have f16 := pr14.keep Kq1 nin0
  have f17 := pr15.keep Kq1 nin0
  have f18 := pr16.keep Kq1
  have f19 := pr17.keep Kq1 nin0
  have f20 := pr18.keep Kq1 nin0
  have f21 := pr19.keep Kq1 nin0
  have f22 := own_staKeep pr20 Kq1
  have K1 : Keep h0 T1.heap [] := (Keep.refl h0 []).trans Kq1 all0
  have Z1 := Nat.le_trans Z0 Kq1.1
  refine own_s T1 (mkF m 5 #[rv a1, iv 0, iv 1, iv p4, iv p5, iv p6, iv p7, u_, u_] [(.ref za1)]) st1 ?_
  refine own_s T1 (mkF m 10 #[rv a1, iv 0, iv 1, iv p4, iv p5, iv p6, iv p7, rv za1, u_] [(.int 0), (.int p5)]) (fun _ k => XS.astore X1.here hx rfl (hb hby od_m_5_5) rfl rfl (l' := #[rv a1, iv 0, iv 1, iv p4, iv p5, iv p6, iv p7, rv za1, u_]) rfl (XS.iload X1.here hx rfl (hb hby od_m_5_7) rfl  (XS.iloadN X1.here hx rfl (hb hby od_m_5_9) rfl  k))) ?_
  obtain ⟨v23, T23, L23, X23, hQ23, st23⟩ := own_callS X1 hx hZ (y := own_y4) (W := 0) hown (own_h hw 82 rfl) (own_h hw 83 rfl) (own_h hw 80 rfl) (own_h hw 84 rfl) (by decide) (own_rmstr l Z a0 hw [] p5 (0 : Int32) gC T1.heap n0 Z1 f22 hG) (by decide) (by decide) (g := (mkF m 10 #[rv a1, iv 0, iv 1, iv p4, iv p5, iv p6, iv p7, rv za1, u_] [(.int 0), (.int p5)])) rfl (by rw [hml]; rfl) (argsL := [(.int p5), (.int 0)]) (rest := []) rfl (lenOf own_pd6 rfl) rfl (by show 2 * 0 + _ ≤ _; exact Nat.le_of_eq rfl) (hb hby od_m_5_10) rfl (by decide) (by decide)
  obtain ⟨za23, zb23, zk23, rfl, Nq23, Kq23, g_za23, sq_za23, g_zb23, sq_zb23, q23_0, q23_1, q23_2, q23_3⟩ := hQ23
  have N23 := Fr.app N1 Nq23
  have sz_za23 : h0.size ≤ za23 := Nat.le_trans K1.1 sq_za23
  have sz_zb23 : h0.size ≤ zb23 := Nat.le_trans K1.1 sq_zb23
  have f24 := f2.keep Kq23
  have f25 := f3.keep Kq23 nin0
  have f26 := f4.keep Kq23 nin0
  have f27 := f5.keep Kq23 nin0
  have f28 := f6.keep Kq23
  have f29 := f7.keep Kq23 nin0
  have f30 := f8.keep Kq23 nin0
  have f31 := f9.keep Kq23 nin0
  have f32 := f10.keep Kq23
  have f33 := f11.keep Kq23 nin0
  have f34 := f12.keep Kq23 nin0
  have f35 := f13.keep Kq23 nin0
  have f36 := f14.keep Kq23
  have f37 := f15.keep Kq23 nin0
  have f38 := f16.keep Kq23 nin0
  have f39 := f17.keep Kq23 nin0
  have f40 := f18.keep Kq23
  have f41 := f19.keep Kq23 nin0
  have f42 := f20.keep Kq23 nin0
  have f43 := f21.keep Kq23 nin0
  have f44 := own_staKeep f22 Kq23
  have f45 := q1_0.keep Kq23
  have f46 := q1_1.keep Kq23 nin0
  have f47 := q1_2.keep Kq23 nin0
  have f48 := q1_3.keep Kq23 nin0
  have K23 : Keep h0 T23.heap [] := K1.trans Kq23 all0
  have Z23 := Nat.le_trans Z1 Kq23.1
  refine own_s T23 (mkF m 13 #[rv a1, iv 0, iv 1, iv p4, iv p5, iv p6, iv p7, rv za1, u_] [(.ref za23)]) st23 ?_
  refine own_s T23 (mkF m 19 #[rv a1, iv 0, iv 1, iv p4, iv p5, iv p6, iv p7, rv za1, rv za23] [(.int 0), (.ref a1), (.ref za1)]) (fun _ k => XS.astore X23.here hx rfl (hb hby od_m_5_13) rfl rfl (l' := #[rv a1, iv 0, iv 1, iv p4, iv p5, iv p6, iv p7, rv za1, rv za23]) rfl (XS.aload X23.here hx rfl (hb hby od_m_5_15) rfl rfl (XS.aloadN X23.here hx rfl (hb hby od_m_5_17) rfl rfl (XS.iloadN X23.here hx rfl (hb hby od_m_5_18) rfl  k)))) ?_
  obtain ⟨v49, T49, L49, X49, hQ49, st49⟩ := own_callV X23 hx hZ (y := own_y14) (z := own_y14) (W := 1) (a := a1) hown (own_h hw 115 rfl) (own_h hw 116 rfl) (notFace_of_selects (args := #[]) (mvT hZ (own_h hw 118 rfl))) (own_h hw 118 rfl) (own_h hw 117 rfl) (own_h hw 2 rfl) (own_h hw 119 rfl) (by decide) (own_rmgn0_1 l Z a0 hw [] a1 d kd z sn (.ref sv) (.ref ss) (.ref sl) v4 v5 v6 v7 v8 v9 v10 v11 v12 T23.heap n0 Z23 f25 f26 f27 hz0) (by decide) (by decide) f24 (g := (mkF m 19 #[rv a1, iv 0, iv 1, iv p4, iv p5, iv p6, iv p7, rv za1, rv za23] [(.int 0), (.ref a1), (.ref za1)])) rfl (by rw [hml]; rfl) (argsL := [(.int 0)]) (rest := [(.ref za1)]) rfl (lenOf own_pd9 rfl) rfl (by show 2 * 0 + _ ≤ _; exact Nat.le_of_eq rfl) (hb hby od_m_5_19) rfl (by decide) (by decide)
  obtain ⟨rfl, Nq49, e49⟩ := hQ49
  have N49 := Fr.app N23 Nq49
  refine own_s T49 (mkF m 22 #[rv a1, iv 0, iv 1, iv p4, iv p5, iv p6, iv p7, rv za1, rv za23] [(.ref sn), (.ref za1)]) st49 ?_
  obtain ⟨v50, T50, L50, X50, hQ50, st50⟩ := own_callV X49 hx hZ (y := own_y6) (z := own_y6) (W := 0) (a := za1) hown (own_h hw 120 rfl) (own_h hw 108 rfl) (notFace_of_selects (args := #[]) (mvT hZ (own_h hw 110 rfl))) (own_h hw 110 rfl) (own_h hw 109 rfl) (own_h hw 9 rfl) (own_h hw 111 rfl) (by decide) (own_rmeqD l Z a0 hw [] za1 sn zb1 zk1 (own_by (own_chr p4 (0 : Int32))) bn kn gC T23.heap n0 Z23 f45 f46 f47 f48 f28 f29 f30 f31 f44 hG (Ne.symm (own_nl pr4.lt sq_za1))) (by decide) (by decide) f45 (g := (mkF m 22 #[rv a1, iv 0, iv 1, iv p4, iv p5, iv p6, iv p7, rv za1, rv za23] [(.ref sn), (.ref za1)])) rfl (by rw [hml]; rfl) (argsL := [(.ref sn)]) (rest := []) rfl (lenOf own_pd8 rfl) rfl (by show 2 * 0 + _ ≤ _; exact Nat.le_of_eq rfl) (hb hby od_m_5_22) e49 (by decide) (by decide)
  obtain ⟨rfl, Nq50, e50⟩ := hQ50
  have N50 := Fr.app N49 Nq50
  refine own_s T50 (mkF m 25 #[rv a1, iv 0, iv 1, iv p4, iv p5, iv p6, iv p7, rv za1, rv za23] [(.int 1)]) st50 ?_
  refine own_s T50 (mkF m 32 #[rv a1, iv 0, iv 1, iv p4, iv p5, iv p6, iv p7, rv za1, rv za23] [(.int 0), (.ref a1), (.ref za23)]) (fun _ k => XS.ifNo X50.here hx rfl (hb hby od_m_5_25) rfl ((if0 _ _).trans (feq (by decide : ¬ ((1 : Int32) = (0 : Int32)))).1) (XS.aload X50.here hx rfl (hb hby od_m_5_28) rfl rfl (XS.aloadN X50.here hx rfl (hb hby od_m_5_30) rfl rfl (XS.iloadN X50.here hx rfl (hb hby od_m_5_31) rfl  k)))) ?_
  obtain ⟨v51, T51, L51, X51, hQ51, st51⟩ := own_callV X50 hx hZ (y := own_y15) (z := own_y15) (W := 1) (a := a1) hown (own_h hw 124 rfl) (own_h hw 125 rfl) (notFace_of_selects (args := #[]) (mvT hZ (own_h hw 127 rfl))) (own_h hw 127 rfl) (own_h hw 126 rfl) (own_h hw 2 rfl) (own_h hw 128 rfl) (by decide) (own_rmgv0_1 l Z a0 hw [] a1 d kd z (.ref sn) sv (.ref ss) (.ref sl) v4 v5 v6 v7 v8 v9 v10 v11 v12 T23.heap n0 Z23 f25 f26 f27 hz1) (by decide) (by decide) f24 (g := (mkF m 32 #[rv a1, iv 0, iv 1, iv p4, iv p5, iv p6, iv p7, rv za1, rv za23] [(.int 0), (.ref a1), (.ref za23)])) rfl (by rw [hml]; rfl) (argsL := [(.int 0)]) (rest := [(.ref za23)]) rfl (lenOf own_pd9 rfl) rfl (by show 2 * 0 + _ ≤ _; exact Nat.le_of_eq rfl) (hb hby od_m_5_32) e50 (by decide) (by decide)
  obtain ⟨rfl, Nq51, e51⟩ := hQ51
  have N51 := Fr.app N50 Nq51
  refine own_s T51 (mkF m 35 #[rv a1, iv 0, iv 1, iv p4, iv p5, iv p6, iv p7, rv za1, rv za23] [(.ref sv), (.ref za23)]) st51 ?_
  obtain ⟨v52, T52, L52, X52, hQ52, st52⟩ := own_callV X51 hx hZ (y := own_y6) (z := own_y6) (W := 0) (a := za23) hown (own_h hw 120 rfl) (own_h hw 108 rfl) (notFace_of_selects (args := #[]) (mvT hZ (own_h hw 110 rfl))) (own_h hw 110 rfl) (own_h hw 109 rfl) (own_h hw 9 rfl) (own_h hw 111 rfl) (by decide) (own_rmeqD l Z a0 hw [] za23 sv zb23 zk23 (own_by (own_chr p5 (0 : Int32))) bv kv gC T23.heap n0 Z23 q23_0 q23_1 q23_2 q23_3 f32 f33 f34 f35 f44 hG (Ne.symm (own_nl f10.lt sq_za23))) (by decide) (by decide) q23_0 (g := (mkF m 35 #[rv a1, iv 0, iv 1, iv p4, iv p5, iv p6, iv p7, rv za1, rv za23] [(.ref sv), (.ref za23)])) rfl (by rw [hml]; rfl) (argsL := [(.ref sv)]) (rest := []) rfl (lenOf own_pd8 rfl) rfl (by show 2 * 0 + _ ≤ _; exact Nat.le_of_eq rfl) (hb hby od_m_5_35) e51 (by decide) (by decide)
  obtain ⟨rfl, Nq52, e52⟩ := hQ52
  have N52 := Fr.app N51 Nq52
  refine own_s T52 (mkF m 38 #[rv a1, iv 0, iv 1, iv p4, iv p5, iv p6, iv p7, rv za1, rv za23] [(.int 1)]) st52 ?_
  refine own_s T52 (mkF m 50 #[rv a1, iv 0, iv 1, iv p4, iv p5, iv p6, iv p7, rv za1, rv za23] [(.int 0), (.int p7)]) (fun _ k => XS.ifYes X52.here hx rfl (pc0 := 38) (pc' := 43) rfl (hb hby od_m_5_38) rfl ((if0 _ _).trans (feq (by decide : ¬ ((1 : Int32) = (0 : Int32)))).2) (by decide) (by decide) (XS.iloadN X52.here hx rfl (hb hby od_m_5_43) rfl  (XS.ifNo X52.here hx rfl (hb hby od_m_5_44) rfl ((if0 _ _).trans (feq (by decide : ¬ ((1 : Int32) = (0 : Int32)))).1) (XS.iload X52.here hx rfl (hb hby od_m_5_47) rfl  (XS.iloadN X52.here hx rfl (hb hby od_m_5_49) rfl  k))))) ?_
  obtain ⟨v53, T53, L53, X53, hQ53, st53⟩ := own_callS X52 hx hZ (y := own_y4) (W := 0) hown (own_h hw 82 rfl) (own_h hw 83 rfl) (own_h hw 80 rfl) (own_h hw 84 rfl) (by decide) (own_rmstr l Z a0 hw [] p7 (0 : Int32) gC T23.heap n0 Z23 f44 hG) (by decide) (by decide) (g := (mkF m 50 #[rv a1, iv 0, iv 1, iv p4, iv p5, iv p6, iv p7, rv za1, rv za23] [(.int 0), (.int p7)])) rfl (by rw [hml]; rfl) (argsL := [(.int p7), (.int 0)]) (rest := []) rfl (lenOf own_pd6 rfl) rfl (by show 2 * 0 + _ ≤ _; exact Nat.le_of_eq rfl) (hb hby od_m_5_50) e52 (by decide) (by decide)
  obtain ⟨za53, zb53, zk53, rfl, Nq53, Kq53, g_za53, sq_za53, g_zb53, sq_zb53, q53_0, q53_1, q53_2, q53_3⟩ := hQ53
  have N53 := Fr.app N52 Nq53
  have sz_za53 : h0.size ≤ za53 := Nat.le_trans K23.1 sq_za53
  have sz_zb53 : h0.size ≤ zb53 := Nat.le_trans K23.1 sq_zb53
  have f54 := f24.keep Kq53
  have f55 := f25.keep Kq53 nin0
  have f56 := f26.keep Kq53 nin0
  have f57 := f27.keep Kq53 nin0
  have f58 := f28.keep Kq53
  have f59 := f29.keep Kq53 nin0
  have f60 := f30.keep Kq53 nin0
  have f61 := f31.keep Kq53 nin0
  have f62 := f32.keep Kq53
  have f63 := f33.keep Kq53 nin0
  have f64 := f34.keep Kq53 nin0
  have f65 := f35.keep Kq53 nin0
  have f66 := f36.keep Kq53
  have f67 := f37.keep Kq53 nin0
  have f68 := f38.keep Kq53 nin0
  have f69 := f39.keep Kq53 nin0
  have f70 := f40.keep Kq53
  have f71 := f41.keep Kq53 nin0
  have f72 := f42.keep Kq53 nin0
  have f73 := f43.keep Kq53 nin0
  have f74 := own_staKeep f44 Kq53
  have f75 := f45.keep Kq53
  have f76 := f46.keep Kq53 nin0
  have f77 := f47.keep Kq53 nin0
  have f78 := f48.keep Kq53 nin0
  have f79 := q23_0.keep Kq53
  have f80 := q23_1.keep Kq53 nin0
  have f81 := q23_2.keep Kq53 nin0
  have f82 := q23_3.keep Kq53 nin0
  have K53 : Keep h0 T53.heap [] := K23.trans Kq53 all0
  have Z53 := Nat.le_trans Z23 Kq53.1
  refine own_s T53 (mkF m 53 #[rv a1, iv 0, iv 1, iv p4, iv p5, iv p6, iv p7, rv za1, rv za23] [(.ref za53)]) st53 ?_
  refine own_s T53 (mkF m 55 #[rv a1, iv 0, iv 1, iv p4, iv p5, iv p6, iv p7, rv za1, rv za23] [(.int 0), (.ref a1), (.ref za53)]) (fun _ k => XS.aloadN X53.here hx rfl (hb hby od_m_5_53) rfl rfl (XS.iloadN X53.here hx rfl (hb hby od_m_5_54) rfl  k)) ?_
  obtain ⟨v83, T83, L83, X83, hQ83, st83⟩ := own_callV X53 hx hZ (y := own_y13) (z := own_y13) (W := 1) (a := a1) hown (own_h hw 129 rfl) (own_h hw 130 rfl) (notFace_of_selects (args := #[]) (mvT hZ (own_h hw 132 rfl))) (own_h hw 132 rfl) (own_h hw 131 rfl) (own_h hw 2 rfl) (own_h hw 133 rfl) (by decide) (own_rmgs0_1 l Z a0 hw [] a1 d kd z (.ref sn) (.ref sv) ss (.ref sl) v4 v5 v6 v7 v8 v9 v10 v11 v12 T53.heap n0 Z53 f55 f56 f57 hz2) (by decide) (by decide) f54 (g := (mkF m 55 #[rv a1, iv 0, iv 1, iv p4, iv p5, iv p6, iv p7, rv za1, rv za23] [(.int 0), (.ref a1), (.ref za53)])) rfl (by rw [hml]; rfl) (argsL := [(.int 0)]) (rest := [(.ref za53)]) rfl (lenOf own_pd9 rfl) rfl (by show 2 * 0 + _ ≤ _; exact Nat.le_of_eq rfl) (hb hby od_m_5_55) rfl (by decide) (by decide)
  obtain ⟨rfl, Nq83, e83⟩ := hQ83
  have N83 := Fr.app N53 Nq83
  refine own_s T83 (mkF m 58 #[rv a1, iv 0, iv 1, iv p4, iv p5, iv p6, iv p7, rv za1, rv za23] [(.ref ss), (.ref za53)]) st83 ?_
  obtain ⟨v84, T84, L84, X84, hQ84, st84⟩ := own_callV X83 hx hZ (y := own_y6) (z := own_y6) (W := 0) (a := za53) hown (own_h hw 120 rfl) (own_h hw 108 rfl) (notFace_of_selects (args := #[]) (mvT hZ (own_h hw 110 rfl))) (own_h hw 110 rfl) (own_h hw 109 rfl) (own_h hw 9 rfl) (own_h hw 111 rfl) (by decide) (own_rmeqD l Z a0 hw [] za53 ss zb53 zk53 (own_by (own_chr p7 (0 : Int32))) bs ks gC T53.heap n0 Z53 q53_0 q53_1 q53_2 q53_3 f66 f67 f68 f69 f74 hG (Ne.symm (own_nl f36.lt sq_za53))) (by decide) (by decide) q53_0 (g := (mkF m 58 #[rv a1, iv 0, iv 1, iv p4, iv p5, iv p6, iv p7, rv za1, rv za23] [(.ref ss), (.ref za53)])) rfl (by rw [hml]; rfl) (argsL := [(.ref ss)]) (rest := []) rfl (lenOf own_pd8 rfl) rfl (by show 2 * 0 + _ ≤ _; exact Nat.le_of_eq rfl) (hb hby od_m_5_58) e83 (by decide) (by decide)
  obtain ⟨rfl, Nq84, e84⟩ := hQ84
  have N84 := Fr.app N83 Nq84
  refine own_s T84 (mkF m 61 #[rv a1, iv 0, iv 1, iv p4, iv p5, iv p6, iv p7, rv za1, rv za23] [(.int 1)]) st84 ?_
  refine own_s T84 (mkF m 67 #[rv a1, iv 0, iv 1, iv p4, iv p5, iv p6, iv p7, rv za1, rv za23] [(.int 0), (.int p6)]) (fun _ k => XS.ifNo X84.here hx rfl (hb hby od_m_5_61) rfl ((if0 _ _).trans (feq (by decide : ¬ ((1 : Int32) = (0 : Int32)))).1) (XS.iload X84.here hx rfl (hb hby od_m_5_64) rfl  (XS.iloadN X84.here hx rfl (hb hby od_m_5_66) rfl  k))) ?_
  obtain ⟨v85, T85, L85, X85, hQ85, st85⟩ := own_callS X84 hx hZ (y := own_y4) (W := 0) hown (own_h hw 82 rfl) (own_h hw 83 rfl) (own_h hw 80 rfl) (own_h hw 84 rfl) (by decide) (own_rmstr l Z a0 hw [] p6 (0 : Int32) gC T53.heap n0 Z53 f74 hG) (by decide) (by decide) (g := (mkF m 67 #[rv a1, iv 0, iv 1, iv p4, iv p5, iv p6, iv p7, rv za1, rv za23] [(.int 0), (.int p6)])) rfl (by rw [hml]; rfl) (argsL := [(.int p6), (.int 0)]) (rest := []) rfl (lenOf own_pd6 rfl) rfl (by show 2 * 0 + _ ≤ _; exact Nat.le_of_eq rfl) (hb hby od_m_5_67) e84 (by decide) (by decide)
  obtain ⟨za85, zb85, zk85, rfl, Nq85, Kq85, g_za85, sq_za85, g_zb85, sq_zb85, q85_0, q85_1, q85_2, q85_3⟩ := hQ85
  have N85 := Fr.app N84 Nq85
  have sz_za85 : h0.size ≤ za85 := Nat.le_trans K53.1 sq_za85
  have sz_zb85 : h0.size ≤ zb85 := Nat.le_trans K53.1 sq_zb85
  have f86 := f54.keep Kq85
  have f87 := f55.keep Kq85 nin0
  have f88 := f56.keep Kq85 nin0
  have f89 := f57.keep Kq85 nin0
  have f90 := f58.keep Kq85
  have f91 := f59.keep Kq85 nin0
  have f92 := f60.keep Kq85 nin0
  have f93 := f61.keep Kq85 nin0
  have f94 := f62.keep Kq85
  have f95 := f63.keep Kq85 nin0
  have f96 := f64.keep Kq85 nin0
  have f97 := f65.keep Kq85 nin0
  have f98 := f66.keep Kq85
  have f99 := f67.keep Kq85 nin0
  have f100 := f68.keep Kq85 nin0
  have f101 := f69.keep Kq85 nin0
  have f102 := f70.keep Kq85
  have f103 := f71.keep Kq85 nin0
  have f104 := f72.keep Kq85 nin0
  have f105 := f73.keep Kq85 nin0
  have f106 := own_staKeep f74 Kq85
  have f107 := f75.keep Kq85
  have f108 := f76.keep Kq85 nin0
  have f109 := f77.keep Kq85 nin0
  have f110 := f78.keep Kq85 nin0
  have f111 := f79.keep Kq85
  have f112 := f80.keep Kq85 nin0
  have f113 := f81.keep Kq85 nin0
  have f114 := f82.keep Kq85 nin0
  have f115 := q53_0.keep Kq85
  have f116 := q53_1.keep Kq85 nin0
  have f117 := q53_2.keep Kq85 nin0
  have f118 := q53_3.keep Kq85 nin0
  have K85 : Keep h0 T85.heap [] := K53.trans Kq85 all0
  have Z85 := Nat.le_trans Z53 Kq85.1
  refine own_s T85 (mkF m 70 #[rv a1, iv 0, iv 1, iv p4, iv p5, iv p6, iv p7, rv za1, rv za23] [(.ref za85)]) st85 ?_
  refine own_s T85 (mkF m 72 #[rv a1, iv 0, iv 1, iv p4, iv p5, iv p6, iv p7, rv za1, rv za23] [(.int 0), (.ref a1), (.ref za85)]) (fun _ k => XS.aloadN X85.here hx rfl (hb hby od_m_5_70) rfl rfl (XS.iloadN X85.here hx rfl (hb hby od_m_5_71) rfl  k)) ?_
  obtain ⟨v119, T119, L119, X119, hQ119, st119⟩ := own_callV X85 hx hZ (y := own_y16) (z := own_y16) (W := 1) (a := a1) hown (own_h hw 134 rfl) (own_h hw 135 rfl) (notFace_of_selects (args := #[]) (mvT hZ (own_h hw 137 rfl))) (own_h hw 137 rfl) (own_h hw 136 rfl) (own_h hw 2 rfl) (own_h hw 138 rfl) (by decide) (own_rmgl0_1 l Z a0 hw [] a1 d kd z (.ref sn) (.ref sv) (.ref ss) sl v4 v5 v6 v7 v8 v9 v10 v11 v12 T85.heap n0 Z85 f87 f88 f89 hz3) (by decide) (by decide) f86 (g := (mkF m 72 #[rv a1, iv 0, iv 1, iv p4, iv p5, iv p6, iv p7, rv za1, rv za23] [(.int 0), (.ref a1), (.ref za85)])) rfl (by rw [hml]; rfl) (argsL := [(.int 0)]) (rest := [(.ref za85)]) rfl (lenOf own_pd9 rfl) rfl (by show 2 * 0 + _ ≤ _; exact Nat.le_of_eq rfl) (hb hby od_m_5_72) rfl (by decide) (by decide)
  obtain ⟨rfl, Nq119, e119⟩ := hQ119
  have N119 := Fr.app N85 Nq119
  refine own_s T119 (mkF m 75 #[rv a1, iv 0, iv 1, iv p4, iv p5, iv p6, iv p7, rv za1, rv za23] [(.ref sl), (.ref za85)]) st119 ?_
  obtain ⟨v120, T120, L120, X120, hQ120, st120⟩ := own_callV X119 hx hZ (y := own_y6) (z := own_y6) (W := 0) (a := za85) hown (own_h hw 120 rfl) (own_h hw 108 rfl) (notFace_of_selects (args := #[]) (mvT hZ (own_h hw 110 rfl))) (own_h hw 110 rfl) (own_h hw 109 rfl) (own_h hw 9 rfl) (own_h hw 111 rfl) (by decide) (own_rmeqD l Z a0 hw [] za85 sl zb85 zk85 (own_by (own_chr p6 (0 : Int32))) bl kl gC T85.heap n0 Z85 q85_0 q85_1 q85_2 q85_3 f102 f103 f104 f105 f106 hG (Ne.symm (own_nl f70.lt sq_za85))) (by decide) (by decide) q85_0 (g := (mkF m 75 #[rv a1, iv 0, iv 1, iv p4, iv p5, iv p6, iv p7, rv za1, rv za23] [(.ref sl), (.ref za85)])) rfl (by rw [hml]; rfl) (argsL := [(.ref sl)]) (rest := []) rfl (lenOf own_pd8 rfl) rfl (by show 2 * 0 + _ ≤ _; exact Nat.le_of_eq rfl) (hb hby od_m_5_75) e119 (by decide) (by decide)
  obtain ⟨rfl, Nq120, e120⟩ := hQ120
  have N120 := Fr.app N119 Nq120
  refine own_s T120 (mkF m 78 #[rv a1, iv 0, iv 1, iv p4, iv p5, iv p6, iv p7, rv za1, rv za23] [(.int 1)]) st120 ?_
  refine own_s T120 (mkF m 86 #[rv a1, iv 0, iv 1, iv p4, iv p5, iv p6, iv p7, rv za1, rv za23] [(.int 1)]) (fun _ k => XS.ifNo X120.here hx rfl (hb hby od_m_5_78) rfl ((if0 _ _).trans (feq (by decide : ¬ ((1 : Int32) = (0 : Int32)))).1) (XS.iconst X120.here hx rfl (hb hby od_m_5_81) (XS.goto X120.here hx rfl (pc0 := 82) (pc' := 86) rfl (hb hby od_m_5_82) (by decide) (by decide) k))) ?_
  exact own_finZ X120 hx (t := .boolean) hret (by simp) (z' := (1 : Int32)) rfl (hb hby od_m_5_86) (own_end (Qv := (own_Qchk0_1 Z a1 p4 p5 p6 p7 d kd z sn sv ss sl v4 v5 v6 v7 v8 v9 v10 v11 v12 bn kn bv kv bs ks bl kl gC h0 n0)) X120 (own_some hret) hlk (by decide) (by decide) e120 ⟨rfl, N120, K85⟩)
theorem own_efgn1_1 (m : MethodId) (x0 : Addr) (x1 : Int32) : entryFrame m #[(.ref x0), (.int x1)] 2 = mkF m 0 #[rv x0, iv x1] [] := by first | (simp [entryFrame, mkF, argsToLocals, Value.category]; done) | rfl
def own_Qgn1_1 (Z : State) (a1 : Addr) (d : Addr) (kd : ClassId) (z : Int32) (v0 : Value) (v1 : Value) (v2 : Value) (v3 : Value) (x : Addr) (v5 : Value) (v6 : Value) (v7 : Value) (v8 : Value) (v9 : Value) (v10 : Value) (v11 : Value) (v12 : Value) (h0 : Heap) (n0 : Nat) : Option Value → Heap → List Loc → Prop := fun v h L => v = some (.ref x) ∧ Fr n0 L ∧ h = h0
def own_Rgn1_1 : Room := { frames := 0, cells := 0, slots := 0, locals := 0 }
set_option maxRecDepth 65536 in
set_option maxHeartbeats 40000000 in
theorem own_rmgn1_1 (l : Launch) (Z : State) (a0 : Array Value) (hw : ∀ d ∈ tables_1, d.before a0 Z = true) (ws : List Jvm.Cond) (a1 : Addr) (d : Addr) (kd : ClassId) (z : Int32) (v0 : Value) (v1 : Value) (v2 : Value) (v3 : Value) (x : Addr) (v5 : Value) (v6 : Value) (v7 : Value) (v8 : Value) (v9 : Value) (v10 : Value) (v11 : Value) (v12 : Value) (h0 : Heap) (n0 : Nat) (Z0 : n0 ≤ h0.size) (pr0 : Fld Z h0 a1 "com/example/tagwright/tagwright/XmlElement" "attributes" "[Ljava/lang/String;" (.ref d)) (pr1 : Fld Z h0 a1 "com/example/tagwright/tagwright/XmlElement" "stride" "B" (.int 4)) (pr2 : Arv Z h0 d kd (.object "java/lang/String") z [v0, v1, v2, v3, (.ref x), v5, v6, v7, v8, v9, v10, v11, v12] .null) (hz4 : (4 : Int32) < z) :
    own_Met l Z own_y14 prog_100_method_18_code 2 (some (.object "java/lang/String")) ws own_Rgn1_1 h0 #[(.ref a1), (.int 1)] (own_Qgn1_1 Z a1 d kd z v0 v1 v2 v3 x v5 v6 v7 v8 v9 v10 v11 v12 h0 n0) own_Rgn1_1.cells own_Rgn1_1.slots := by
  refine own_start (plainFor_of_name own_pn3) ?_
  intro p e s m below meth c s₁ X0 hx hZ hby hml hret hlk hown hnm e0
  have hown : s.vm.findClass "com/example/tagwright/tagwright/XmlElement" = some m.cls := hown
  have hml : c.maxLocals = 2 := hml
  have N0 := Fr.nil n0
  refine own_cast (own_efgn1_1 m a1 (1 : Int32)) ?_
  refine own_s s₁ (mkF m 1 #[rv a1, iv 1] [(.ref a1)]) (fun _ k => XS.aloadN X0.here hx rfl (hb hby od_prog_100_m_18_0) rfl rfl k) ?_
  obtain ⟨T1, X1, e1, st1⟩ := getF X0 hx hZ hown (host := "") (Or.inl (own_h hw 60 rfl)) Via.refl e0 pr0 (g := (mkF m 1 #[rv a1, iv 1] [(.ref a1)])) rfl rfl (hb hby od_prog_100_m_18_1)
  refine own_s T1 (mkF m 4 #[rv a1, iv 1] [(.ref d)]) st1 ?_
  refine own_s T1 (mkF m 6 #[rv a1, iv 1] [(.ref a1), (.int 1), (.ref d)]) (fun _ k => XS.iloadN X1.here hx rfl (hb hby od_prog_100_m_18_4) rfl  (XS.aloadN X1.here hx rfl (hb hby od_prog_100_m_18_5) rfl rfl k)) ?_
  obtain ⟨T2, X2, e2, st2⟩ := getF X1 hx hZ hown (host := "") (Or.inl (own_h hw 65 rfl)) Via.refl e1 pr1 (g := (mkF m 6 #[rv a1, iv 1] [(.ref a1), (.int 1), (.ref d)])) rfl rfl (hb hby od_prog_100_m_18_6)
  refine own_s T2 (mkF m 9 #[rv a1, iv 1] [(.int 4), (.int 1), (.ref d)]) st2 ?_
  refine own_s T2 (mkF m 12 #[rv a1, iv 1] [(.int 4), (.ref d)]) (fun _ k => XS.imul X2.here hx rfl (hb hby od_prog_100_m_18_9) rfl (XS.iconst X2.here hx rfl (hb hby od_prog_100_m_18_10) (XS.iadd X2.here hx rfl (hb hby od_prog_100_m_18_11) rfl k))) ?_
  obtain ⟨cl3, Ar3, q3, S3, Nn3, H3, G3⟩ := id pr2
  have hin3 : ¬ ((4 : Int32) < 0 ∨ cl3.slots.size ≤ ((4 : Int32)).toNatClampNeg) := (inb_of S3 ⟨by decide, hz4⟩)
  refine own_s T2 (mkF m 13 #[rv a1, iv 1] [(.ref x)]) (fun _ k => X2.aaload hx (j := (4 : Int32)) (v := (.ref x)) (own_at e2 Ar3.1) (State.isArrayOf_alike hZ.alike Ar3.2.1) rfl Ar3.2.2 hin3 (Has.at H3 hin3 rfl) (g := (mkF m 12 #[rv a1, iv 1] [(.int 4), (.ref d)])) rfl rfl (hb hby od_prog_100_m_18_12) _ k) ?_
  exact own_finA X2 hx hret rfl rfl (hb hby od_prog_100_m_18_13) (own_end (Qv := (own_Qgn1_1 Z a1 d kd z v0 v1 v2 v3 x v5 v6 v7 v8 v9 v10 v11 v12 h0 n0)) X2 (own_some hret) hlk (by decide) (by decide) e2 ⟨rfl, N0, rfl⟩)
theorem own_efgv1_1 (m : MethodId) (x0 : Addr) (x1 : Int32) : entryFrame m #[(.ref x0), (.int x1)] 2 = mkF m 0 #[rv x0, iv x1] [] := by first | (simp [entryFrame, mkF, argsToLocals, Value.category]; done) | rfl
def own_Qgv1_1 (Z : State) (a1 : Addr) (d : Addr) (kd : ClassId) (z : Int32) (v0 : Value) (v1 : Value) (v2 : Value) (v3 : Value) (v4 : Value) (x : Addr) (v6 : Value) (v7 : Value) (v8 : Value) (v9 : Value) (v10 : Value) (v11 : Value) (v12 : Value) (h0 : Heap) (n0 : Nat) : Option Value → Heap → List Loc → Prop := fun v h L => v = some (.ref x) ∧ Fr n0 L ∧ h = h0
def own_Rgv1_1 : Room := { frames := 0, cells := 0, slots := 0, locals := 0 }
set_option maxRecDepth 65536 in
set_option maxHeartbeats 40000000 in
theorem own_rmgv1_1 (l : Launch) (Z : State) (a0 : Array Value) (hw : ∀ d ∈ tables_1, d.before a0 Z = true) (ws : List Jvm.Cond) (a1 : Addr) (d : Addr) (kd : ClassId) (z : Int32) (v0 : Value) (v1 : Value) (v2 : Value) (v3 : Value) (v4 : Value) (x : Addr) (v6 : Value) (v7 : Value) (v8 : Value) (v9 : Value) (v10 : Value) (v11 : Value) (v12 : Value) (h0 : Heap) (n0 : Nat) (Z0 : n0 ≤ h0.size) (pr0 : Fld Z h0 a1 "com/example/tagwright/tagwright/XmlElement" "attributes" "[Ljava/lang/String;" (.ref d)) (pr1 : Fld Z h0 a1 "com/example/tagwright/tagwright/XmlElement" "stride" "B" (.int 4)) (pr2 : Arv Z h0 d kd (.object "java/lang/String") z [v0, v1, v2, v3, v4, (.ref x), v6, v7, v8, v9, v10, v11, v12] .null) (hz5 : (5 : Int32) < z) :
    own_Met l Z own_y15 prog_100_method_19_code 2 (some (.object "java/lang/String")) ws own_Rgv1_1 h0 #[(.ref a1), (.int 1)] (own_Qgv1_1 Z a1 d kd z v0 v1 v2 v3 v4 x v6 v7 v8 v9 v10 v11 v12 h0 n0) own_Rgv1_1.cells own_Rgv1_1.slots := by
  refine own_start (plainFor_of_name own_pn3) ?_
  intro p e s m below meth c s₁ X0 hx hZ hby hml hret hlk hown hnm e0
  have hown : s.vm.findClass "com/example/tagwright/tagwright/XmlElement" = some m.cls := hown
  have hml : c.maxLocals = 2 := hml
  have N0 := Fr.nil n0
  refine own_cast (own_efgv1_1 m a1 (1 : Int32)) ?_
  refine own_s s₁ (mkF m 1 #[rv a1, iv 1] [(.ref a1)]) (fun _ k => XS.aloadN X0.here hx rfl (hb hby od_prog_100_m_19_0) rfl rfl k) ?_
  obtain ⟨T1, X1, e1, st1⟩ := getF X0 hx hZ hown (host := "") (Or.inl (own_h hw 60 rfl)) Via.refl e0 pr0 (g := (mkF m 1 #[rv a1, iv 1] [(.ref a1)])) rfl rfl (hb hby od_prog_100_m_19_1)
  refine own_s T1 (mkF m 4 #[rv a1, iv 1] [(.ref d)]) st1 ?_
  refine own_s T1 (mkF m 6 #[rv a1, iv 1] [(.ref a1), (.int 1), (.ref d)]) (fun _ k => XS.iloadN X1.here hx rfl (hb hby od_prog_100_m_19_4) rfl  (XS.aloadN X1.here hx rfl (hb hby od_prog_100_m_19_5) rfl rfl k)) ?_
  obtain ⟨T2, X2, e2, st2⟩ := getF X1 hx hZ hown (host := "") (Or.inl (own_h hw 65 rfl)) Via.refl e1 pr1 (g := (mkF m 6 #[rv a1, iv 1] [(.ref a1), (.int 1), (.ref d)])) rfl rfl (hb hby od_prog_100_m_19_6)
  refine own_s T2 (mkF m 9 #[rv a1, iv 1] [(.int 4), (.int 1), (.ref d)]) st2 ?_
  refine own_s T2 (mkF m 12 #[rv a1, iv 1] [(.int 5), (.ref d)]) (fun _ k => XS.imul X2.here hx rfl (hb hby od_prog_100_m_19_9) rfl (XS.iconst X2.here hx rfl (hb hby od_prog_100_m_19_10) (XS.iadd X2.here hx rfl (hb hby od_prog_100_m_19_11) rfl k))) ?_
  obtain ⟨cl3, Ar3, q3, S3, Nn3, H3, G3⟩ := id pr2
  have hin3 : ¬ ((5 : Int32) < 0 ∨ cl3.slots.size ≤ ((5 : Int32)).toNatClampNeg) := (inb_of S3 ⟨by decide, hz5⟩)
  refine own_s T2 (mkF m 13 #[rv a1, iv 1] [(.ref x)]) (fun _ k => X2.aaload hx (j := (5 : Int32)) (v := (.ref x)) (own_at e2 Ar3.1) (State.isArrayOf_alike hZ.alike Ar3.2.1) rfl Ar3.2.2 hin3 (Has.at H3 hin3 rfl) (g := (mkF m 12 #[rv a1, iv 1] [(.int 5), (.ref d)])) rfl rfl (hb hby od_prog_100_m_19_12) _ k) ?_
  exact own_finA X2 hx hret rfl rfl (hb hby od_prog_100_m_19_13) (own_end (Qv := (own_Qgv1_1 Z a1 d kd z v0 v1 v2 v3 v4 x v6 v7 v8 v9 v10 v11 v12 h0 n0)) X2 (own_some hret) hlk (by decide) (by decide) e2 ⟨rfl, N0, rfl⟩)
theorem own_efgs1_1 (m : MethodId) (x0 : Addr) (x1 : Int32) : entryFrame m #[(.ref x0), (.int x1)] 2 = mkF m 0 #[rv x0, iv x1] [] := by first | (simp [entryFrame, mkF, argsToLocals, Value.category]; done) | rfl
def own_Qgs1_1 (Z : State) (a1 : Addr) (d : Addr) (kd : ClassId) (z : Int32) (v0 : Value) (v1 : Value) (v2 : Value) (v3 : Value) (v4 : Value) (v5 : Value) (x : Addr) (v7 : Value) (v8 : Value) (v9 : Value) (v10 : Value) (v11 : Value) (v12 : Value) (h0 : Heap) (n0 : Nat) : Option Value → Heap → List Loc → Prop := fun v h L => v = some (.ref x) ∧ Fr n0 L ∧ h = h0
def own_Rgs1_1 : Room := { frames := 0, cells := 0, slots := 0, locals := 0 }
set_option maxRecDepth 65536 in
set_option maxHeartbeats 40000000 in
theorem own_rmgs1_1 (l : Launch) (Z : State) (a0 : Array Value) (hw : ∀ d ∈ tables_1, d.before a0 Z = true) (ws : List Jvm.Cond) (a1 : Addr) (d : Addr) (kd : ClassId) (z : Int32) (v0 : Value) (v1 : Value) (v2 : Value) (v3 : Value) (v4 : Value) (v5 : Value) (x : Addr) (v7 : Value) (v8 : Value) (v9 : Value) (v10 : Value) (v11 : Value) (v12 : Value) (h0 : Heap) (n0 : Nat) (Z0 : n0 ≤ h0.size) (pr0 : Fld Z h0 a1 "com/example/tagwright/tagwright/XmlElement" "attributes" "[Ljava/lang/String;" (.ref d)) (pr1 : Fld Z h0 a1 "com/example/tagwright/tagwright/XmlElement" "stride" "B" (.int 4)) (pr2 : Arv Z h0 d kd (.object "java/lang/String") z [v0, v1, v2, v3, v4, v5, (.ref x), v7, v8, v9, v10, v11, v12] .null) (hz6 : (6 : Int32) < z) :
    own_Met l Z own_y13 prog_100_method_16_code 2 (some (.object "java/lang/String")) ws own_Rgs1_1 h0 #[(.ref a1), (.int 1)] (own_Qgs1_1 Z a1 d kd z v0 v1 v2 v3 v4 v5 x v7 v8 v9 v10 v11 v12 h0 n0) own_Rgs1_1.cells own_Rgs1_1.slots := by
  refine own_start (plainFor_of_name own_pn3) ?_
  intro p e s m below meth c s₁ X0 hx hZ hby hml hret hlk hown hnm e0
  have hown : s.vm.findClass "com/example/tagwright/tagwright/XmlElement" = some m.cls := hown
  have hml : c.maxLocals = 2 := hml
  have N0 := Fr.nil n0
  refine own_cast (own_efgs1_1 m a1 (1 : Int32)) ?_
  refine own_s s₁ (mkF m 1 #[rv a1, iv 1] [(.ref a1)]) (fun _ k => XS.aloadN X0.here hx rfl (hb hby od_prog_100_m_16_0) rfl rfl k) ?_
  obtain ⟨T1, X1, e1, st1⟩ := getF X0 hx hZ hown (host := "") (Or.inl (own_h hw 65 rfl)) Via.refl e0 pr1 (g := (mkF m 1 #[rv a1, iv 1] [(.ref a1)])) rfl rfl (hb hby od_prog_100_m_16_1)
  refine own_s T1 (mkF m 4 #[rv a1, iv 1] [(.int 4)]) st1 ?_
  refine own_s T1 (mkF m 9 #[rv a1, iv 1] [(.ref a1)]) (fun _ k => XS.iconst X1.here hx rfl (hb hby od_prog_100_m_16_4) (XS.icmpNo X1.here hx rfl (hb hby od_prog_100_m_16_5) rfl (teq (by decide : ((4 : Int32) = (4 : Int32)))).2 (XS.aloadN X1.here hx rfl (hb hby od_prog_100_m_16_8) rfl rfl k))) ?_
  obtain ⟨T2, X2, e2, st2⟩ := getF X1 hx hZ hown (host := "") (Or.inl (own_h hw 60 rfl)) Via.refl e1 pr0 (g := (mkF m 9 #[rv a1, iv 1] [(.ref a1)])) rfl rfl (hb hby od_prog_100_m_16_9)
  refine own_s T2 (mkF m 12 #[rv a1, iv 1] [(.ref d)]) st2 ?_
  refine own_s T2 (mkF m 14 #[rv a1, iv 1] [(.ref a1), (.int 1), (.ref d)]) (fun _ k => XS.iloadN X2.here hx rfl (hb hby od_prog_100_m_16_12) rfl  (XS.aloadN X2.here hx rfl (hb hby od_prog_100_m_16_13) rfl rfl k)) ?_
  obtain ⟨T3, X3, e3, st3⟩ := getF X2 hx hZ hown (host := "") (Or.inl (own_h hw 65 rfl)) Via.refl e2 pr1 (g := (mkF m 14 #[rv a1, iv 1] [(.ref a1), (.int 1), (.ref d)])) rfl rfl (hb hby od_prog_100_m_16_14)
  refine own_s T3 (mkF m 17 #[rv a1, iv 1] [(.int 4), (.int 1), (.ref d)]) st3 ?_
  refine own_s T3 (mkF m 20 #[rv a1, iv 1] [(.int 6), (.ref d)]) (fun _ k => XS.imul X3.here hx rfl (hb hby od_prog_100_m_16_17) rfl (XS.iconst X3.here hx rfl (hb hby od_prog_100_m_16_18) (XS.iadd X3.here hx rfl (hb hby od_prog_100_m_16_19) rfl k))) ?_
  obtain ⟨cl4, Ar4, q4, S4, Nn4, H4, G4⟩ := id pr2
  have hin4 : ¬ ((6 : Int32) < 0 ∨ cl4.slots.size ≤ ((6 : Int32)).toNatClampNeg) := (inb_of S4 ⟨by decide, hz6⟩)
  refine own_s T3 (mkF m 25 #[rv a1, iv 1] [(.ref x)]) (fun _ k => X3.aaload hx (j := (6 : Int32)) (v := (.ref x)) (own_at e3 Ar4.1) (State.isArrayOf_alike hZ.alike Ar4.2.1) rfl Ar4.2.2 hin4 (Has.at H4 hin4 rfl) (g := (mkF m 20 #[rv a1, iv 1] [(.int 6), (.ref d)])) rfl rfl (hb hby od_prog_100_m_16_20) _ (XS.goto X3.here hx rfl (pc0 := 21) (pc' := 25) rfl (hb hby od_prog_100_m_16_21) (by decide) (by decide) k)) ?_
  exact own_finA X3 hx hret rfl rfl (hb hby od_prog_100_m_16_25) (own_end (Qv := (own_Qgs1_1 Z a1 d kd z v0 v1 v2 v3 v4 v5 x v7 v8 v9 v10 v11 v12 h0 n0)) X3 (own_some hret) hlk (by decide) (by decide) e3 ⟨rfl, N0, rfl⟩)
theorem own_efgl1_1 (m : MethodId) (x0 : Addr) (x1 : Int32) : entryFrame m #[(.ref x0), (.int x1)] 2 = mkF m 0 #[rv x0, iv x1] [] := by first | (simp [entryFrame, mkF, argsToLocals, Value.category]; done) | rfl
def own_Qgl1_1 (Z : State) (a1 : Addr) (d : Addr) (kd : ClassId) (z : Int32) (v0 : Value) (v1 : Value) (v2 : Value) (v3 : Value) (v4 : Value) (v5 : Value) (v6 : Value) (x : Addr) (v8 : Value) (v9 : Value) (v10 : Value) (v11 : Value) (v12 : Value) (h0 : Heap) (n0 : Nat) : Option Value → Heap → List Loc → Prop := fun v h L => v = some (.ref x) ∧ Fr n0 L ∧ h = h0
def own_Rgl1_1 : Room := { frames := 0, cells := 0, slots := 0, locals := 0 }
set_option maxRecDepth 65536 in
set_option maxHeartbeats 40000000 in
theorem own_rmgl1_1 (l : Launch) (Z : State) (a0 : Array Value) (hw : ∀ d ∈ tables_1, d.before a0 Z = true) (ws : List Jvm.Cond) (a1 : Addr) (d : Addr) (kd : ClassId) (z : Int32) (v0 : Value) (v1 : Value) (v2 : Value) (v3 : Value) (v4 : Value) (v5 : Value) (v6 : Value) (x : Addr) (v8 : Value) (v9 : Value) (v10 : Value) (v11 : Value) (v12 : Value) (h0 : Heap) (n0 : Nat) (Z0 : n0 ≤ h0.size) (pr0 : Fld Z h0 a1 "com/example/tagwright/tagwright/XmlElement" "attributes" "[Ljava/lang/String;" (.ref d)) (pr1 : Fld Z h0 a1 "com/example/tagwright/tagwright/XmlElement" "stride" "B" (.int 4)) (pr2 : Arv Z h0 d kd (.object "java/lang/String") z [v0, v1, v2, v3, v4, v5, v6, (.ref x), v8, v9, v10, v11, v12] .null) (hz7 : (7 : Int32) < z) :
    own_Met l Z own_y16 prog_100_method_17_code 2 (some (.object "java/lang/String")) ws own_Rgl1_1 h0 #[(.ref a1), (.int 1)] (own_Qgl1_1 Z a1 d kd z v0 v1 v2 v3 v4 v5 v6 x v8 v9 v10 v11 v12 h0 n0) own_Rgl1_1.cells own_Rgl1_1.slots := by
  refine own_start (plainFor_of_name own_pn3) ?_
  intro p e s m below meth c s₁ X0 hx hZ hby hml hret hlk hown hnm e0
  have hown : s.vm.findClass "com/example/tagwright/tagwright/XmlElement" = some m.cls := hown
  have hml : c.maxLocals = 2 := hml
  have N0 := Fr.nil n0
  refine own_cast (own_efgl1_1 m a1 (1 : Int32)) ?_
  refine own_s s₁ (mkF m 1 #[rv a1, iv 1] [(.ref a1)]) (fun _ k => XS.aloadN X0.here hx rfl (hb hby od_prog_100_m_17_0) rfl rfl k) ?_
  obtain ⟨T1, X1, e1, st1⟩ := getF X0 hx hZ hown (host := "") (Or.inl (own_h hw 60 rfl)) Via.refl e0 pr0 (g := (mkF m 1 #[rv a1, iv 1] [(.ref a1)])) rfl rfl (hb hby od_prog_100_m_17_1)
  refine own_s T1 (mkF m 4 #[rv a1, iv 1] [(.ref d)]) st1 ?_
  refine own_s T1 (mkF m 6 #[rv a1, iv 1] [(.ref a1), (.int 1), (.ref d)]) (fun _ k => XS.iloadN X1.here hx rfl (hb hby od_prog_100_m_17_4) rfl  (XS.aloadN X1.here hx rfl (hb hby od_prog_100_m_17_5) rfl rfl k)) ?_
  obtain ⟨T2, X2, e2, st2⟩ := getF X1 hx hZ hown (host := "") (Or.inl (own_h hw 65 rfl)) Via.refl e1 pr1 (g := (mkF m 6 #[rv a1, iv 1] [(.ref a1), (.int 1), (.ref d)])) rfl rfl (hb hby od_prog_100_m_17_6)
  refine own_s T2 (mkF m 9 #[rv a1, iv 1] [(.int 4), (.int 1), (.ref d)]) st2 ?_
  refine own_s T2 (mkF m 11 #[rv a1, iv 1] [(.ref a1), (.int 4), (.ref d)]) (fun _ k => XS.imul X2.here hx rfl (hb hby od_prog_100_m_17_9) rfl (XS.aloadN X2.here hx rfl (hb hby od_prog_100_m_17_10) rfl rfl k)) ?_
  obtain ⟨T3, X3, e3, st3⟩ := getF X2 hx hZ hown (host := "") (Or.inl (own_h hw 65 rfl)) Via.refl e2 pr1 (g := (mkF m 11 #[rv a1, iv 1] [(.ref a1), (.int 4), (.ref d)])) rfl rfl (hb hby od_prog_100_m_17_11)
  refine own_s T3 (mkF m 14 #[rv a1, iv 1] [(.int 4), (.int 4), (.ref d)]) st3 ?_
  refine own_s T3 (mkF m 24 #[rv a1, iv 1] [(.int 7), (.ref d)]) (fun _ k => XS.iconst X3.here hx rfl (hb hby od_prog_100_m_17_14) (XS.icmpNo X3.here hx rfl (hb hby od_prog_100_m_17_15) rfl (teq (by decide : ((4 : Int32) = (4 : Int32)))).2 (XS.iconst X3.here hx rfl (hb hby od_prog_100_m_17_18) (XS.goto X3.here hx rfl (pc0 := 19) (pc' := 23) rfl (hb hby od_prog_100_m_17_19) (by decide) (by decide) (XS.iadd X3.here hx rfl (hb hby od_prog_100_m_17_23) rfl k))))) ?_
  obtain ⟨cl4, Ar4, q4, S4, Nn4, H4, G4⟩ := id pr2
  have hin4 : ¬ ((7 : Int32) < 0 ∨ cl4.slots.size ≤ ((7 : Int32)).toNatClampNeg) := (inb_of S4 ⟨by decide, hz7⟩)
  refine own_s T3 (mkF m 25 #[rv a1, iv 1] [(.ref x)]) (fun _ k => X3.aaload hx (j := (7 : Int32)) (v := (.ref x)) (own_at e3 Ar4.1) (State.isArrayOf_alike hZ.alike Ar4.2.1) rfl Ar4.2.2 hin4 (Has.at H4 hin4 rfl) (g := (mkF m 24 #[rv a1, iv 1] [(.int 7), (.ref d)])) rfl rfl (hb hby od_prog_100_m_17_24) _ k) ?_
  exact own_finA X3 hx hret rfl rfl (hb hby od_prog_100_m_17_25) (own_end (Qv := (own_Qgl1_1 Z a1 d kd z v0 v1 v2 v3 v4 v5 v6 x v8 v9 v10 v11 v12 h0 n0)) X3 (own_some hret) hlk (by decide) (by decide) e3 ⟨rfl, N0, rfl⟩)
theorem own_efchk1_1 (m : MethodId) (x0 : Addr) (x1 : Int32) (x2 : Int32) (x3 : Int32) (x4 : Int32) (x5 : Int32) (x6 : Int32) : entryFrame m #[(.ref x0), (.int x1), (.int x2), (.int x3), (.int x4), (.int x5), (.int x6)] 9 = mkF m 0 #[rv x0, iv x1, iv x2, iv x3, iv x4, iv x5, iv x6, u_, u_] [] := by first | (simp [entryFrame, mkF, argsToLocals, Value.category]; done) | rfl
def own_Qchk1_1 (Z : State) (a1 : Addr) (p4 : Int32) (p5 : Int32) (p6 : Int32) (p7 : Int32) (d : Addr) (kd : ClassId) (z : Int32) (v0 : Value) (v1 : Value) (v2 : Value) (v3 : Value) (sn : Addr) (sv : Addr) (ss : Addr) (sl : Addr) (v8 : Value) (v9 : Value) (v10 : Value) (v11 : Value) (v12 : Value) (bn : Addr) (kn : ClassId) (bv : Addr) (kv : ClassId) (bs : Addr) (ks : ClassId) (bl : Addr) (kl : ClassId) (gC : Int32) (h0 : Heap) (n0 : Nat) : Option Value → Heap → List Loc → Prop := fun v h L => v = some (.int 1) ∧ Fr n0 L ∧ Keep h0 h []
def own_Rchk1_1 : Room := { frames := 4, cells := 8, slots := 20, locals := 52 }
set_option maxRecDepth 65536 in
set_option maxHeartbeats 40000000 in
theorem own_rmchk1_1 (l : Launch) (Z : State) (a0 : Array Value) (hw : ∀ d ∈ tables_1, d.before a0 Z = true) (ws : List Jvm.Cond) (a1 : Addr) (p4 : Int32) (p5 : Int32) (p6 : Int32) (p7 : Int32) (d : Addr) (kd : ClassId) (z : Int32) (v0 : Value) (v1 : Value) (v2 : Value) (v3 : Value) (sn : Addr) (sv : Addr) (ss : Addr) (sl : Addr) (v8 : Value) (v9 : Value) (v10 : Value) (v11 : Value) (v12 : Value) (bn : Addr) (kn : ClassId) (bv : Addr) (kv : ClassId) (bs : Addr) (ks : ClassId) (bl : Addr) (kl : ClassId) (gC : Int32) (h0 : Heap) (n0 : Nat) (Z0 : n0 ≤ h0.size) (pr0 : Exa Z h0 a1 "com/example/tagwright/tagwright/XmlElement") (pr1 : Fld Z h0 a1 "com/example/tagwright/tagwright/XmlElement" "attributes" "[Ljava/lang/String;" (.ref d)) (pr2 : Fld Z h0 a1 "com/example/tagwright/tagwright/XmlElement" "stride" "B" (.int 4)) (pr3 : Arv Z h0 d kd (.object "java/lang/String") z [v0, v1, v2, v3, (.ref sn), (.ref sv), (.ref ss), (.ref sl), v8, v9, v10, v11, v12] .null) (pr4 : Exa Z h0 sn "java/lang/String") (pr5 : Fld Z h0 sn "java/lang/String" "coder" "B" (.int 0)) (pr6 : Fld Z h0 sn "java/lang/String" "value" "[B" (.ref bn)) (pr7 : Arv Z h0 bn kn .byte (1 : Int32) [(.int (own_by (own_chr p4 (1 : Int32))))] (.int 0)) (pr8 : Exa Z h0 sv "java/lang/String") (pr9 : Fld Z h0 sv "java/lang/String" "coder" "B" (.int 0)) (pr10 : Fld Z h0 sv "java/lang/String" "value" "[B" (.ref bv)) (pr11 : Arv Z h0 bv kv .byte (1 : Int32) [(.int (own_by (own_chr p5 (1 : Int32))))] (.int 0)) (pr12 : Exa Z h0 ss "java/lang/String") (pr13 : Fld Z h0 ss "java/lang/String" "coder" "B" (.int 0)) (pr14 : Fld Z h0 ss "java/lang/String" "value" "[B" (.ref bs)) (pr15 : Arv Z h0 bs ks .byte (1 : Int32) [(.int (own_by (own_chr p7 (1 : Int32))))] (.int 0)) (pr16 : Exa Z h0 sl "java/lang/String") (pr17 : Fld Z h0 sl "java/lang/String" "coder" "B" (.int 0)) (pr18 : Fld Z h0 sl "java/lang/String" "value" "[B" (.ref bl)) (pr19 : Arv Z h0 bl kl .byte (1 : Int32) [(.int (own_by (own_chr p6 (1 : Int32))))] (.int 0)) (pr20 : Sta Z h0 "java/lang/String" "COMPACT_STRINGS" "Z" (.int gC)) (hG : ¬ gC = (0 : Int32)) (hz4 : (4 : Int32) < z) (hz5 : (5 : Int32) < z) (hz6 : (6 : Int32) < z) (hz7 : (7 : Int32) < z) :
    own_Met l Z own_y17 method_5_code 9 (some .boolean) ws own_Rchk1_1 h0 #[(.ref a1), (.int 1), (.int 1), (.int p4), (.int p5), (.int p6), (.int p7)] (own_Qchk1_1 Z a1 p4 p5 p6 p7 d kd z v0 v1 v2 v3 sn sv ss sl v8 v9 v10 v11 v12 bn kn bv kv bs ks bl kl gC h0 n0) own_Rchk1_1.cells own_Rchk1_1.slots := by
  refine own_start (plainFor_of_name own_pn2) ?_
  intro p e s m below meth c s₁ X0 hx hZ hby hml hret hlk hown hnm e0
  have hown : s.vm.findClass "com/example/tagwright/tagwright/XmlElementNewAttributesPinLaw" = some m.cls := hown
  have hml : c.maxLocals = 9 := hml
  have N0 := Fr.nil n0
  refine own_cast (own_efchk1_1 m a1 (1 : Int32) (1 : Int32) p4 p5 p6 p7) ?_
  refine own_s s₁ (mkF m 2 #[rv a1, iv 1, iv 1, iv p4, iv p5, iv p6, iv p7, u_, u_] [(.int 1), (.int p4)]) (fun _ k => XS.iloadN X0.here hx rfl (hb hby od_m_5_0) rfl  (XS.iloadN X0.here hx rfl (hb hby od_m_5_1) rfl  k)) ?_
  obtain ⟨v1, T1, L1, X1, hQ1, st1⟩ := own_callS X0 hx hZ (y := own_y4) (W := 0) hown (own_h hw 82 rfl) (own_h hw 83 rfl) (own_h hw 80 rfl) (own_h hw 84 rfl) (by decide) (own_rmstr l Z a0 hw [] p4 (1 : Int32) gC h0 n0 Z0 pr20 hG) (by decide) (by decide) (g := (mkF m 2 #[rv a1, iv 1, iv 1, iv p4, iv p5, iv p6, iv p7, u_, u_] [(.int 1), (.int p4)])) rfl (by rw [hml]; rfl) (argsL := [(.int p4), (.int 1)]) (rest := []) rfl (lenOf own_pd6 rfl) rfl (by show 2 * 0 + _ ≤ _; exact Nat.le_of_eq rfl) (hb hby od_m_5_2) e0 (by decide) (by decide)
  obtain ⟨za1, zb1, zk1, rfl, Nq1, Kq1, g_za1, sq_za1, g_zb1, sq_zb1, q1_0, q1_1, q1_2, q1_3⟩ := hQ1
  have N1 := Fr.app N0 Nq1
  have sz_za1 : h0.size ≤ za1 := Nat.le_trans (Keep.refl h0 []).1 sq_za1
  have sz_zb1 : h0.size ≤ zb1 := Nat.le_trans (Keep.refl h0 []).1 sq_zb1
  have f2 := pr0.keep Kq1
  have f3 := pr1.keep Kq1 nin0
  have f4 := pr2.keep Kq1 nin0
  have f5 := pr3.keep Kq1 nin0
  have f6 := pr4.keep Kq1
  have f7 := pr5.keep Kq1 nin0
  have f8 := pr6.keep Kq1 nin0
  have f9 := pr7.keep Kq1 nin0
  have f10 := pr8.keep Kq1
  have f11 := pr9.keep Kq1 nin0
  have f12 := pr10.keep Kq1 nin0
  have f13 := pr11.keep Kq1 nin0
  have f14 := pr12.keep Kq1
  have f15 := pr13.keep Kq1 nin0
  have f16 := pr14.keep Kq1 nin0
  have f17 := pr15.keep Kq1 nin0
  have f18 := pr16.keep Kq1
  have f19 := pr17.keep Kq1 nin0
  have f20 := pr18.keep Kq1 nin0
  have f21 := pr19.keep Kq1 nin0
  have f22 := own_staKeep pr20 Kq1
  have K1 : Keep h0 T1.heap [] := (Keep.refl h0 []).trans Kq1 all0
  have Z1 := Nat.le_trans Z0 Kq1.1
  refine own_s T1 (mkF m 5 #[rv a1, iv 1, iv 1, iv p4, iv p5, iv p6, iv p7, u_, u_] [(.ref za1)]) st1 ?_
  refine own_s T1 (mkF m 10 #[rv a1, iv 1, iv 1, iv p4, iv p5, iv p6, iv p7, rv za1, u_] [(.int 1), (.int p5)]) (fun _ k => XS.astore X1.here hx rfl (hb hby od_m_5_5) rfl rfl (l' := #[rv a1, iv 1, iv 1, iv p4, iv p5, iv p6, iv p7, rv za1, u_]) rfl (XS.iload X1.here hx rfl (hb hby od_m_5_7) rfl  (XS.iloadN X1.here hx rfl (hb hby od_m_5_9) rfl  k))) ?_
  obtain ⟨v23, T23, L23, X23, hQ23, st23⟩ := own_callS X1 hx hZ (y := own_y4) (W := 0) hown (own_h hw 82 rfl) (own_h hw 83 rfl) (own_h hw 80 rfl) (own_h hw 84 rfl) (by decide) (own_rmstr l Z a0 hw [] p5 (1 : Int32) gC T1.heap n0 Z1 f22 hG) (by decide) (by decide) (g := (mkF m 10 #[rv a1, iv 1, iv 1, iv p4, iv p5, iv p6, iv p7, rv za1, u_] [(.int 1), (.int p5)])) rfl (by rw [hml]; rfl) (argsL := [(.int p5), (.int 1)]) (rest := []) rfl (lenOf own_pd6 rfl) rfl (by show 2 * 0 + _ ≤ _; exact Nat.le_of_eq rfl) (hb hby od_m_5_10) rfl (by decide) (by decide)
  obtain ⟨za23, zb23, zk23, rfl, Nq23, Kq23, g_za23, sq_za23, g_zb23, sq_zb23, q23_0, q23_1, q23_2, q23_3⟩ := hQ23
  have N23 := Fr.app N1 Nq23
  have sz_za23 : h0.size ≤ za23 := Nat.le_trans K1.1 sq_za23
  have sz_zb23 : h0.size ≤ zb23 := Nat.le_trans K1.1 sq_zb23
  have f24 := f2.keep Kq23
  have f25 := f3.keep Kq23 nin0
  have f26 := f4.keep Kq23 nin0
  have f27 := f5.keep Kq23 nin0
  have f28 := f6.keep Kq23
  have f29 := f7.keep Kq23 nin0
  have f30 := f8.keep Kq23 nin0
  have f31 := f9.keep Kq23 nin0
  have f32 := f10.keep Kq23
  have f33 := f11.keep Kq23 nin0
  have f34 := f12.keep Kq23 nin0
  have f35 := f13.keep Kq23 nin0
  have f36 := f14.keep Kq23
  have f37 := f15.keep Kq23 nin0
  have f38 := f16.keep Kq23 nin0
  have f39 := f17.keep Kq23 nin0
  have f40 := f18.keep Kq23
  have f41 := f19.keep Kq23 nin0
  have f42 := f20.keep Kq23 nin0
  have f43 := f21.keep Kq23 nin0
  have f44 := own_staKeep f22 Kq23
  have f45 := q1_0.keep Kq23
  have f46 := q1_1.keep Kq23 nin0
  have f47 := q1_2.keep Kq23 nin0
  have f48 := q1_3.keep Kq23 nin0
  have K23 : Keep h0 T23.heap [] := K1.trans Kq23 all0
  have Z23 := Nat.le_trans Z1 Kq23.1
  refine own_s T23 (mkF m 13 #[rv a1, iv 1, iv 1, iv p4, iv p5, iv p6, iv p7, rv za1, u_] [(.ref za23)]) st23 ?_
  refine own_s T23 (mkF m 19 #[rv a1, iv 1, iv 1, iv p4, iv p5, iv p6, iv p7, rv za1, rv za23] [(.int 1), (.ref a1), (.ref za1)]) (fun _ k => XS.astore X23.here hx rfl (hb hby od_m_5_13) rfl rfl (l' := #[rv a1, iv 1, iv 1, iv p4, iv p5, iv p6, iv p7, rv za1, rv za23]) rfl (XS.aload X23.here hx rfl (hb hby od_m_5_15) rfl rfl (XS.aloadN X23.here hx rfl (hb hby od_m_5_17) rfl rfl (XS.iloadN X23.here hx rfl (hb hby od_m_5_18) rfl  k)))) ?_
  obtain ⟨v49, T49, L49, X49, hQ49, st49⟩ := own_callV X23 hx hZ (y := own_y14) (z := own_y14) (W := 1) (a := a1) hown (own_h hw 115 rfl) (own_h hw 116 rfl) (notFace_of_selects (args := #[]) (mvT hZ (own_h hw 118 rfl))) (own_h hw 118 rfl) (own_h hw 117 rfl) (own_h hw 2 rfl) (own_h hw 119 rfl) (by decide) (own_rmgn1_1 l Z a0 hw [] a1 d kd z v0 v1 v2 v3 sn (.ref sv) (.ref ss) (.ref sl) v8 v9 v10 v11 v12 T23.heap n0 Z23 f25 f26 f27 hz4) (by decide) (by decide) f24 (g := (mkF m 19 #[rv a1, iv 1, iv 1, iv p4, iv p5, iv p6, iv p7, rv za1, rv za23] [(.int 1), (.ref a1), (.ref za1)])) rfl (by rw [hml]; rfl) (argsL := [(.int 1)]) (rest := [(.ref za1)]) rfl (lenOf own_pd9 rfl) rfl (by show 2 * 0 + _ ≤ _; exact Nat.le_of_eq rfl) (hb hby od_m_5_19) rfl (by decide) (by decide)
  obtain ⟨rfl, Nq49, e49⟩ := hQ49
  have N49 := Fr.app N23 Nq49
  refine own_s T49 (mkF m 22 #[rv a1, iv 1, iv 1, iv p4, iv p5, iv p6, iv p7, rv za1, rv za23] [(.ref sn), (.ref za1)]) st49 ?_
  obtain ⟨v50, T50, L50, X50, hQ50, st50⟩ := own_callV X49 hx hZ (y := own_y6) (z := own_y6) (W := 0) (a := za1) hown (own_h hw 120 rfl) (own_h hw 108 rfl) (notFace_of_selects (args := #[]) (mvT hZ (own_h hw 110 rfl))) (own_h hw 110 rfl) (own_h hw 109 rfl) (own_h hw 9 rfl) (own_h hw 111 rfl) (by decide) (own_rmeqD l Z a0 hw [] za1 sn zb1 zk1 (own_by (own_chr p4 (1 : Int32))) bn kn gC T23.heap n0 Z23 f45 f46 f47 f48 f28 f29 f30 f31 f44 hG (Ne.symm (own_nl pr4.lt sq_za1))) (by decide) (by decide) f45 (g := (mkF m 22 #[rv a1, iv 1, iv 1, iv p4, iv p5, iv p6, iv p7, rv za1, rv za23] [(.ref sn), (.ref za1)])) rfl (by rw [hml]; rfl) (argsL := [(.ref sn)]) (rest := []) rfl (lenOf own_pd8 rfl) rfl (by show 2 * 0 + _ ≤ _; exact Nat.le_of_eq rfl) (hb hby od_m_5_22) e49 (by decide) (by decide)
  obtain ⟨rfl, Nq50, e50⟩ := hQ50
  have N50 := Fr.app N49 Nq50
  refine own_s T50 (mkF m 25 #[rv a1, iv 1, iv 1, iv p4, iv p5, iv p6, iv p7, rv za1, rv za23] [(.int 1)]) st50 ?_
  refine own_s T50 (mkF m 32 #[rv a1, iv 1, iv 1, iv p4, iv p5, iv p6, iv p7, rv za1, rv za23] [(.int 1), (.ref a1), (.ref za23)]) (fun _ k => XS.ifNo X50.here hx rfl (hb hby od_m_5_25) rfl ((if0 _ _).trans (feq (by decide : ¬ ((1 : Int32) = (0 : Int32)))).1) (XS.aload X50.here hx rfl (hb hby od_m_5_28) rfl rfl (XS.aloadN X50.here hx rfl (hb hby od_m_5_30) rfl rfl (XS.iloadN X50.here hx rfl (hb hby od_m_5_31) rfl  k)))) ?_
  obtain ⟨v51, T51, L51, X51, hQ51, st51⟩ := own_callV X50 hx hZ (y := own_y15) (z := own_y15) (W := 1) (a := a1) hown (own_h hw 124 rfl) (own_h hw 125 rfl) (notFace_of_selects (args := #[]) (mvT hZ (own_h hw 127 rfl))) (own_h hw 127 rfl) (own_h hw 126 rfl) (own_h hw 2 rfl) (own_h hw 128 rfl) (by decide) (own_rmgv1_1 l Z a0 hw [] a1 d kd z v0 v1 v2 v3 (.ref sn) sv (.ref ss) (.ref sl) v8 v9 v10 v11 v12 T23.heap n0 Z23 f25 f26 f27 hz5) (by decide) (by decide) f24 (g := (mkF m 32 #[rv a1, iv 1, iv 1, iv p4, iv p5, iv p6, iv p7, rv za1, rv za23] [(.int 1), (.ref a1), (.ref za23)])) rfl (by rw [hml]; rfl) (argsL := [(.int 1)]) (rest := [(.ref za23)]) rfl (lenOf own_pd9 rfl) rfl (by show 2 * 0 + _ ≤ _; exact Nat.le_of_eq rfl) (hb hby od_m_5_32) e50 (by decide) (by decide)
  obtain ⟨rfl, Nq51, e51⟩ := hQ51
  have N51 := Fr.app N50 Nq51
  refine own_s T51 (mkF m 35 #[rv a1, iv 1, iv 1, iv p4, iv p5, iv p6, iv p7, rv za1, rv za23] [(.ref sv), (.ref za23)]) st51 ?_
  obtain ⟨v52, T52, L52, X52, hQ52, st52⟩ := own_callV X51 hx hZ (y := own_y6) (z := own_y6) (W := 0) (a := za23) hown (own_h hw 120 rfl) (own_h hw 108 rfl) (notFace_of_selects (args := #[]) (mvT hZ (own_h hw 110 rfl))) (own_h hw 110 rfl) (own_h hw 109 rfl) (own_h hw 9 rfl) (own_h hw 111 rfl) (by decide) (own_rmeqD l Z a0 hw [] za23 sv zb23 zk23 (own_by (own_chr p5 (1 : Int32))) bv kv gC T23.heap n0 Z23 q23_0 q23_1 q23_2 q23_3 f32 f33 f34 f35 f44 hG (Ne.symm (own_nl f10.lt sq_za23))) (by decide) (by decide) q23_0 (g := (mkF m 35 #[rv a1, iv 1, iv 1, iv p4, iv p5, iv p6, iv p7, rv za1, rv za23] [(.ref sv), (.ref za23)])) rfl (by rw [hml]; rfl) (argsL := [(.ref sv)]) (rest := []) rfl (lenOf own_pd8 rfl) rfl (by show 2 * 0 + _ ≤ _; exact Nat.le_of_eq rfl) (hb hby od_m_5_35) e51 (by decide) (by decide)
  obtain ⟨rfl, Nq52, e52⟩ := hQ52
  have N52 := Fr.app N51 Nq52
  refine own_s T52 (mkF m 38 #[rv a1, iv 1, iv 1, iv p4, iv p5, iv p6, iv p7, rv za1, rv za23] [(.int 1)]) st52 ?_
  refine own_s T52 (mkF m 50 #[rv a1, iv 1, iv 1, iv p4, iv p5, iv p6, iv p7, rv za1, rv za23] [(.int 1), (.int p7)]) (fun _ k => XS.ifYes X52.here hx rfl (pc0 := 38) (pc' := 43) rfl (hb hby od_m_5_38) rfl ((if0 _ _).trans (feq (by decide : ¬ ((1 : Int32) = (0 : Int32)))).2) (by decide) (by decide) (XS.iloadN X52.here hx rfl (hb hby od_m_5_43) rfl  (XS.ifNo X52.here hx rfl (hb hby od_m_5_44) rfl ((if0 _ _).trans (feq (by decide : ¬ ((1 : Int32) = (0 : Int32)))).1) (XS.iload X52.here hx rfl (hb hby od_m_5_47) rfl  (XS.iloadN X52.here hx rfl (hb hby od_m_5_49) rfl  k))))) ?_
  obtain ⟨v53, T53, L53, X53, hQ53, st53⟩ := own_callS X52 hx hZ (y := own_y4) (W := 0) hown (own_h hw 82 rfl) (own_h hw 83 rfl) (own_h hw 80 rfl) (own_h hw 84 rfl) (by decide) (own_rmstr l Z a0 hw [] p7 (1 : Int32) gC T23.heap n0 Z23 f44 hG) (by decide) (by decide) (g := (mkF m 50 #[rv a1, iv 1, iv 1, iv p4, iv p5, iv p6, iv p7, rv za1, rv za23] [(.int 1), (.int p7)])) rfl (by rw [hml]; rfl) (argsL := [(.int p7), (.int 1)]) (rest := []) rfl (lenOf own_pd6 rfl) rfl (by show 2 * 0 + _ ≤ _; exact Nat.le_of_eq rfl) (hb hby od_m_5_50) e52 (by decide) (by decide)
  obtain ⟨za53, zb53, zk53, rfl, Nq53, Kq53, g_za53, sq_za53, g_zb53, sq_zb53, q53_0, q53_1, q53_2, q53_3⟩ := hQ53
  have N53 := Fr.app N52 Nq53
  have sz_za53 : h0.size ≤ za53 := Nat.le_trans K23.1 sq_za53
  have sz_zb53 : h0.size ≤ zb53 := Nat.le_trans K23.1 sq_zb53
  have f54 := f24.keep Kq53
  have f55 := f25.keep Kq53 nin0
  have f56 := f26.keep Kq53 nin0
  have f57 := f27.keep Kq53 nin0
  have f58 := f28.keep Kq53
  have f59 := f29.keep Kq53 nin0
  have f60 := f30.keep Kq53 nin0
  have f61 := f31.keep Kq53 nin0
  have f62 := f32.keep Kq53
  have f63 := f33.keep Kq53 nin0
  have f64 := f34.keep Kq53 nin0
  have f65 := f35.keep Kq53 nin0
  have f66 := f36.keep Kq53
  have f67 := f37.keep Kq53 nin0
  have f68 := f38.keep Kq53 nin0
  have f69 := f39.keep Kq53 nin0
  have f70 := f40.keep Kq53
  have f71 := f41.keep Kq53 nin0
  have f72 := f42.keep Kq53 nin0
  have f73 := f43.keep Kq53 nin0
  have f74 := own_staKeep f44 Kq53
  have f75 := f45.keep Kq53
  have f76 := f46.keep Kq53 nin0
  have f77 := f47.keep Kq53 nin0
  have f78 := f48.keep Kq53 nin0
  have f79 := q23_0.keep Kq53
  have f80 := q23_1.keep Kq53 nin0
  have f81 := q23_2.keep Kq53 nin0
  have f82 := q23_3.keep Kq53 nin0
  have K53 : Keep h0 T53.heap [] := K23.trans Kq53 all0
  have Z53 := Nat.le_trans Z23 Kq53.1
  refine own_s T53 (mkF m 53 #[rv a1, iv 1, iv 1, iv p4, iv p5, iv p6, iv p7, rv za1, rv za23] [(.ref za53)]) st53 ?_
  refine own_s T53 (mkF m 55 #[rv a1, iv 1, iv 1, iv p4, iv p5, iv p6, iv p7, rv za1, rv za23] [(.int 1), (.ref a1), (.ref za53)]) (fun _ k => XS.aloadN X53.here hx rfl (hb hby od_m_5_53) rfl rfl (XS.iloadN X53.here hx rfl (hb hby od_m_5_54) rfl  k)) ?_
  obtain ⟨v83, T83, L83, X83, hQ83, st83⟩ := own_callV X53 hx hZ (y := own_y13) (z := own_y13) (W := 1) (a := a1) hown (own_h hw 129 rfl) (own_h hw 130 rfl) (notFace_of_selects (args := #[]) (mvT hZ (own_h hw 132 rfl))) (own_h hw 132 rfl) (own_h hw 131 rfl) (own_h hw 2 rfl) (own_h hw 133 rfl) (by decide) (own_rmgs1_1 l Z a0 hw [] a1 d kd z v0 v1 v2 v3 (.ref sn) (.ref sv) ss (.ref sl) v8 v9 v10 v11 v12 T53.heap n0 Z53 f55 f56 f57 hz6) (by decide) (by decide) f54 (g := (mkF m 55 #[rv a1, iv 1, iv 1, iv p4, iv p5, iv p6, iv p7, rv za1, rv za23] [(.int 1), (.ref a1), (.ref za53)])) rfl (by rw [hml]; rfl) (argsL := [(.int 1)]) (rest := [(.ref za53)]) rfl (lenOf own_pd9 rfl) rfl (by show 2 * 0 + _ ≤ _; exact Nat.le_of_eq rfl) (hb hby od_m_5_55) rfl (by decide) (by decide)
  obtain ⟨rfl, Nq83, e83⟩ := hQ83
  have N83 := Fr.app N53 Nq83
  refine own_s T83 (mkF m 58 #[rv a1, iv 1, iv 1, iv p4, iv p5, iv p6, iv p7, rv za1, rv za23] [(.ref ss), (.ref za53)]) st83 ?_
  obtain ⟨v84, T84, L84, X84, hQ84, st84⟩ := own_callV X83 hx hZ (y := own_y6) (z := own_y6) (W := 0) (a := za53) hown (own_h hw 120 rfl) (own_h hw 108 rfl) (notFace_of_selects (args := #[]) (mvT hZ (own_h hw 110 rfl))) (own_h hw 110 rfl) (own_h hw 109 rfl) (own_h hw 9 rfl) (own_h hw 111 rfl) (by decide) (own_rmeqD l Z a0 hw [] za53 ss zb53 zk53 (own_by (own_chr p7 (1 : Int32))) bs ks gC T53.heap n0 Z53 q53_0 q53_1 q53_2 q53_3 f66 f67 f68 f69 f74 hG (Ne.symm (own_nl f36.lt sq_za53))) (by decide) (by decide) q53_0 (g := (mkF m 58 #[rv a1, iv 1, iv 1, iv p4, iv p5, iv p6, iv p7, rv za1, rv za23] [(.ref ss), (.ref za53)])) rfl (by rw [hml]; rfl) (argsL := [(.ref ss)]) (rest := []) rfl (lenOf own_pd8 rfl) rfl (by show 2 * 0 + _ ≤ _; exact Nat.le_of_eq rfl) (hb hby od_m_5_58) e83 (by decide) (by decide)
  obtain ⟨rfl, Nq84, e84⟩ := hQ84
  have N84 := Fr.app N83 Nq84
  refine own_s T84 (mkF m 61 #[rv a1, iv 1, iv 1, iv p4, iv p5, iv p6, iv p7, rv za1, rv za23] [(.int 1)]) st84 ?_
  refine own_s T84 (mkF m 67 #[rv a1, iv 1, iv 1, iv p4, iv p5, iv p6, iv p7, rv za1, rv za23] [(.int 1), (.int p6)]) (fun _ k => XS.ifNo X84.here hx rfl (hb hby od_m_5_61) rfl ((if0 _ _).trans (feq (by decide : ¬ ((1 : Int32) = (0 : Int32)))).1) (XS.iload X84.here hx rfl (hb hby od_m_5_64) rfl  (XS.iloadN X84.here hx rfl (hb hby od_m_5_66) rfl  k))) ?_
  obtain ⟨v85, T85, L85, X85, hQ85, st85⟩ := own_callS X84 hx hZ (y := own_y4) (W := 0) hown (own_h hw 82 rfl) (own_h hw 83 rfl) (own_h hw 80 rfl) (own_h hw 84 rfl) (by decide) (own_rmstr l Z a0 hw [] p6 (1 : Int32) gC T53.heap n0 Z53 f74 hG) (by decide) (by decide) (g := (mkF m 67 #[rv a1, iv 1, iv 1, iv p4, iv p5, iv p6, iv p7, rv za1, rv za23] [(.int 1), (.int p6)])) rfl (by rw [hml]; rfl) (argsL := [(.int p6), (.int 1)]) (rest := []) rfl (lenOf own_pd6 rfl) rfl (by show 2 * 0 + _ ≤ _; exact Nat.le_of_eq rfl) (hb hby od_m_5_67) e84 (by decide) (by decide)
  obtain ⟨za85, zb85, zk85, rfl, Nq85, Kq85, g_za85, sq_za85, g_zb85, sq_zb85, q85_0, q85_1, q85_2, q85_3⟩ := hQ85
  have N85 := Fr.app N84 Nq85
  have sz_za85 : h0.size ≤ za85 := Nat.le_trans K53.1 sq_za85
  have sz_zb85 : h0.size ≤ zb85 := Nat.le_trans K53.1 sq_zb85
  have f86 := f54.keep Kq85
  have f87 := f55.keep Kq85 nin0
  have f88 := f56.keep Kq85 nin0
  have f89 := f57.keep Kq85 nin0
  have f90 := f58.keep Kq85
  have f91 := f59.keep Kq85 nin0
  have f92 := f60.keep Kq85 nin0
  have f93 := f61.keep Kq85 nin0
  have f94 := f62.keep Kq85
  have f95 := f63.keep Kq85 nin0
  have f96 := f64.keep Kq85 nin0
  have f97 := f65.keep Kq85 nin0
  have f98 := f66.keep Kq85
  have f99 := f67.keep Kq85 nin0
  have f100 := f68.keep Kq85 nin0
  have f101 := f69.keep Kq85 nin0
  have f102 := f70.keep Kq85
  have f103 := f71.keep Kq85 nin0
  have f104 := f72.keep Kq85 nin0
  have f105 := f73.keep Kq85 nin0
  have f106 := own_staKeep f74 Kq85
  have f107 := f75.keep Kq85
  have f108 := f76.keep Kq85 nin0
  have f109 := f77.keep Kq85 nin0
  have f110 := f78.keep Kq85 nin0
  have f111 := f79.keep Kq85
  have f112 := f80.keep Kq85 nin0
  have f113 := f81.keep Kq85 nin0
  have f114 := f82.keep Kq85 nin0
  have f115 := q53_0.keep Kq85
  have f116 := q53_1.keep Kq85 nin0
  have f117 := q53_2.keep Kq85 nin0
  have f118 := q53_3.keep Kq85 nin0
  have K85 : Keep h0 T85.heap [] := K53.trans Kq85 all0
  have Z85 := Nat.le_trans Z53 Kq85.1
  refine own_s T85 (mkF m 70 #[rv a1, iv 1, iv 1, iv p4, iv p5, iv p6, iv p7, rv za1, rv za23] [(.ref za85)]) st85 ?_
  refine own_s T85 (mkF m 72 #[rv a1, iv 1, iv 1, iv p4, iv p5, iv p6, iv p7, rv za1, rv za23] [(.int 1), (.ref a1), (.ref za85)]) (fun _ k => XS.aloadN X85.here hx rfl (hb hby od_m_5_70) rfl rfl (XS.iloadN X85.here hx rfl (hb hby od_m_5_71) rfl  k)) ?_
  obtain ⟨v119, T119, L119, X119, hQ119, st119⟩ := own_callV X85 hx hZ (y := own_y16) (z := own_y16) (W := 1) (a := a1) hown (own_h hw 134 rfl) (own_h hw 135 rfl) (notFace_of_selects (args := #[]) (mvT hZ (own_h hw 137 rfl))) (own_h hw 137 rfl) (own_h hw 136 rfl) (own_h hw 2 rfl) (own_h hw 138 rfl) (by decide) (own_rmgl1_1 l Z a0 hw [] a1 d kd z v0 v1 v2 v3 (.ref sn) (.ref sv) (.ref ss) sl v8 v9 v10 v11 v12 T85.heap n0 Z85 f87 f88 f89 hz7) (by decide) (by decide) f86 (g := (mkF m 72 #[rv a1, iv 1, iv 1, iv p4, iv p5, iv p6, iv p7, rv za1, rv za23] [(.int 1), (.ref a1), (.ref za85)])) rfl (by rw [hml]; rfl) (argsL := [(.int 1)]) (rest := [(.ref za85)]) rfl (lenOf own_pd9 rfl) rfl (by show 2 * 0 + _ ≤ _; exact Nat.le_of_eq rfl) (hb hby od_m_5_72) rfl (by decide) (by decide)
  obtain ⟨rfl, Nq119, e119⟩ := hQ119
  have N119 := Fr.app N85 Nq119
  refine own_s T119 (mkF m 75 #[rv a1, iv 1, iv 1, iv p4, iv p5, iv p6, iv p7, rv za1, rv za23] [(.ref sl), (.ref za85)]) st119 ?_
  obtain ⟨v120, T120, L120, X120, hQ120, st120⟩ := own_callV X119 hx hZ (y := own_y6) (z := own_y6) (W := 0) (a := za85) hown (own_h hw 120 rfl) (own_h hw 108 rfl) (notFace_of_selects (args := #[]) (mvT hZ (own_h hw 110 rfl))) (own_h hw 110 rfl) (own_h hw 109 rfl) (own_h hw 9 rfl) (own_h hw 111 rfl) (by decide) (own_rmeqD l Z a0 hw [] za85 sl zb85 zk85 (own_by (own_chr p6 (1 : Int32))) bl kl gC T85.heap n0 Z85 q85_0 q85_1 q85_2 q85_3 f102 f103 f104 f105 f106 hG (Ne.symm (own_nl f70.lt sq_za85))) (by decide) (by decide) q85_0 (g := (mkF m 75 #[rv a1, iv 1, iv 1, iv p4, iv p5, iv p6, iv p7, rv za1, rv za23] [(.ref sl), (.ref za85)])) rfl (by rw [hml]; rfl) (argsL := [(.ref sl)]) (rest := []) rfl (lenOf own_pd8 rfl) rfl (by show 2 * 0 + _ ≤ _; exact Nat.le_of_eq rfl) (hb hby od_m_5_75) e119 (by decide) (by decide)
  obtain ⟨rfl, Nq120, e120⟩ := hQ120
  have N120 := Fr.app N119 Nq120
  refine own_s T120 (mkF m 78 #[rv a1, iv 1, iv 1, iv p4, iv p5, iv p6, iv p7, rv za1, rv za23] [(.int 1)]) st120 ?_
  refine own_s T120 (mkF m 86 #[rv a1, iv 1, iv 1, iv p4, iv p5, iv p6, iv p7, rv za1, rv za23] [(.int 1)]) (fun _ k => XS.ifNo X120.here hx rfl (hb hby od_m_5_78) rfl ((if0 _ _).trans (feq (by decide : ¬ ((1 : Int32) = (0 : Int32)))).1) (XS.iconst X120.here hx rfl (hb hby od_m_5_81) (XS.goto X120.here hx rfl (pc0 := 82) (pc' := 86) rfl (hb hby od_m_5_82) (by decide) (by decide) k))) ?_
  exact own_finZ X120 hx (t := .boolean) hret (by simp) (z' := (1 : Int32)) rfl (hb hby od_m_5_86) (own_end (Qv := (own_Qchk1_1 Z a1 p4 p5 p6 p7 d kd z v0 v1 v2 v3 sn sv ss sl v8 v9 v10 v11 v12 bn kn bv kv bs ks bl kl gC h0 n0)) X120 (own_some hret) hlk (by decide) (by decide) e120 ⟨rfl, N120, K85⟩)
theorem own_efgn2_1 (m : MethodId) (x0 : Addr) (x1 : Int32) : entryFrame m #[(.ref x0), (.int x1)] 2 = mkF m 0 #[rv x0, iv x1] [] := by first | (simp [entryFrame, mkF, argsToLocals, Value.category]; done) | rfl
def own_Qgn2_1 (Z : State) (a1 : Addr) (d : Addr) (kd : ClassId) (z : Int32) (v0 : Value) (v1 : Value) (v2 : Value) (v3 : Value) (v4 : Value) (v5 : Value) (v6 : Value) (v7 : Value) (x : Addr) (v9 : Value) (v10 : Value) (v11 : Value) (v12 : Value) (h0 : Heap) (n0 : Nat) : Option Value → Heap → List Loc → Prop := fun v h L => v = some (.ref x) ∧ Fr n0 L ∧ h = h0
def own_Rgn2_1 : Room := { frames := 0, cells := 0, slots := 0, locals := 0 }
set_option maxRecDepth 65536 in
set_option maxHeartbeats 40000000 in
theorem own_rmgn2_1 (l : Launch) (Z : State) (a0 : Array Value) (hw : ∀ d ∈ tables_1, d.before a0 Z = true) (ws : List Jvm.Cond) (a1 : Addr) (d : Addr) (kd : ClassId) (z : Int32) (v0 : Value) (v1 : Value) (v2 : Value) (v3 : Value) (v4 : Value) (v5 : Value) (v6 : Value) (v7 : Value) (x : Addr) (v9 : Value) (v10 : Value) (v11 : Value) (v12 : Value) (h0 : Heap) (n0 : Nat) (Z0 : n0 ≤ h0.size) (pr0 : Fld Z h0 a1 "com/example/tagwright/tagwright/XmlElement" "attributes" "[Ljava/lang/String;" (.ref d)) (pr1 : Fld Z h0 a1 "com/example/tagwright/tagwright/XmlElement" "stride" "B" (.int 4)) (pr2 : Arv Z h0 d kd (.object "java/lang/String") z [v0, v1, v2, v3, v4, v5, v6, v7, (.ref x), v9, v10, v11, v12] .null) (hz8 : (8 : Int32) < z) :
    own_Met l Z own_y14 prog_100_method_18_code 2 (some (.object "java/lang/String")) ws own_Rgn2_1 h0 #[(.ref a1), (.int 2)] (own_Qgn2_1 Z a1 d kd z v0 v1 v2 v3 v4 v5 v6 v7 x v9 v10 v11 v12 h0 n0) own_Rgn2_1.cells own_Rgn2_1.slots := by
  refine own_start (plainFor_of_name own_pn3) ?_
  intro p e s m below meth c s₁ X0 hx hZ hby hml hret hlk hown hnm e0
  have hown : s.vm.findClass "com/example/tagwright/tagwright/XmlElement" = some m.cls := hown
  have hml : c.maxLocals = 2 := hml
  have N0 := Fr.nil n0
  refine own_cast (own_efgn2_1 m a1 (2 : Int32)) ?_
  refine own_s s₁ (mkF m 1 #[rv a1, iv 2] [(.ref a1)]) (fun _ k => XS.aloadN X0.here hx rfl (hb hby od_prog_100_m_18_0) rfl rfl k) ?_
  obtain ⟨T1, X1, e1, st1⟩ := getF X0 hx hZ hown (host := "") (Or.inl (own_h hw 60 rfl)) Via.refl e0 pr0 (g := (mkF m 1 #[rv a1, iv 2] [(.ref a1)])) rfl rfl (hb hby od_prog_100_m_18_1)
  refine own_s T1 (mkF m 4 #[rv a1, iv 2] [(.ref d)]) st1 ?_
  refine own_s T1 (mkF m 6 #[rv a1, iv 2] [(.ref a1), (.int 2), (.ref d)]) (fun _ k => XS.iloadN X1.here hx rfl (hb hby od_prog_100_m_18_4) rfl  (XS.aloadN X1.here hx rfl (hb hby od_prog_100_m_18_5) rfl rfl k)) ?_
  obtain ⟨T2, X2, e2, st2⟩ := getF X1 hx hZ hown (host := "") (Or.inl (own_h hw 65 rfl)) Via.refl e1 pr1 (g := (mkF m 6 #[rv a1, iv 2] [(.ref a1), (.int 2), (.ref d)])) rfl rfl (hb hby od_prog_100_m_18_6)
  refine own_s T2 (mkF m 9 #[rv a1, iv 2] [(.int 4), (.int 2), (.ref d)]) st2 ?_
  refine own_s T2 (mkF m 12 #[rv a1, iv 2] [(.int 8), (.ref d)]) (fun _ k => XS.imul X2.here hx rfl (hb hby od_prog_100_m_18_9) rfl (XS.iconst X2.here hx rfl (hb hby od_prog_100_m_18_10) (XS.iadd X2.here hx rfl (hb hby od_prog_100_m_18_11) rfl k))) ?_
  obtain ⟨cl3, Ar3, q3, S3, Nn3, H3, G3⟩ := id pr2
  have hin3 : ¬ ((8 : Int32) < 0 ∨ cl3.slots.size ≤ ((8 : Int32)).toNatClampNeg) := (inb_of S3 ⟨by decide, hz8⟩)
  refine own_s T2 (mkF m 13 #[rv a1, iv 2] [(.ref x)]) (fun _ k => X2.aaload hx (j := (8 : Int32)) (v := (.ref x)) (own_at e2 Ar3.1) (State.isArrayOf_alike hZ.alike Ar3.2.1) rfl Ar3.2.2 hin3 (Has.at H3 hin3 rfl) (g := (mkF m 12 #[rv a1, iv 2] [(.int 8), (.ref d)])) rfl rfl (hb hby od_prog_100_m_18_12) _ k) ?_
  exact own_finA X2 hx hret rfl rfl (hb hby od_prog_100_m_18_13) (own_end (Qv := (own_Qgn2_1 Z a1 d kd z v0 v1 v2 v3 v4 v5 v6 v7 x v9 v10 v11 v12 h0 n0)) X2 (own_some hret) hlk (by decide) (by decide) e2 ⟨rfl, N0, rfl⟩)
theorem own_efgv2_1 (m : MethodId) (x0 : Addr) (x1 : Int32) : entryFrame m #[(.ref x0), (.int x1)] 2 = mkF m 0 #[rv x0, iv x1] [] := by first | (simp [entryFrame, mkF, argsToLocals, Value.category]; done) | rfl
def own_Qgv2_1 (Z : State) (a1 : Addr) (d : Addr) (kd : ClassId) (z : Int32) (v0 : Value) (v1 : Value) (v2 : Value) (v3 : Value) (v4 : Value) (v5 : Value) (v6 : Value) (v7 : Value) (v8 : Value) (x : Addr) (v10 : Value) (v11 : Value) (v12 : Value) (h0 : Heap) (n0 : Nat) : Option Value → Heap → List Loc → Prop := fun v h L => v = some (.ref x) ∧ Fr n0 L ∧ h = h0
def own_Rgv2_1 : Room := { frames := 0, cells := 0, slots := 0, locals := 0 }
set_option maxRecDepth 65536 in
set_option maxHeartbeats 40000000 in
theorem own_rmgv2_1 (l : Launch) (Z : State) (a0 : Array Value) (hw : ∀ d ∈ tables_1, d.before a0 Z = true) (ws : List Jvm.Cond) (a1 : Addr) (d : Addr) (kd : ClassId) (z : Int32) (v0 : Value) (v1 : Value) (v2 : Value) (v3 : Value) (v4 : Value) (v5 : Value) (v6 : Value) (v7 : Value) (v8 : Value) (x : Addr) (v10 : Value) (v11 : Value) (v12 : Value) (h0 : Heap) (n0 : Nat) (Z0 : n0 ≤ h0.size) (pr0 : Fld Z h0 a1 "com/example/tagwright/tagwright/XmlElement" "attributes" "[Ljava/lang/String;" (.ref d)) (pr1 : Fld Z h0 a1 "com/example/tagwright/tagwright/XmlElement" "stride" "B" (.int 4)) (pr2 : Arv Z h0 d kd (.object "java/lang/String") z [v0, v1, v2, v3, v4, v5, v6, v7, v8, (.ref x), v10, v11, v12] .null) (hz9 : (9 : Int32) < z) :
    own_Met l Z own_y15 prog_100_method_19_code 2 (some (.object "java/lang/String")) ws own_Rgv2_1 h0 #[(.ref a1), (.int 2)] (own_Qgv2_1 Z a1 d kd z v0 v1 v2 v3 v4 v5 v6 v7 v8 x v10 v11 v12 h0 n0) own_Rgv2_1.cells own_Rgv2_1.slots := by
  refine own_start (plainFor_of_name own_pn3) ?_
  intro p e s m below meth c s₁ X0 hx hZ hby hml hret hlk hown hnm e0
  have hown : s.vm.findClass "com/example/tagwright/tagwright/XmlElement" = some m.cls := hown
  have hml : c.maxLocals = 2 := hml
  have N0 := Fr.nil n0
  refine own_cast (own_efgv2_1 m a1 (2 : Int32)) ?_
  refine own_s s₁ (mkF m 1 #[rv a1, iv 2] [(.ref a1)]) (fun _ k => XS.aloadN X0.here hx rfl (hb hby od_prog_100_m_19_0) rfl rfl k) ?_
  obtain ⟨T1, X1, e1, st1⟩ := getF X0 hx hZ hown (host := "") (Or.inl (own_h hw 60 rfl)) Via.refl e0 pr0 (g := (mkF m 1 #[rv a1, iv 2] [(.ref a1)])) rfl rfl (hb hby od_prog_100_m_19_1)
  refine own_s T1 (mkF m 4 #[rv a1, iv 2] [(.ref d)]) st1 ?_
  refine own_s T1 (mkF m 6 #[rv a1, iv 2] [(.ref a1), (.int 2), (.ref d)]) (fun _ k => XS.iloadN X1.here hx rfl (hb hby od_prog_100_m_19_4) rfl  (XS.aloadN X1.here hx rfl (hb hby od_prog_100_m_19_5) rfl rfl k)) ?_
  obtain ⟨T2, X2, e2, st2⟩ := getF X1 hx hZ hown (host := "") (Or.inl (own_h hw 65 rfl)) Via.refl e1 pr1 (g := (mkF m 6 #[rv a1, iv 2] [(.ref a1), (.int 2), (.ref d)])) rfl rfl (hb hby od_prog_100_m_19_6)
  refine own_s T2 (mkF m 9 #[rv a1, iv 2] [(.int 4), (.int 2), (.ref d)]) st2 ?_
  refine own_s T2 (mkF m 12 #[rv a1, iv 2] [(.int 9), (.ref d)]) (fun _ k => XS.imul X2.here hx rfl (hb hby od_prog_100_m_19_9) rfl (XS.iconst X2.here hx rfl (hb hby od_prog_100_m_19_10) (XS.iadd X2.here hx rfl (hb hby od_prog_100_m_19_11) rfl k))) ?_
  obtain ⟨cl3, Ar3, q3, S3, Nn3, H3, G3⟩ := id pr2
  have hin3 : ¬ ((9 : Int32) < 0 ∨ cl3.slots.size ≤ ((9 : Int32)).toNatClampNeg) := (inb_of S3 ⟨by decide, hz9⟩)
  refine own_s T2 (mkF m 13 #[rv a1, iv 2] [(.ref x)]) (fun _ k => X2.aaload hx (j := (9 : Int32)) (v := (.ref x)) (own_at e2 Ar3.1) (State.isArrayOf_alike hZ.alike Ar3.2.1) rfl Ar3.2.2 hin3 (Has.at H3 hin3 rfl) (g := (mkF m 12 #[rv a1, iv 2] [(.int 9), (.ref d)])) rfl rfl (hb hby od_prog_100_m_19_12) _ k) ?_
  exact own_finA X2 hx hret rfl rfl (hb hby od_prog_100_m_19_13) (own_end (Qv := (own_Qgv2_1 Z a1 d kd z v0 v1 v2 v3 v4 v5 v6 v7 v8 x v10 v11 v12 h0 n0)) X2 (own_some hret) hlk (by decide) (by decide) e2 ⟨rfl, N0, rfl⟩)
theorem own_efgs2_1 (m : MethodId) (x0 : Addr) (x1 : Int32) : entryFrame m #[(.ref x0), (.int x1)] 2 = mkF m 0 #[rv x0, iv x1] [] := by first | (simp [entryFrame, mkF, argsToLocals, Value.category]; done) | rfl
def own_Qgs2_1 (Z : State) (a1 : Addr) (d : Addr) (kd : ClassId) (z : Int32) (v0 : Value) (v1 : Value) (v2 : Value) (v3 : Value) (v4 : Value) (v5 : Value) (v6 : Value) (v7 : Value) (v8 : Value) (v9 : Value) (x : Addr) (v11 : Value) (v12 : Value) (h0 : Heap) (n0 : Nat) : Option Value → Heap → List Loc → Prop := fun v h L => v = some (.ref x) ∧ Fr n0 L ∧ h = h0
def own_Rgs2_1 : Room := { frames := 0, cells := 0, slots := 0, locals := 0 }
set_option maxRecDepth 65536 in
set_option maxHeartbeats 40000000 in
theorem own_rmgs2_1 (l : Launch) (Z : State) (a0 : Array Value) (hw : ∀ d ∈ tables_1, d.before a0 Z = true) (ws : List Jvm.Cond) (a1 : Addr) (d : Addr) (kd : ClassId) (z : Int32) (v0 : Value) (v1 : Value) (v2 : Value) (v3 : Value) (v4 : Value) (v5 : Value) (v6 : Value) (v7 : Value) (v8 : Value) (v9 : Value) (x : Addr) (v11 : Value) (v12 : Value) (h0 : Heap) (n0 : Nat) (Z0 : n0 ≤ h0.size) (pr0 : Fld Z h0 a1 "com/example/tagwright/tagwright/XmlElement" "attributes" "[Ljava/lang/String;" (.ref d)) (pr1 : Fld Z h0 a1 "com/example/tagwright/tagwright/XmlElement" "stride" "B" (.int 4)) (pr2 : Arv Z h0 d kd (.object "java/lang/String") z [v0, v1, v2, v3, v4, v5, v6, v7, v8, v9, (.ref x), v11, v12] .null) (hz10 : (10 : Int32) < z) :
    own_Met l Z own_y13 prog_100_method_16_code 2 (some (.object "java/lang/String")) ws own_Rgs2_1 h0 #[(.ref a1), (.int 2)] (own_Qgs2_1 Z a1 d kd z v0 v1 v2 v3 v4 v5 v6 v7 v8 v9 x v11 v12 h0 n0) own_Rgs2_1.cells own_Rgs2_1.slots := by
  refine own_start (plainFor_of_name own_pn3) ?_
  intro p e s m below meth c s₁ X0 hx hZ hby hml hret hlk hown hnm e0
  have hown : s.vm.findClass "com/example/tagwright/tagwright/XmlElement" = some m.cls := hown
  have hml : c.maxLocals = 2 := hml
  have N0 := Fr.nil n0
  refine own_cast (own_efgs2_1 m a1 (2 : Int32)) ?_
  refine own_s s₁ (mkF m 1 #[rv a1, iv 2] [(.ref a1)]) (fun _ k => XS.aloadN X0.here hx rfl (hb hby od_prog_100_m_16_0) rfl rfl k) ?_
  obtain ⟨T1, X1, e1, st1⟩ := getF X0 hx hZ hown (host := "") (Or.inl (own_h hw 65 rfl)) Via.refl e0 pr1 (g := (mkF m 1 #[rv a1, iv 2] [(.ref a1)])) rfl rfl (hb hby od_prog_100_m_16_1)
  refine own_s T1 (mkF m 4 #[rv a1, iv 2] [(.int 4)]) st1 ?_
  refine own_s T1 (mkF m 9 #[rv a1, iv 2] [(.ref a1)]) (fun _ k => XS.iconst X1.here hx rfl (hb hby od_prog_100_m_16_4) (XS.icmpNo X1.here hx rfl (hb hby od_prog_100_m_16_5) rfl (teq (by decide : ((4 : Int32) = (4 : Int32)))).2 (XS.aloadN X1.here hx rfl (hb hby od_prog_100_m_16_8) rfl rfl k))) ?_
  obtain ⟨T2, X2, e2, st2⟩ := getF X1 hx hZ hown (host := "") (Or.inl (own_h hw 60 rfl)) Via.refl e1 pr0 (g := (mkF m 9 #[rv a1, iv 2] [(.ref a1)])) rfl rfl (hb hby od_prog_100_m_16_9)
  refine own_s T2 (mkF m 12 #[rv a1, iv 2] [(.ref d)]) st2 ?_
  refine own_s T2 (mkF m 14 #[rv a1, iv 2] [(.ref a1), (.int 2), (.ref d)]) (fun _ k => XS.iloadN X2.here hx rfl (hb hby od_prog_100_m_16_12) rfl  (XS.aloadN X2.here hx rfl (hb hby od_prog_100_m_16_13) rfl rfl k)) ?_
  obtain ⟨T3, X3, e3, st3⟩ := getF X2 hx hZ hown (host := "") (Or.inl (own_h hw 65 rfl)) Via.refl e2 pr1 (g := (mkF m 14 #[rv a1, iv 2] [(.ref a1), (.int 2), (.ref d)])) rfl rfl (hb hby od_prog_100_m_16_14)
  refine own_s T3 (mkF m 17 #[rv a1, iv 2] [(.int 4), (.int 2), (.ref d)]) st3 ?_
  refine own_s T3 (mkF m 20 #[rv a1, iv 2] [(.int 10), (.ref d)]) (fun _ k => XS.imul X3.here hx rfl (hb hby od_prog_100_m_16_17) rfl (XS.iconst X3.here hx rfl (hb hby od_prog_100_m_16_18) (XS.iadd X3.here hx rfl (hb hby od_prog_100_m_16_19) rfl k))) ?_
  obtain ⟨cl4, Ar4, q4, S4, Nn4, H4, G4⟩ := id pr2
  have hin4 : ¬ ((10 : Int32) < 0 ∨ cl4.slots.size ≤ ((10 : Int32)).toNatClampNeg) := (inb_of S4 ⟨by decide, hz10⟩)
  refine own_s T3 (mkF m 25 #[rv a1, iv 2] [(.ref x)]) (fun _ k => X3.aaload hx (j := (10 : Int32)) (v := (.ref x)) (own_at e3 Ar4.1) (State.isArrayOf_alike hZ.alike Ar4.2.1) rfl Ar4.2.2 hin4 (Has.at H4 hin4 rfl) (g := (mkF m 20 #[rv a1, iv 2] [(.int 10), (.ref d)])) rfl rfl (hb hby od_prog_100_m_16_20) _ (XS.goto X3.here hx rfl (pc0 := 21) (pc' := 25) rfl (hb hby od_prog_100_m_16_21) (by decide) (by decide) k)) ?_
  exact own_finA X3 hx hret rfl rfl (hb hby od_prog_100_m_16_25) (own_end (Qv := (own_Qgs2_1 Z a1 d kd z v0 v1 v2 v3 v4 v5 v6 v7 v8 v9 x v11 v12 h0 n0)) X3 (own_some hret) hlk (by decide) (by decide) e3 ⟨rfl, N0, rfl⟩)
theorem own_efgl2_1 (m : MethodId) (x0 : Addr) (x1 : Int32) : entryFrame m #[(.ref x0), (.int x1)] 2 = mkF m 0 #[rv x0, iv x1] [] := by first | (simp [entryFrame, mkF, argsToLocals, Value.category]; done) | rfl
def own_Qgl2_1 (Z : State) (a1 : Addr) (d : Addr) (kd : ClassId) (z : Int32) (v0 : Value) (v1 : Value) (v2 : Value) (v3 : Value) (v4 : Value) (v5 : Value) (v6 : Value) (v7 : Value) (v8 : Value) (v9 : Value) (v10 : Value) (x : Addr) (v12 : Value) (h0 : Heap) (n0 : Nat) : Option Value → Heap → List Loc → Prop := fun v h L => v = some (.ref x) ∧ Fr n0 L ∧ h = h0
def own_Rgl2_1 : Room := { frames := 0, cells := 0, slots := 0, locals := 0 }
set_option maxRecDepth 65536 in
set_option maxHeartbeats 40000000 in
theorem own_rmgl2_1 (l : Launch) (Z : State) (a0 : Array Value) (hw : ∀ d ∈ tables_1, d.before a0 Z = true) (ws : List Jvm.Cond) (a1 : Addr) (d : Addr) (kd : ClassId) (z : Int32) (v0 : Value) (v1 : Value) (v2 : Value) (v3 : Value) (v4 : Value) (v5 : Value) (v6 : Value) (v7 : Value) (v8 : Value) (v9 : Value) (v10 : Value) (x : Addr) (v12 : Value) (h0 : Heap) (n0 : Nat) (Z0 : n0 ≤ h0.size) (pr0 : Fld Z h0 a1 "com/example/tagwright/tagwright/XmlElement" "attributes" "[Ljava/lang/String;" (.ref d)) (pr1 : Fld Z h0 a1 "com/example/tagwright/tagwright/XmlElement" "stride" "B" (.int 4)) (pr2 : Arv Z h0 d kd (.object "java/lang/String") z [v0, v1, v2, v3, v4, v5, v6, v7, v8, v9, v10, (.ref x), v12] .null) (hz11 : (11 : Int32) < z) :
    own_Met l Z own_y16 prog_100_method_17_code 2 (some (.object "java/lang/String")) ws own_Rgl2_1 h0 #[(.ref a1), (.int 2)] (own_Qgl2_1 Z a1 d kd z v0 v1 v2 v3 v4 v5 v6 v7 v8 v9 v10 x v12 h0 n0) own_Rgl2_1.cells own_Rgl2_1.slots := by
  refine own_start (plainFor_of_name own_pn3) ?_
  intro p e s m below meth c s₁ X0 hx hZ hby hml hret hlk hown hnm e0
  have hown : s.vm.findClass "com/example/tagwright/tagwright/XmlElement" = some m.cls := hown
  have hml : c.maxLocals = 2 := hml
  have N0 := Fr.nil n0
  refine own_cast (own_efgl2_1 m a1 (2 : Int32)) ?_
  refine own_s s₁ (mkF m 1 #[rv a1, iv 2] [(.ref a1)]) (fun _ k => XS.aloadN X0.here hx rfl (hb hby od_prog_100_m_17_0) rfl rfl k) ?_
  obtain ⟨T1, X1, e1, st1⟩ := getF X0 hx hZ hown (host := "") (Or.inl (own_h hw 60 rfl)) Via.refl e0 pr0 (g := (mkF m 1 #[rv a1, iv 2] [(.ref a1)])) rfl rfl (hb hby od_prog_100_m_17_1)
  refine own_s T1 (mkF m 4 #[rv a1, iv 2] [(.ref d)]) st1 ?_
  refine own_s T1 (mkF m 6 #[rv a1, iv 2] [(.ref a1), (.int 2), (.ref d)]) (fun _ k => XS.iloadN X1.here hx rfl (hb hby od_prog_100_m_17_4) rfl  (XS.aloadN X1.here hx rfl (hb hby od_prog_100_m_17_5) rfl rfl k)) ?_
  obtain ⟨T2, X2, e2, st2⟩ := getF X1 hx hZ hown (host := "") (Or.inl (own_h hw 65 rfl)) Via.refl e1 pr1 (g := (mkF m 6 #[rv a1, iv 2] [(.ref a1), (.int 2), (.ref d)])) rfl rfl (hb hby od_prog_100_m_17_6)
  refine own_s T2 (mkF m 9 #[rv a1, iv 2] [(.int 4), (.int 2), (.ref d)]) st2 ?_
  refine own_s T2 (mkF m 11 #[rv a1, iv 2] [(.ref a1), (.int 8), (.ref d)]) (fun _ k => XS.imul X2.here hx rfl (hb hby od_prog_100_m_17_9) rfl (XS.aloadN X2.here hx rfl (hb hby od_prog_100_m_17_10) rfl rfl k)) ?_
  obtain ⟨T3, X3, e3, st3⟩ := getF X2 hx hZ hown (host := "") (Or.inl (own_h hw 65 rfl)) Via.refl e2 pr1 (g := (mkF m 11 #[rv a1, iv 2] [(.ref a1), (.int 8), (.ref d)])) rfl rfl (hb hby od_prog_100_m_17_11)
  refine own_s T3 (mkF m 14 #[rv a1, iv 2] [(.int 4), (.int 8), (.ref d)]) st3 ?_
  refine own_s T3 (mkF m 24 #[rv a1, iv 2] [(.int 11), (.ref d)]) (fun _ k => XS.iconst X3.here hx rfl (hb hby od_prog_100_m_17_14) (XS.icmpNo X3.here hx rfl (hb hby od_prog_100_m_17_15) rfl (teq (by decide : ((4 : Int32) = (4 : Int32)))).2 (XS.iconst X3.here hx rfl (hb hby od_prog_100_m_17_18) (XS.goto X3.here hx rfl (pc0 := 19) (pc' := 23) rfl (hb hby od_prog_100_m_17_19) (by decide) (by decide) (XS.iadd X3.here hx rfl (hb hby od_prog_100_m_17_23) rfl k))))) ?_
  obtain ⟨cl4, Ar4, q4, S4, Nn4, H4, G4⟩ := id pr2
  have hin4 : ¬ ((11 : Int32) < 0 ∨ cl4.slots.size ≤ ((11 : Int32)).toNatClampNeg) := (inb_of S4 ⟨by decide, hz11⟩)
  refine own_s T3 (mkF m 25 #[rv a1, iv 2] [(.ref x)]) (fun _ k => X3.aaload hx (j := (11 : Int32)) (v := (.ref x)) (own_at e3 Ar4.1) (State.isArrayOf_alike hZ.alike Ar4.2.1) rfl Ar4.2.2 hin4 (Has.at H4 hin4 rfl) (g := (mkF m 24 #[rv a1, iv 2] [(.int 11), (.ref d)])) rfl rfl (hb hby od_prog_100_m_17_24) _ k) ?_
  exact own_finA X3 hx hret rfl rfl (hb hby od_prog_100_m_17_25) (own_end (Qv := (own_Qgl2_1 Z a1 d kd z v0 v1 v2 v3 v4 v5 v6 v7 v8 v9 v10 x v12 h0 n0)) X3 (own_some hret) hlk (by decide) (by decide) e3 ⟨rfl, N0, rfl⟩)
theorem own_efchk2_1 (m : MethodId) (x0 : Addr) (x1 : Int32) (x2 : Int32) (x3 : Int32) (x4 : Int32) (x5 : Int32) (x6 : Int32) : entryFrame m #[(.ref x0), (.int x1), (.int x2), (.int x3), (.int x4), (.int x5), (.int x6)] 9 = mkF m 0 #[rv x0, iv x1, iv x2, iv x3, iv x4, iv x5, iv x6, u_, u_] [] := by first | (simp [entryFrame, mkF, argsToLocals, Value.category]; done) | rfl
def own_Qchk2_1 (Z : State) (a1 : Addr) (p4 : Int32) (p5 : Int32) (p6 : Int32) (p7 : Int32) (d : Addr) (kd : ClassId) (z : Int32) (v0 : Value) (v1 : Value) (v2 : Value) (v3 : Value) (v4 : Value) (v5 : Value) (v6 : Value) (v7 : Value) (sn : Addr) (sv : Addr) (ss : Addr) (sl : Addr) (v12 : Value) (bn : Addr) (kn : ClassId) (bv : Addr) (kv : ClassId) (bs : Addr) (ks : ClassId) (bl : Addr) (kl : ClassId) (gC : Int32) (h0 : Heap) (n0 : Nat) : Option Value → Heap → List Loc → Prop := fun v h L => v = some (.int 1) ∧ Fr n0 L ∧ Keep h0 h []
def own_Rchk2_1 : Room := { frames := 4, cells := 8, slots := 20, locals := 52 }
set_option maxRecDepth 65536 in
set_option maxHeartbeats 40000000 in
theorem own_rmchk2_1 (l : Launch) (Z : State) (a0 : Array Value) (hw : ∀ d ∈ tables_1, d.before a0 Z = true) (ws : List Jvm.Cond) (a1 : Addr) (p4 : Int32) (p5 : Int32) (p6 : Int32) (p7 : Int32) (d : Addr) (kd : ClassId) (z : Int32) (v0 : Value) (v1 : Value) (v2 : Value) (v3 : Value) (v4 : Value) (v5 : Value) (v6 : Value) (v7 : Value) (sn : Addr) (sv : Addr) (ss : Addr) (sl : Addr) (v12 : Value) (bn : Addr) (kn : ClassId) (bv : Addr) (kv : ClassId) (bs : Addr) (ks : ClassId) (bl : Addr) (kl : ClassId) (gC : Int32) (h0 : Heap) (n0 : Nat) (Z0 : n0 ≤ h0.size) (pr0 : Exa Z h0 a1 "com/example/tagwright/tagwright/XmlElement") (pr1 : Fld Z h0 a1 "com/example/tagwright/tagwright/XmlElement" "attributes" "[Ljava/lang/String;" (.ref d)) (pr2 : Fld Z h0 a1 "com/example/tagwright/tagwright/XmlElement" "stride" "B" (.int 4)) (pr3 : Arv Z h0 d kd (.object "java/lang/String") z [v0, v1, v2, v3, v4, v5, v6, v7, (.ref sn), (.ref sv), (.ref ss), (.ref sl), v12] .null) (pr4 : Exa Z h0 sn "java/lang/String") (pr5 : Fld Z h0 sn "java/lang/String" "coder" "B" (.int 0)) (pr6 : Fld Z h0 sn "java/lang/String" "value" "[B" (.ref bn)) (pr7 : Arv Z h0 bn kn .byte (1 : Int32) [(.int (own_by (own_chr p4 (2 : Int32))))] (.int 0)) (pr8 : Exa Z h0 sv "java/lang/String") (pr9 : Fld Z h0 sv "java/lang/String" "coder" "B" (.int 0)) (pr10 : Fld Z h0 sv "java/lang/String" "value" "[B" (.ref bv)) (pr11 : Arv Z h0 bv kv .byte (1 : Int32) [(.int (own_by (own_chr p5 (2 : Int32))))] (.int 0)) (pr12 : Exa Z h0 ss "java/lang/String") (pr13 : Fld Z h0 ss "java/lang/String" "coder" "B" (.int 0)) (pr14 : Fld Z h0 ss "java/lang/String" "value" "[B" (.ref bs)) (pr15 : Arv Z h0 bs ks .byte (1 : Int32) [(.int (own_by (own_chr p7 (2 : Int32))))] (.int 0)) (pr16 : Exa Z h0 sl "java/lang/String") (pr17 : Fld Z h0 sl "java/lang/String" "coder" "B" (.int 0)) (pr18 : Fld Z h0 sl "java/lang/String" "value" "[B" (.ref bl)) (pr19 : Arv Z h0 bl kl .byte (1 : Int32) [(.int (own_by (own_chr p6 (2 : Int32))))] (.int 0)) (pr20 : Sta Z h0 "java/lang/String" "COMPACT_STRINGS" "Z" (.int gC)) (hG : ¬ gC = (0 : Int32)) (hz8 : (8 : Int32) < z) (hz9 : (9 : Int32) < z) (hz10 : (10 : Int32) < z) (hz11 : (11 : Int32) < z) :
    own_Met l Z own_y17 method_5_code 9 (some .boolean) ws own_Rchk2_1 h0 #[(.ref a1), (.int 2), (.int 1), (.int p4), (.int p5), (.int p6), (.int p7)] (own_Qchk2_1 Z a1 p4 p5 p6 p7 d kd z v0 v1 v2 v3 v4 v5 v6 v7 sn sv ss sl v12 bn kn bv kv bs ks bl kl gC h0 n0) own_Rchk2_1.cells own_Rchk2_1.slots := by
  refine own_start (plainFor_of_name own_pn2) ?_
  intro p e s m below meth c s₁ X0 hx hZ hby hml hret hlk hown hnm e0
  have hown : s.vm.findClass "com/example/tagwright/tagwright/XmlElementNewAttributesPinLaw" = some m.cls := hown
  have hml : c.maxLocals = 9 := hml
  have N0 := Fr.nil n0
  refine own_cast (own_efchk2_1 m a1 (2 : Int32) (1 : Int32) p4 p5 p6 p7) ?_
  refine own_s s₁ (mkF m 2 #[rv a1, iv 2, iv 1, iv p4, iv p5, iv p6, iv p7, u_, u_] [(.int 2), (.int p4)]) (fun _ k => XS.iloadN X0.here hx rfl (hb hby od_m_5_0) rfl  (XS.iloadN X0.here hx rfl (hb hby od_m_5_1) rfl  k)) ?_
  obtain ⟨v1, T1, L1, X1, hQ1, st1⟩ := own_callS X0 hx hZ (y := own_y4) (W := 0) hown (own_h hw 82 rfl) (own_h hw 83 rfl) (own_h hw 80 rfl) (own_h hw 84 rfl) (by decide) (own_rmstr l Z a0 hw [] p4 (2 : Int32) gC h0 n0 Z0 pr20 hG) (by decide) (by decide) (g := (mkF m 2 #[rv a1, iv 2, iv 1, iv p4, iv p5, iv p6, iv p7, u_, u_] [(.int 2), (.int p4)])) rfl (by rw [hml]; rfl) (argsL := [(.int p4), (.int 2)]) (rest := []) rfl (lenOf own_pd6 rfl) rfl (by show 2 * 0 + _ ≤ _; exact Nat.le_of_eq rfl) (hb hby od_m_5_2) e0 (by decide) (by decide)
  obtain ⟨za1, zb1, zk1, rfl, Nq1, Kq1, g_za1, sq_za1, g_zb1, sq_zb1, q1_0, q1_1, q1_2, q1_3⟩ := hQ1
  have N1 := Fr.app N0 Nq1
  have sz_za1 : h0.size ≤ za1 := Nat.le_trans (Keep.refl h0 []).1 sq_za1
  have sz_zb1 : h0.size ≤ zb1 := Nat.le_trans (Keep.refl h0 []).1 sq_zb1
  have f2 := pr0.keep Kq1
  have f3 := pr1.keep Kq1 nin0
  have f4 := pr2.keep Kq1 nin0
  have f5 := pr3.keep Kq1 nin0
  have f6 := pr4.keep Kq1
  have f7 := pr5.keep Kq1 nin0
  have f8 := pr6.keep Kq1 nin0
  have f9 := pr7.keep Kq1 nin0
  have f10 := pr8.keep Kq1
  have f11 := pr9.keep Kq1 nin0
  have f12 := pr10.keep Kq1 nin0
  have f13 := pr11.keep Kq1 nin0
  have f14 := pr12.keep Kq1
  have f15 := pr13.keep Kq1 nin0
  have f16 := pr14.keep Kq1 nin0
  have f17 := pr15.keep Kq1 nin0
  have f18 := pr16.keep Kq1
  have f19 := pr17.keep Kq1 nin0
  have f20 := pr18.keep Kq1 nin0
  have f21 := pr19.keep Kq1 nin0
  have f22 := own_staKeep pr20 Kq1
  have K1 : Keep h0 T1.heap [] := (Keep.refl h0 []).trans Kq1 all0
  have Z1 := Nat.le_trans Z0 Kq1.1
  refine own_s T1 (mkF m 5 #[rv a1, iv 2, iv 1, iv p4, iv p5, iv p6, iv p7, u_, u_] [(.ref za1)]) st1 ?_
  refine own_s T1 (mkF m 10 #[rv a1, iv 2, iv 1, iv p4, iv p5, iv p6, iv p7, rv za1, u_] [(.int 2), (.int p5)]) (fun _ k => XS.astore X1.here hx rfl (hb hby od_m_5_5) rfl rfl (l' := #[rv a1, iv 2, iv 1, iv p4, iv p5, iv p6, iv p7, rv za1, u_]) rfl (XS.iload X1.here hx rfl (hb hby od_m_5_7) rfl  (XS.iloadN X1.here hx rfl (hb hby od_m_5_9) rfl  k))) ?_
  obtain ⟨v23, T23, L23, X23, hQ23, st23⟩ := own_callS X1 hx hZ (y := own_y4) (W := 0) hown (own_h hw 82 rfl) (own_h hw 83 rfl) (own_h hw 80 rfl) (own_h hw 84 rfl) (by decide) (own_rmstr l Z a0 hw [] p5 (2 : Int32) gC T1.heap n0 Z1 f22 hG) (by decide) (by decide) (g := (mkF m 10 #[rv a1, iv 2, iv 1, iv p4, iv p5, iv p6, iv p7, rv za1, u_] [(.int 2), (.int p5)])) rfl (by rw [hml]; rfl) (argsL := [(.int p5), (.int 2)]) (rest := []) rfl (lenOf own_pd6 rfl) rfl (by show 2 * 0 + _ ≤ _; exact Nat.le_of_eq rfl) (hb hby od_m_5_10) rfl (by decide) (by decide)
  obtain ⟨za23, zb23, zk23, rfl, Nq23, Kq23, g_za23, sq_za23, g_zb23, sq_zb23, q23_0, q23_1, q23_2, q23_3⟩ := hQ23
  have N23 := Fr.app N1 Nq23
  have sz_za23 : h0.size ≤ za23 := Nat.le_trans K1.1 sq_za23
  have sz_zb23 : h0.size ≤ zb23 := Nat.le_trans K1.1 sq_zb23
  have f24 := f2.keep Kq23
  have f25 := f3.keep Kq23 nin0
  have f26 := f4.keep Kq23 nin0
  have f27 := f5.keep Kq23 nin0
  have f28 := f6.keep Kq23
  have f29 := f7.keep Kq23 nin0
  have f30 := f8.keep Kq23 nin0
  have f31 := f9.keep Kq23 nin0
  have f32 := f10.keep Kq23
  have f33 := f11.keep Kq23 nin0
  have f34 := f12.keep Kq23 nin0
  have f35 := f13.keep Kq23 nin0
  have f36 := f14.keep Kq23
  have f37 := f15.keep Kq23 nin0
  have f38 := f16.keep Kq23 nin0
  have f39 := f17.keep Kq23 nin0
  have f40 := f18.keep Kq23
  have f41 := f19.keep Kq23 nin0
  have f42 := f20.keep Kq23 nin0
  have f43 := f21.keep Kq23 nin0
  have f44 := own_staKeep f22 Kq23
  have f45 := q1_0.keep Kq23
  have f46 := q1_1.keep Kq23 nin0
  have f47 := q1_2.keep Kq23 nin0
  have f48 := q1_3.keep Kq23 nin0
  have K23 : Keep h0 T23.heap [] := K1.trans Kq23 all0
  have Z23 := Nat.le_trans Z1 Kq23.1
  refine own_s T23 (mkF m 13 #[rv a1, iv 2, iv 1, iv p4, iv p5, iv p6, iv p7, rv za1, u_] [(.ref za23)]) st23 ?_
  refine own_s T23 (mkF m 19 #[rv a1, iv 2, iv 1, iv p4, iv p5, iv p6, iv p7, rv za1, rv za23] [(.int 2), (.ref a1), (.ref za1)]) (fun _ k => XS.astore X23.here hx rfl (hb hby od_m_5_13) rfl rfl (l' := #[rv a1, iv 2, iv 1, iv p4, iv p5, iv p6, iv p7, rv za1, rv za23]) rfl (XS.aload X23.here hx rfl (hb hby od_m_5_15) rfl rfl (XS.aloadN X23.here hx rfl (hb hby od_m_5_17) rfl rfl (XS.iloadN X23.here hx rfl (hb hby od_m_5_18) rfl  k)))) ?_
  obtain ⟨v49, T49, L49, X49, hQ49, st49⟩ := own_callV X23 hx hZ (y := own_y14) (z := own_y14) (W := 1) (a := a1) hown (own_h hw 115 rfl) (own_h hw 116 rfl) (notFace_of_selects (args := #[]) (mvT hZ (own_h hw 118 rfl))) (own_h hw 118 rfl) (own_h hw 117 rfl) (own_h hw 2 rfl) (own_h hw 119 rfl) (by decide) (own_rmgn2_1 l Z a0 hw [] a1 d kd z v0 v1 v2 v3 v4 v5 v6 v7 sn (.ref sv) (.ref ss) (.ref sl) v12 T23.heap n0 Z23 f25 f26 f27 hz8) (by decide) (by decide) f24 (g := (mkF m 19 #[rv a1, iv 2, iv 1, iv p4, iv p5, iv p6, iv p7, rv za1, rv za23] [(.int 2), (.ref a1), (.ref za1)])) rfl (by rw [hml]; rfl) (argsL := [(.int 2)]) (rest := [(.ref za1)]) rfl (lenOf own_pd9 rfl) rfl (by show 2 * 0 + _ ≤ _; exact Nat.le_of_eq rfl) (hb hby od_m_5_19) rfl (by decide) (by decide)
  obtain ⟨rfl, Nq49, e49⟩ := hQ49
  have N49 := Fr.app N23 Nq49
  refine own_s T49 (mkF m 22 #[rv a1, iv 2, iv 1, iv p4, iv p5, iv p6, iv p7, rv za1, rv za23] [(.ref sn), (.ref za1)]) st49 ?_
  obtain ⟨v50, T50, L50, X50, hQ50, st50⟩ := own_callV X49 hx hZ (y := own_y6) (z := own_y6) (W := 0) (a := za1) hown (own_h hw 120 rfl) (own_h hw 108 rfl) (notFace_of_selects (args := #[]) (mvT hZ (own_h hw 110 rfl))) (own_h hw 110 rfl) (own_h hw 109 rfl) (own_h hw 9 rfl) (own_h hw 111 rfl) (by decide) (own_rmeqD l Z a0 hw [] za1 sn zb1 zk1 (own_by (own_chr p4 (2 : Int32))) bn kn gC T23.heap n0 Z23 f45 f46 f47 f48 f28 f29 f30 f31 f44 hG (Ne.symm (own_nl pr4.lt sq_za1))) (by decide) (by decide) f45 (g := (mkF m 22 #[rv a1, iv 2, iv 1, iv p4, iv p5, iv p6, iv p7, rv za1, rv za23] [(.ref sn), (.ref za1)])) rfl (by rw [hml]; rfl) (argsL := [(.ref sn)]) (rest := []) rfl (lenOf own_pd8 rfl) rfl (by show 2 * 0 + _ ≤ _; exact Nat.le_of_eq rfl) (hb hby od_m_5_22) e49 (by decide) (by decide)
  obtain ⟨rfl, Nq50, e50⟩ := hQ50
  have N50 := Fr.app N49 Nq50
  refine own_s T50 (mkF m 25 #[rv a1, iv 2, iv 1, iv p4, iv p5, iv p6, iv p7, rv za1, rv za23] [(.int 1)]) st50 ?_
  refine own_s T50 (mkF m 32 #[rv a1, iv 2, iv 1, iv p4, iv p5, iv p6, iv p7, rv za1, rv za23] [(.int 2), (.ref a1), (.ref za23)]) (fun _ k => XS.ifNo X50.here hx rfl (hb hby od_m_5_25) rfl ((if0 _ _).trans (feq (by decide : ¬ ((1 : Int32) = (0 : Int32)))).1) (XS.aload X50.here hx rfl (hb hby od_m_5_28) rfl rfl (XS.aloadN X50.here hx rfl (hb hby od_m_5_30) rfl rfl (XS.iloadN X50.here hx rfl (hb hby od_m_5_31) rfl  k)))) ?_
  obtain ⟨v51, T51, L51, X51, hQ51, st51⟩ := own_callV X50 hx hZ (y := own_y15) (z := own_y15) (W := 1) (a := a1) hown (own_h hw 124 rfl) (own_h hw 125 rfl) (notFace_of_selects (args := #[]) (mvT hZ (own_h hw 127 rfl))) (own_h hw 127 rfl) (own_h hw 126 rfl) (own_h hw 2 rfl) (own_h hw 128 rfl) (by decide) (own_rmgv2_1 l Z a0 hw [] a1 d kd z v0 v1 v2 v3 v4 v5 v6 v7 (.ref sn) sv (.ref ss) (.ref sl) v12 T23.heap n0 Z23 f25 f26 f27 hz9) (by decide) (by decide) f24 (g := (mkF m 32 #[rv a1, iv 2, iv 1, iv p4, iv p5, iv p6, iv p7, rv za1, rv za23] [(.int 2), (.ref a1), (.ref za23)])) rfl (by rw [hml]; rfl) (argsL := [(.int 2)]) (rest := [(.ref za23)]) rfl (lenOf own_pd9 rfl) rfl (by show 2 * 0 + _ ≤ _; exact Nat.le_of_eq rfl) (hb hby od_m_5_32) e50 (by decide) (by decide)
  obtain ⟨rfl, Nq51, e51⟩ := hQ51
  have N51 := Fr.app N50 Nq51
  refine own_s T51 (mkF m 35 #[rv a1, iv 2, iv 1, iv p4, iv p5, iv p6, iv p7, rv za1, rv za23] [(.ref sv), (.ref za23)]) st51 ?_
  obtain ⟨v52, T52, L52, X52, hQ52, st52⟩ := own_callV X51 hx hZ (y := own_y6) (z := own_y6) (W := 0) (a := za23) hown (own_h hw 120 rfl) (own_h hw 108 rfl) (notFace_of_selects (args := #[]) (mvT hZ (own_h hw 110 rfl))) (own_h hw 110 rfl) (own_h hw 109 rfl) (own_h hw 9 rfl) (own_h hw 111 rfl) (by decide) (own_rmeqD l Z a0 hw [] za23 sv zb23 zk23 (own_by (own_chr p5 (2 : Int32))) bv kv gC T23.heap n0 Z23 q23_0 q23_1 q23_2 q23_3 f32 f33 f34 f35 f44 hG (Ne.symm (own_nl f10.lt sq_za23))) (by decide) (by decide) q23_0 (g := (mkF m 35 #[rv a1, iv 2, iv 1, iv p4, iv p5, iv p6, iv p7, rv za1, rv za23] [(.ref sv), (.ref za23)])) rfl (by rw [hml]; rfl) (argsL := [(.ref sv)]) (rest := []) rfl (lenOf own_pd8 rfl) rfl (by show 2 * 0 + _ ≤ _; exact Nat.le_of_eq rfl) (hb hby od_m_5_35) e51 (by decide) (by decide)
  obtain ⟨rfl, Nq52, e52⟩ := hQ52
  have N52 := Fr.app N51 Nq52
  refine own_s T52 (mkF m 38 #[rv a1, iv 2, iv 1, iv p4, iv p5, iv p6, iv p7, rv za1, rv za23] [(.int 1)]) st52 ?_
  refine own_s T52 (mkF m 50 #[rv a1, iv 2, iv 1, iv p4, iv p5, iv p6, iv p7, rv za1, rv za23] [(.int 2), (.int p7)]) (fun _ k => XS.ifYes X52.here hx rfl (pc0 := 38) (pc' := 43) rfl (hb hby od_m_5_38) rfl ((if0 _ _).trans (feq (by decide : ¬ ((1 : Int32) = (0 : Int32)))).2) (by decide) (by decide) (XS.iloadN X52.here hx rfl (hb hby od_m_5_43) rfl  (XS.ifNo X52.here hx rfl (hb hby od_m_5_44) rfl ((if0 _ _).trans (feq (by decide : ¬ ((1 : Int32) = (0 : Int32)))).1) (XS.iload X52.here hx rfl (hb hby od_m_5_47) rfl  (XS.iloadN X52.here hx rfl (hb hby od_m_5_49) rfl  k))))) ?_
  obtain ⟨v53, T53, L53, X53, hQ53, st53⟩ := own_callS X52 hx hZ (y := own_y4) (W := 0) hown (own_h hw 82 rfl) (own_h hw 83 rfl) (own_h hw 80 rfl) (own_h hw 84 rfl) (by decide) (own_rmstr l Z a0 hw [] p7 (2 : Int32) gC T23.heap n0 Z23 f44 hG) (by decide) (by decide) (g := (mkF m 50 #[rv a1, iv 2, iv 1, iv p4, iv p5, iv p6, iv p7, rv za1, rv za23] [(.int 2), (.int p7)])) rfl (by rw [hml]; rfl) (argsL := [(.int p7), (.int 2)]) (rest := []) rfl (lenOf own_pd6 rfl) rfl (by show 2 * 0 + _ ≤ _; exact Nat.le_of_eq rfl) (hb hby od_m_5_50) e52 (by decide) (by decide)
  obtain ⟨za53, zb53, zk53, rfl, Nq53, Kq53, g_za53, sq_za53, g_zb53, sq_zb53, q53_0, q53_1, q53_2, q53_3⟩ := hQ53
  have N53 := Fr.app N52 Nq53
  have sz_za53 : h0.size ≤ za53 := Nat.le_trans K23.1 sq_za53
  have sz_zb53 : h0.size ≤ zb53 := Nat.le_trans K23.1 sq_zb53
  have f54 := f24.keep Kq53
  have f55 := f25.keep Kq53 nin0
  have f56 := f26.keep Kq53 nin0
  have f57 := f27.keep Kq53 nin0
  have f58 := f28.keep Kq53
  have f59 := f29.keep Kq53 nin0
  have f60 := f30.keep Kq53 nin0
  have f61 := f31.keep Kq53 nin0
  have f62 := f32.keep Kq53
  have f63 := f33.keep Kq53 nin0
  have f64 := f34.keep Kq53 nin0
  have f65 := f35.keep Kq53 nin0
  have f66 := f36.keep Kq53
  have f67 := f37.keep Kq53 nin0
  have f68 := f38.keep Kq53 nin0
  have f69 := f39.keep Kq53 nin0
  have f70 := f40.keep Kq53
  have f71 := f41.keep Kq53 nin0
  have f72 := f42.keep Kq53 nin0
  have f73 := f43.keep Kq53 nin0
  have f74 := own_staKeep f44 Kq53
  have f75 := f45.keep Kq53
  have f76 := f46.keep Kq53 nin0
  have f77 := f47.keep Kq53 nin0
  have f78 := f48.keep Kq53 nin0
  have f79 := q23_0.keep Kq53
  have f80 := q23_1.keep Kq53 nin0
  have f81 := q23_2.keep Kq53 nin0
  have f82 := q23_3.keep Kq53 nin0
  have K53 : Keep h0 T53.heap [] := K23.trans Kq53 all0
  have Z53 := Nat.le_trans Z23 Kq53.1
  refine own_s T53 (mkF m 53 #[rv a1, iv 2, iv 1, iv p4, iv p5, iv p6, iv p7, rv za1, rv za23] [(.ref za53)]) st53 ?_
  refine own_s T53 (mkF m 55 #[rv a1, iv 2, iv 1, iv p4, iv p5, iv p6, iv p7, rv za1, rv za23] [(.int 2), (.ref a1), (.ref za53)]) (fun _ k => XS.aloadN X53.here hx rfl (hb hby od_m_5_53) rfl rfl (XS.iloadN X53.here hx rfl (hb hby od_m_5_54) rfl  k)) ?_
  obtain ⟨v83, T83, L83, X83, hQ83, st83⟩ := own_callV X53 hx hZ (y := own_y13) (z := own_y13) (W := 1) (a := a1) hown (own_h hw 129 rfl) (own_h hw 130 rfl) (notFace_of_selects (args := #[]) (mvT hZ (own_h hw 132 rfl))) (own_h hw 132 rfl) (own_h hw 131 rfl) (own_h hw 2 rfl) (own_h hw 133 rfl) (by decide) (own_rmgs2_1 l Z a0 hw [] a1 d kd z v0 v1 v2 v3 v4 v5 v6 v7 (.ref sn) (.ref sv) ss (.ref sl) v12 T53.heap n0 Z53 f55 f56 f57 hz10) (by decide) (by decide) f54 (g := (mkF m 55 #[rv a1, iv 2, iv 1, iv p4, iv p5, iv p6, iv p7, rv za1, rv za23] [(.int 2), (.ref a1), (.ref za53)])) rfl (by rw [hml]; rfl) (argsL := [(.int 2)]) (rest := [(.ref za53)]) rfl (lenOf own_pd9 rfl) rfl (by show 2 * 0 + _ ≤ _; exact Nat.le_of_eq rfl) (hb hby od_m_5_55) rfl (by decide) (by decide)
  obtain ⟨rfl, Nq83, e83⟩ := hQ83
  have N83 := Fr.app N53 Nq83
  refine own_s T83 (mkF m 58 #[rv a1, iv 2, iv 1, iv p4, iv p5, iv p6, iv p7, rv za1, rv za23] [(.ref ss), (.ref za53)]) st83 ?_
  obtain ⟨v84, T84, L84, X84, hQ84, st84⟩ := own_callV X83 hx hZ (y := own_y6) (z := own_y6) (W := 0) (a := za53) hown (own_h hw 120 rfl) (own_h hw 108 rfl) (notFace_of_selects (args := #[]) (mvT hZ (own_h hw 110 rfl))) (own_h hw 110 rfl) (own_h hw 109 rfl) (own_h hw 9 rfl) (own_h hw 111 rfl) (by decide) (own_rmeqD l Z a0 hw [] za53 ss zb53 zk53 (own_by (own_chr p7 (2 : Int32))) bs ks gC T53.heap n0 Z53 q53_0 q53_1 q53_2 q53_3 f66 f67 f68 f69 f74 hG (Ne.symm (own_nl f36.lt sq_za53))) (by decide) (by decide) q53_0 (g := (mkF m 58 #[rv a1, iv 2, iv 1, iv p4, iv p5, iv p6, iv p7, rv za1, rv za23] [(.ref ss), (.ref za53)])) rfl (by rw [hml]; rfl) (argsL := [(.ref ss)]) (rest := []) rfl (lenOf own_pd8 rfl) rfl (by show 2 * 0 + _ ≤ _; exact Nat.le_of_eq rfl) (hb hby od_m_5_58) e83 (by decide) (by decide)
  obtain ⟨rfl, Nq84, e84⟩ := hQ84
  have N84 := Fr.app N83 Nq84
  refine own_s T84 (mkF m 61 #[rv a1, iv 2, iv 1, iv p4, iv p5, iv p6, iv p7, rv za1, rv za23] [(.int 1)]) st84 ?_
  refine own_s T84 (mkF m 67 #[rv a1, iv 2, iv 1, iv p4, iv p5, iv p6, iv p7, rv za1, rv za23] [(.int 2), (.int p6)]) (fun _ k => XS.ifNo X84.here hx rfl (hb hby od_m_5_61) rfl ((if0 _ _).trans (feq (by decide : ¬ ((1 : Int32) = (0 : Int32)))).1) (XS.iload X84.here hx rfl (hb hby od_m_5_64) rfl  (XS.iloadN X84.here hx rfl (hb hby od_m_5_66) rfl  k))) ?_
  obtain ⟨v85, T85, L85, X85, hQ85, st85⟩ := own_callS X84 hx hZ (y := own_y4) (W := 0) hown (own_h hw 82 rfl) (own_h hw 83 rfl) (own_h hw 80 rfl) (own_h hw 84 rfl) (by decide) (own_rmstr l Z a0 hw [] p6 (2 : Int32) gC T53.heap n0 Z53 f74 hG) (by decide) (by decide) (g := (mkF m 67 #[rv a1, iv 2, iv 1, iv p4, iv p5, iv p6, iv p7, rv za1, rv za23] [(.int 2), (.int p6)])) rfl (by rw [hml]; rfl) (argsL := [(.int p6), (.int 2)]) (rest := []) rfl (lenOf own_pd6 rfl) rfl (by show 2 * 0 + _ ≤ _; exact Nat.le_of_eq rfl) (hb hby od_m_5_67) e84 (by decide) (by decide)
  obtain ⟨za85, zb85, zk85, rfl, Nq85, Kq85, g_za85, sq_za85, g_zb85, sq_zb85, q85_0, q85_1, q85_2, q85_3⟩ := hQ85
  have N85 := Fr.app N84 Nq85
  have sz_za85 : h0.size ≤ za85 := Nat.le_trans K53.1 sq_za85
  have sz_zb85 : h0.size ≤ zb85 := Nat.le_trans K53.1 sq_zb85
  have f86 := f54.keep Kq85
  have f87 := f55.keep Kq85 nin0
  have f88 := f56.keep Kq85 nin0
  have f89 := f57.keep Kq85 nin0
  have f90 := f58.keep Kq85
  have f91 := f59.keep Kq85 nin0
  have f92 := f60.keep Kq85 nin0
  have f93 := f61.keep Kq85 nin0
  have f94 := f62.keep Kq85
  have f95 := f63.keep Kq85 nin0
  have f96 := f64.keep Kq85 nin0
  have f97 := f65.keep Kq85 nin0
  have f98 := f66.keep Kq85
  have f99 := f67.keep Kq85 nin0
  have f100 := f68.keep Kq85 nin0
  have f101 := f69.keep Kq85 nin0
  have f102 := f70.keep Kq85
  have f103 := f71.keep Kq85 nin0
  have f104 := f72.keep Kq85 nin0
  have f105 := f73.keep Kq85 nin0
  have f106 := own_staKeep f74 Kq85
  have f107 := f75.keep Kq85
  have f108 := f76.keep Kq85 nin0
  have f109 := f77.keep Kq85 nin0
  have f110 := f78.keep Kq85 nin0
  have f111 := f79.keep Kq85
  have f112 := f80.keep Kq85 nin0
  have f113 := f81.keep Kq85 nin0
  have f114 := f82.keep Kq85 nin0
  have f115 := q53_0.keep Kq85
  have f116 := q53_1.keep Kq85 nin0
  have f117 := q53_2.keep Kq85 nin0
  have f118 := q53_3.keep Kq85 nin0
  have K85 : Keep h0 T85.heap [] := K53.trans Kq85 all0
  have Z85 := Nat.le_trans Z53 Kq85.1
  refine own_s T85 (mkF m 70 #[rv a1, iv 2, iv 1, iv p4, iv p5, iv p6, iv p7, rv za1, rv za23] [(.ref za85)]) st85 ?_
  refine own_s T85 (mkF m 72 #[rv a1, iv 2, iv 1, iv p4, iv p5, iv p6, iv p7, rv za1, rv za23] [(.int 2), (.ref a1), (.ref za85)]) (fun _ k => XS.aloadN X85.here hx rfl (hb hby od_m_5_70) rfl rfl (XS.iloadN X85.here hx rfl (hb hby od_m_5_71) rfl  k)) ?_
  obtain ⟨v119, T119, L119, X119, hQ119, st119⟩ := own_callV X85 hx hZ (y := own_y16) (z := own_y16) (W := 1) (a := a1) hown (own_h hw 134 rfl) (own_h hw 135 rfl) (notFace_of_selects (args := #[]) (mvT hZ (own_h hw 137 rfl))) (own_h hw 137 rfl) (own_h hw 136 rfl) (own_h hw 2 rfl) (own_h hw 138 rfl) (by decide) (own_rmgl2_1 l Z a0 hw [] a1 d kd z v0 v1 v2 v3 v4 v5 v6 v7 (.ref sn) (.ref sv) (.ref ss) sl v12 T85.heap n0 Z85 f87 f88 f89 hz11) (by decide) (by decide) f86 (g := (mkF m 72 #[rv a1, iv 2, iv 1, iv p4, iv p5, iv p6, iv p7, rv za1, rv za23] [(.int 2), (.ref a1), (.ref za85)])) rfl (by rw [hml]; rfl) (argsL := [(.int 2)]) (rest := [(.ref za85)]) rfl (lenOf own_pd9 rfl) rfl (by show 2 * 0 + _ ≤ _; exact Nat.le_of_eq rfl) (hb hby od_m_5_72) rfl (by decide) (by decide)
  obtain ⟨rfl, Nq119, e119⟩ := hQ119
  have N119 := Fr.app N85 Nq119
  refine own_s T119 (mkF m 75 #[rv a1, iv 2, iv 1, iv p4, iv p5, iv p6, iv p7, rv za1, rv za23] [(.ref sl), (.ref za85)]) st119 ?_
  obtain ⟨v120, T120, L120, X120, hQ120, st120⟩ := own_callV X119 hx hZ (y := own_y6) (z := own_y6) (W := 0) (a := za85) hown (own_h hw 120 rfl) (own_h hw 108 rfl) (notFace_of_selects (args := #[]) (mvT hZ (own_h hw 110 rfl))) (own_h hw 110 rfl) (own_h hw 109 rfl) (own_h hw 9 rfl) (own_h hw 111 rfl) (by decide) (own_rmeqD l Z a0 hw [] za85 sl zb85 zk85 (own_by (own_chr p6 (2 : Int32))) bl kl gC T85.heap n0 Z85 q85_0 q85_1 q85_2 q85_3 f102 f103 f104 f105 f106 hG (Ne.symm (own_nl f70.lt sq_za85))) (by decide) (by decide) q85_0 (g := (mkF m 75 #[rv a1, iv 2, iv 1, iv p4, iv p5, iv p6, iv p7, rv za1, rv za23] [(.ref sl), (.ref za85)])) rfl (by rw [hml]; rfl) (argsL := [(.ref sl)]) (rest := []) rfl (lenOf own_pd8 rfl) rfl (by show 2 * 0 + _ ≤ _; exact Nat.le_of_eq rfl) (hb hby od_m_5_75) e119 (by decide) (by decide)
  obtain ⟨rfl, Nq120, e120⟩ := hQ120
  have N120 := Fr.app N119 Nq120
  refine own_s T120 (mkF m 78 #[rv a1, iv 2, iv 1, iv p4, iv p5, iv p6, iv p7, rv za1, rv za23] [(.int 1)]) st120 ?_
  refine own_s T120 (mkF m 86 #[rv a1, iv 2, iv 1, iv p4, iv p5, iv p6, iv p7, rv za1, rv za23] [(.int 1)]) (fun _ k => XS.ifNo X120.here hx rfl (hb hby od_m_5_78) rfl ((if0 _ _).trans (feq (by decide : ¬ ((1 : Int32) = (0 : Int32)))).1) (XS.iconst X120.here hx rfl (hb hby od_m_5_81) (XS.goto X120.here hx rfl (pc0 := 82) (pc' := 86) rfl (hb hby od_m_5_82) (by decide) (by decide) k))) ?_
  exact own_finZ X120 hx (t := .boolean) hret (by simp) (z' := (1 : Int32)) rfl (hb hby od_m_5_86) (own_end (Qv := (own_Qchk2_1 Z a1 p4 p5 p6 p7 d kd z v0 v1 v2 v3 v4 v5 v6 v7 sn sv ss sl v12 bn kn bv kv bs ks bl kl gC h0 n0)) X120 (own_some hret) hlk (by decide) (by decide) e120 ⟨rfl, N120, K85⟩)
theorem own_efgn0_0 (m : MethodId) (x0 : Addr) (x1 : Int32) : entryFrame m #[(.ref x0), (.int x1)] 2 = mkF m 0 #[rv x0, iv x1] [] := by first | (simp [entryFrame, mkF, argsToLocals, Value.category]; done) | rfl
def own_Qgn0_0 (Z : State) (a1 : Addr) (d : Addr) (kd : ClassId) (z : Int32) (x : Addr) (v1 : Value) (v2 : Value) (v3 : Value) (v4 : Value) (v5 : Value) (v6 : Value) (v7 : Value) (v8 : Value) (v9 : Value) (v10 : Value) (v11 : Value) (v12 : Value) (h0 : Heap) (n0 : Nat) : Option Value → Heap → List Loc → Prop := fun v h L => v = some (.ref x) ∧ Fr n0 L ∧ h = h0
def own_Rgn0_0 : Room := { frames := 0, cells := 0, slots := 0, locals := 0 }
set_option maxRecDepth 65536 in
set_option maxHeartbeats 40000000 in
theorem own_rmgn0_0 (l : Launch) (Z : State) (a0 : Array Value) (hw : ∀ d ∈ tables_1, d.before a0 Z = true) (ws : List Jvm.Cond) (a1 : Addr) (d : Addr) (kd : ClassId) (z : Int32) (x : Addr) (v1 : Value) (v2 : Value) (v3 : Value) (v4 : Value) (v5 : Value) (v6 : Value) (v7 : Value) (v8 : Value) (v9 : Value) (v10 : Value) (v11 : Value) (v12 : Value) (h0 : Heap) (n0 : Nat) (Z0 : n0 ≤ h0.size) (pr0 : Fld Z h0 a1 "com/example/tagwright/tagwright/XmlElement" "attributes" "[Ljava/lang/String;" (.ref d)) (pr1 : Fld Z h0 a1 "com/example/tagwright/tagwright/XmlElement" "stride" "B" (.int 2)) (pr2 : Arv Z h0 d kd (.object "java/lang/String") z [(.ref x), v1, v2, v3, v4, v5, v6, v7, v8, v9, v10, v11, v12] .null) (hz0 : (0 : Int32) < z) :
    own_Met l Z own_y14 prog_100_method_18_code 2 (some (.object "java/lang/String")) ws own_Rgn0_0 h0 #[(.ref a1), (.int 0)] (own_Qgn0_0 Z a1 d kd z x v1 v2 v3 v4 v5 v6 v7 v8 v9 v10 v11 v12 h0 n0) own_Rgn0_0.cells own_Rgn0_0.slots := by
  refine own_start (plainFor_of_name own_pn3) ?_
  intro p e s m below meth c s₁ X0 hx hZ hby hml hret hlk hown hnm e0
  have hown : s.vm.findClass "com/example/tagwright/tagwright/XmlElement" = some m.cls := hown
  have hml : c.maxLocals = 2 := hml
  have N0 := Fr.nil n0
  refine own_cast (own_efgn0_0 m a1 (0 : Int32)) ?_
  refine own_s s₁ (mkF m 1 #[rv a1, iv 0] [(.ref a1)]) (fun _ k => XS.aloadN X0.here hx rfl (hb hby od_prog_100_m_18_0) rfl rfl k) ?_
  obtain ⟨T1, X1, e1, st1⟩ := getF X0 hx hZ hown (host := "") (Or.inl (own_h hw 60 rfl)) Via.refl e0 pr0 (g := (mkF m 1 #[rv a1, iv 0] [(.ref a1)])) rfl rfl (hb hby od_prog_100_m_18_1)
  refine own_s T1 (mkF m 4 #[rv a1, iv 0] [(.ref d)]) st1 ?_
  refine own_s T1 (mkF m 6 #[rv a1, iv 0] [(.ref a1), (.int 0), (.ref d)]) (fun _ k => XS.iloadN X1.here hx rfl (hb hby od_prog_100_m_18_4) rfl  (XS.aloadN X1.here hx rfl (hb hby od_prog_100_m_18_5) rfl rfl k)) ?_
  obtain ⟨T2, X2, e2, st2⟩ := getF X1 hx hZ hown (host := "") (Or.inl (own_h hw 65 rfl)) Via.refl e1 pr1 (g := (mkF m 6 #[rv a1, iv 0] [(.ref a1), (.int 0), (.ref d)])) rfl rfl (hb hby od_prog_100_m_18_6)
  refine own_s T2 (mkF m 9 #[rv a1, iv 0] [(.int 2), (.int 0), (.ref d)]) st2 ?_
  refine own_s T2 (mkF m 12 #[rv a1, iv 0] [(.int 0), (.ref d)]) (fun _ k => XS.imul X2.here hx rfl (hb hby od_prog_100_m_18_9) rfl (XS.iconst X2.here hx rfl (hb hby od_prog_100_m_18_10) (XS.iadd X2.here hx rfl (hb hby od_prog_100_m_18_11) rfl k))) ?_
  obtain ⟨cl3, Ar3, q3, S3, Nn3, H3, G3⟩ := id pr2
  have hin3 : ¬ ((0 : Int32) < 0 ∨ cl3.slots.size ≤ ((0 : Int32)).toNatClampNeg) := (inb_of S3 ⟨by decide, hz0⟩)
  refine own_s T2 (mkF m 13 #[rv a1, iv 0] [(.ref x)]) (fun _ k => X2.aaload hx (j := (0 : Int32)) (v := (.ref x)) (own_at e2 Ar3.1) (State.isArrayOf_alike hZ.alike Ar3.2.1) rfl Ar3.2.2 hin3 (Has.at H3 hin3 rfl) (g := (mkF m 12 #[rv a1, iv 0] [(.int 0), (.ref d)])) rfl rfl (hb hby od_prog_100_m_18_12) _ k) ?_
  exact own_finA X2 hx hret rfl rfl (hb hby od_prog_100_m_18_13) (own_end (Qv := (own_Qgn0_0 Z a1 d kd z x v1 v2 v3 v4 v5 v6 v7 v8 v9 v10 v11 v12 h0 n0)) X2 (own_some hret) hlk (by decide) (by decide) e2 ⟨rfl, N0, rfl⟩)
theorem own_efgv0_0 (m : MethodId) (x0 : Addr) (x1 : Int32) : entryFrame m #[(.ref x0), (.int x1)] 2 = mkF m 0 #[rv x0, iv x1] [] := by first | (simp [entryFrame, mkF, argsToLocals, Value.category]; done) | rfl
def own_Qgv0_0 (Z : State) (a1 : Addr) (d : Addr) (kd : ClassId) (z : Int32) (v0 : Value) (x : Addr) (v2 : Value) (v3 : Value) (v4 : Value) (v5 : Value) (v6 : Value) (v7 : Value) (v8 : Value) (v9 : Value) (v10 : Value) (v11 : Value) (v12 : Value) (h0 : Heap) (n0 : Nat) : Option Value → Heap → List Loc → Prop := fun v h L => v = some (.ref x) ∧ Fr n0 L ∧ h = h0
def own_Rgv0_0 : Room := { frames := 0, cells := 0, slots := 0, locals := 0 }
set_option maxRecDepth 65536 in
set_option maxHeartbeats 40000000 in
theorem own_rmgv0_0 (l : Launch) (Z : State) (a0 : Array Value) (hw : ∀ d ∈ tables_1, d.before a0 Z = true) (ws : List Jvm.Cond) (a1 : Addr) (d : Addr) (kd : ClassId) (z : Int32) (v0 : Value) (x : Addr) (v2 : Value) (v3 : Value) (v4 : Value) (v5 : Value) (v6 : Value) (v7 : Value) (v8 : Value) (v9 : Value) (v10 : Value) (v11 : Value) (v12 : Value) (h0 : Heap) (n0 : Nat) (Z0 : n0 ≤ h0.size) (pr0 : Fld Z h0 a1 "com/example/tagwright/tagwright/XmlElement" "attributes" "[Ljava/lang/String;" (.ref d)) (pr1 : Fld Z h0 a1 "com/example/tagwright/tagwright/XmlElement" "stride" "B" (.int 2)) (pr2 : Arv Z h0 d kd (.object "java/lang/String") z [v0, (.ref x), v2, v3, v4, v5, v6, v7, v8, v9, v10, v11, v12] .null) (hz1 : (1 : Int32) < z) :
    own_Met l Z own_y15 prog_100_method_19_code 2 (some (.object "java/lang/String")) ws own_Rgv0_0 h0 #[(.ref a1), (.int 0)] (own_Qgv0_0 Z a1 d kd z v0 x v2 v3 v4 v5 v6 v7 v8 v9 v10 v11 v12 h0 n0) own_Rgv0_0.cells own_Rgv0_0.slots := by
  refine own_start (plainFor_of_name own_pn3) ?_
  intro p e s m below meth c s₁ X0 hx hZ hby hml hret hlk hown hnm e0
  have hown : s.vm.findClass "com/example/tagwright/tagwright/XmlElement" = some m.cls := hown
  have hml : c.maxLocals = 2 := hml
  have N0 := Fr.nil n0
  refine own_cast (own_efgv0_0 m a1 (0 : Int32)) ?_
  refine own_s s₁ (mkF m 1 #[rv a1, iv 0] [(.ref a1)]) (fun _ k => XS.aloadN X0.here hx rfl (hb hby od_prog_100_m_19_0) rfl rfl k) ?_
  obtain ⟨T1, X1, e1, st1⟩ := getF X0 hx hZ hown (host := "") (Or.inl (own_h hw 60 rfl)) Via.refl e0 pr0 (g := (mkF m 1 #[rv a1, iv 0] [(.ref a1)])) rfl rfl (hb hby od_prog_100_m_19_1)
  refine own_s T1 (mkF m 4 #[rv a1, iv 0] [(.ref d)]) st1 ?_
  refine own_s T1 (mkF m 6 #[rv a1, iv 0] [(.ref a1), (.int 0), (.ref d)]) (fun _ k => XS.iloadN X1.here hx rfl (hb hby od_prog_100_m_19_4) rfl  (XS.aloadN X1.here hx rfl (hb hby od_prog_100_m_19_5) rfl rfl k)) ?_
  obtain ⟨T2, X2, e2, st2⟩ := getF X1 hx hZ hown (host := "") (Or.inl (own_h hw 65 rfl)) Via.refl e1 pr1 (g := (mkF m 6 #[rv a1, iv 0] [(.ref a1), (.int 0), (.ref d)])) rfl rfl (hb hby od_prog_100_m_19_6)
  refine own_s T2 (mkF m 9 #[rv a1, iv 0] [(.int 2), (.int 0), (.ref d)]) st2 ?_
  refine own_s T2 (mkF m 12 #[rv a1, iv 0] [(.int 1), (.ref d)]) (fun _ k => XS.imul X2.here hx rfl (hb hby od_prog_100_m_19_9) rfl (XS.iconst X2.here hx rfl (hb hby od_prog_100_m_19_10) (XS.iadd X2.here hx rfl (hb hby od_prog_100_m_19_11) rfl k))) ?_
  obtain ⟨cl3, Ar3, q3, S3, Nn3, H3, G3⟩ := id pr2
  have hin3 : ¬ ((1 : Int32) < 0 ∨ cl3.slots.size ≤ ((1 : Int32)).toNatClampNeg) := (inb_of S3 ⟨by decide, hz1⟩)
  refine own_s T2 (mkF m 13 #[rv a1, iv 0] [(.ref x)]) (fun _ k => X2.aaload hx (j := (1 : Int32)) (v := (.ref x)) (own_at e2 Ar3.1) (State.isArrayOf_alike hZ.alike Ar3.2.1) rfl Ar3.2.2 hin3 (Has.at H3 hin3 rfl) (g := (mkF m 12 #[rv a1, iv 0] [(.int 1), (.ref d)])) rfl rfl (hb hby od_prog_100_m_19_12) _ k) ?_
  exact own_finA X2 hx hret rfl rfl (hb hby od_prog_100_m_19_13) (own_end (Qv := (own_Qgv0_0 Z a1 d kd z v0 x v2 v3 v4 v5 v6 v7 v8 v9 v10 v11 v12 h0 n0)) X2 (own_some hret) hlk (by decide) (by decide) e2 ⟨rfl, N0, rfl⟩)
theorem od_prog_100_m_17_22 : decode prog_100_method_17_code 22 = .ok (.iconst 0, 1) := by decide +kernel
theorem own_efgl0_0 (m : MethodId) (x0 : Addr) (x1 : Int32) : entryFrame m #[(.ref x0), (.int x1)] 2 = mkF m 0 #[rv x0, iv x1] [] := by first | (simp [entryFrame, mkF, argsToLocals, Value.category]; done) | rfl
def own_Qgl0_0 (Z : State) (a1 : Addr) (d : Addr) (kd : ClassId) (z : Int32) (x : Addr) (v1 : Value) (v2 : Value) (v3 : Value) (v4 : Value) (v5 : Value) (v6 : Value) (v7 : Value) (v8 : Value) (v9 : Value) (v10 : Value) (v11 : Value) (v12 : Value) (h0 : Heap) (n0 : Nat) : Option Value → Heap → List Loc → Prop := fun v h L => v = some (.ref x) ∧ Fr n0 L ∧ h = h0
def own_Rgl0_0 : Room := { frames := 0, cells := 0, slots := 0, locals := 0 }
set_option maxRecDepth 65536 in
set_option maxHeartbeats 40000000 in
theorem own_rmgl0_0 (l : Launch) (Z : State) (a0 : Array Value) (hw : ∀ d ∈ tables_1, d.before a0 Z = true) (ws : List Jvm.Cond) (a1 : Addr) (d : Addr) (kd : ClassId) (z : Int32) (x : Addr) (v1 : Value) (v2 : Value) (v3 : Value) (v4 : Value) (v5 : Value) (v6 : Value) (v7 : Value) (v8 : Value) (v9 : Value) (v10 : Value) (v11 : Value) (v12 : Value) (h0 : Heap) (n0 : Nat) (Z0 : n0 ≤ h0.size) (pr0 : Fld Z h0 a1 "com/example/tagwright/tagwright/XmlElement" "attributes" "[Ljava/lang/String;" (.ref d)) (pr1 : Fld Z h0 a1 "com/example/tagwright/tagwright/XmlElement" "stride" "B" (.int 2)) (pr2 : Arv Z h0 d kd (.object "java/lang/String") z [(.ref x), v1, v2, v3, v4, v5, v6, v7, v8, v9, v10, v11, v12] .null) (hz0 : (0 : Int32) < z) :
    own_Met l Z own_y16 prog_100_method_17_code 2 (some (.object "java/lang/String")) ws own_Rgl0_0 h0 #[(.ref a1), (.int 0)] (own_Qgl0_0 Z a1 d kd z x v1 v2 v3 v4 v5 v6 v7 v8 v9 v10 v11 v12 h0 n0) own_Rgl0_0.cells own_Rgl0_0.slots := by
  refine own_start (plainFor_of_name own_pn3) ?_
  intro p e s m below meth c s₁ X0 hx hZ hby hml hret hlk hown hnm e0
  have hown : s.vm.findClass "com/example/tagwright/tagwright/XmlElement" = some m.cls := hown
  have hml : c.maxLocals = 2 := hml
  have N0 := Fr.nil n0
  refine own_cast (own_efgl0_0 m a1 (0 : Int32)) ?_
  refine own_s s₁ (mkF m 1 #[rv a1, iv 0] [(.ref a1)]) (fun _ k => XS.aloadN X0.here hx rfl (hb hby od_prog_100_m_17_0) rfl rfl k) ?_
  obtain ⟨T1, X1, e1, st1⟩ := getF X0 hx hZ hown (host := "") (Or.inl (own_h hw 60 rfl)) Via.refl e0 pr0 (g := (mkF m 1 #[rv a1, iv 0] [(.ref a1)])) rfl rfl (hb hby od_prog_100_m_17_1)
  refine own_s T1 (mkF m 4 #[rv a1, iv 0] [(.ref d)]) st1 ?_
  refine own_s T1 (mkF m 6 #[rv a1, iv 0] [(.ref a1), (.int 0), (.ref d)]) (fun _ k => XS.iloadN X1.here hx rfl (hb hby od_prog_100_m_17_4) rfl  (XS.aloadN X1.here hx rfl (hb hby od_prog_100_m_17_5) rfl rfl k)) ?_
  obtain ⟨T2, X2, e2, st2⟩ := getF X1 hx hZ hown (host := "") (Or.inl (own_h hw 65 rfl)) Via.refl e1 pr1 (g := (mkF m 6 #[rv a1, iv 0] [(.ref a1), (.int 0), (.ref d)])) rfl rfl (hb hby od_prog_100_m_17_6)
  refine own_s T2 (mkF m 9 #[rv a1, iv 0] [(.int 2), (.int 0), (.ref d)]) st2 ?_
  refine own_s T2 (mkF m 11 #[rv a1, iv 0] [(.ref a1), (.int 0), (.ref d)]) (fun _ k => XS.imul X2.here hx rfl (hb hby od_prog_100_m_17_9) rfl (XS.aloadN X2.here hx rfl (hb hby od_prog_100_m_17_10) rfl rfl k)) ?_
  obtain ⟨T3, X3, e3, st3⟩ := getF X2 hx hZ hown (host := "") (Or.inl (own_h hw 65 rfl)) Via.refl e2 pr1 (g := (mkF m 11 #[rv a1, iv 0] [(.ref a1), (.int 0), (.ref d)])) rfl rfl (hb hby od_prog_100_m_17_11)
  refine own_s T3 (mkF m 14 #[rv a1, iv 0] [(.int 2), (.int 0), (.ref d)]) st3 ?_
  refine own_s T3 (mkF m 24 #[rv a1, iv 0] [(.int 0), (.ref d)]) (fun _ k => XS.iconst X3.here hx rfl (hb hby od_prog_100_m_17_14) (XS.icmpYes X3.here hx rfl (pc0 := 15) (pc' := 22) rfl (hb hby od_prog_100_m_17_15) rfl (feq (by decide : ¬ ((2 : Int32) = (4 : Int32)))).2 (by decide) (by decide) (XS.iconst X3.here hx rfl (hb hby od_prog_100_m_17_22) (XS.iadd X3.here hx rfl (hb hby od_prog_100_m_17_23) rfl k)))) ?_
  obtain ⟨cl4, Ar4, q4, S4, Nn4, H4, G4⟩ := id pr2
  have hin4 : ¬ ((0 : Int32) < 0 ∨ cl4.slots.size ≤ ((0 : Int32)).toNatClampNeg) := (inb_of S4 ⟨by decide, hz0⟩)
  refine own_s T3 (mkF m 25 #[rv a1, iv 0] [(.ref x)]) (fun _ k => X3.aaload hx (j := (0 : Int32)) (v := (.ref x)) (own_at e3 Ar4.1) (State.isArrayOf_alike hZ.alike Ar4.2.1) rfl Ar4.2.2 hin4 (Has.at H4 hin4 rfl) (g := (mkF m 24 #[rv a1, iv 0] [(.int 0), (.ref d)])) rfl rfl (hb hby od_prog_100_m_17_24) _ k) ?_
  exact own_finA X3 hx hret rfl rfl (hb hby od_prog_100_m_17_25) (own_end (Qv := (own_Qgl0_0 Z a1 d kd z x v1 v2 v3 v4 v5 v6 v7 v8 v9 v10 v11 v12 h0 n0)) X3 (own_some hret) hlk (by decide) (by decide) e3 ⟨rfl, N0, rfl⟩)
theorem od_m_5_87 : decode method_5_code 87 = .ok (.aload_n 0, 1) := by decide +kernel
theorem od_m_5_88 : decode method_5_code 88 = .ok (.iload_n 1, 1) := by decide +kernel
theorem od_m_5_89 : decode method_5_code 89 = .ok (.invokevirtual 60, 3) := by decide +kernel
theorem od_m_5_92 : decode method_5_code 92 = .ok (.ifnonnull 20, 3) := by decide +kernel
theorem od_m_5_95 : decode method_5_code 95 = .ok (.aload 7, 2) := by decide +kernel
theorem od_m_5_97 : decode method_5_code 97 = .ok (.aload_n 0, 1) := by decide +kernel
theorem od_m_5_98 : decode method_5_code 98 = .ok (.iload_n 1, 1) := by decide +kernel
theorem od_m_5_99 : decode method_5_code 99 = .ok (.invokevirtual 63, 3) := by decide +kernel
theorem od_m_5_102 : decode method_5_code 102 = .ok (.invokevirtual 53, 3) := by decide +kernel
theorem od_m_5_105 : decode method_5_code 105 = .ok (.ifCond .eq 7, 3) := by decide +kernel
theorem od_m_5_108 : decode method_5_code 108 = .ok (.iconst 1, 1) := by decide +kernel
theorem od_m_5_109 : decode method_5_code 109 = .ok (.goto 4, 3) := by decide +kernel
theorem od_m_5_113 : decode method_5_code 113 = .ok (.ireturn, 1) := by decide +kernel
theorem own_efchk0_0 (m : MethodId) (x0 : Addr) (x1 : Int32) (x2 : Int32) (x3 : Int32) (x4 : Int32) (x5 : Int32) (x6 : Int32) : entryFrame m #[(.ref x0), (.int x1), (.int x2), (.int x3), (.int x4), (.int x5), (.int x6)] 9 = mkF m 0 #[rv x0, iv x1, iv x2, iv x3, iv x4, iv x5, iv x6, u_, u_] [] := by first | (simp [entryFrame, mkF, argsToLocals, Value.category]; done) | rfl
def own_Qchk0_0 (Z : State) (a1 : Addr) (p4 : Int32) (p5 : Int32) (p6 : Int32) (p7 : Int32) (d : Addr) (kd : ClassId) (z : Int32) (sn : Addr) (sv : Addr) (v2 : Value) (v3 : Value) (v4 : Value) (v5 : Value) (v6 : Value) (v7 : Value) (v8 : Value) (v9 : Value) (v10 : Value) (v11 : Value) (v12 : Value) (bn : Addr) (kn : ClassId) (bv : Addr) (kv : ClassId) (gC : Int32) (h0 : Heap) (n0 : Nat) : Option Value → Heap → List Loc → Prop := fun v h L => v = some (.int 1) ∧ Fr n0 L ∧ Keep h0 h []
def own_Rchk0_0 : Room := { frames := 4, cells := 4, slots := 10, locals := 52 }
set_option maxRecDepth 65536 in
set_option maxHeartbeats 40000000 in
theorem own_rmchk0_0 (l : Launch) (Z : State) (a0 : Array Value) (hw : ∀ d ∈ tables_1, d.before a0 Z = true) (ws : List Jvm.Cond) (a1 : Addr) (p4 : Int32) (p5 : Int32) (p6 : Int32) (p7 : Int32) (d : Addr) (kd : ClassId) (z : Int32) (sn : Addr) (sv : Addr) (v2 : Value) (v3 : Value) (v4 : Value) (v5 : Value) (v6 : Value) (v7 : Value) (v8 : Value) (v9 : Value) (v10 : Value) (v11 : Value) (v12 : Value) (bn : Addr) (kn : ClassId) (bv : Addr) (kv : ClassId) (gC : Int32) (h0 : Heap) (n0 : Nat) (Z0 : n0 ≤ h0.size) (pr0 : Exa Z h0 a1 "com/example/tagwright/tagwright/XmlElement") (pr1 : Fld Z h0 a1 "com/example/tagwright/tagwright/XmlElement" "attributes" "[Ljava/lang/String;" (.ref d)) (pr2 : Fld Z h0 a1 "com/example/tagwright/tagwright/XmlElement" "stride" "B" (.int 2)) (pr3 : Arv Z h0 d kd (.object "java/lang/String") z [(.ref sn), (.ref sv), v2, v3, v4, v5, v6, v7, v8, v9, v10, v11, v12] .null) (pr4 : Exa Z h0 sn "java/lang/String") (pr5 : Fld Z h0 sn "java/lang/String" "coder" "B" (.int 0)) (pr6 : Fld Z h0 sn "java/lang/String" "value" "[B" (.ref bn)) (pr7 : Arv Z h0 bn kn .byte (1 : Int32) [(.int (own_by (own_chr p4 (0 : Int32))))] (.int 0)) (pr8 : Exa Z h0 sv "java/lang/String") (pr9 : Fld Z h0 sv "java/lang/String" "coder" "B" (.int 0)) (pr10 : Fld Z h0 sv "java/lang/String" "value" "[B" (.ref bv)) (pr11 : Arv Z h0 bv kv .byte (1 : Int32) [(.int (own_by (own_chr p5 (0 : Int32))))] (.int 0)) (pr12 : Sta Z h0 "java/lang/String" "COMPACT_STRINGS" "Z" (.int gC)) (hG : ¬ gC = (0 : Int32)) (hz0 : (0 : Int32) < z) (hz1 : (1 : Int32) < z) :
    own_Met l Z own_y17 method_5_code 9 (some .boolean) ws own_Rchk0_0 h0 #[(.ref a1), (.int 0), (.int 0), (.int p4), (.int p5), (.int p6), (.int p7)] (own_Qchk0_0 Z a1 p4 p5 p6 p7 d kd z sn sv v2 v3 v4 v5 v6 v7 v8 v9 v10 v11 v12 bn kn bv kv gC h0 n0) own_Rchk0_0.cells own_Rchk0_0.slots := by
  refine own_start (plainFor_of_name own_pn2) ?_
  intro p e s m below meth c s₁ X0 hx hZ hby hml hret hlk hown hnm e0
  have hown : s.vm.findClass "com/example/tagwright/tagwright/XmlElementNewAttributesPinLaw" = some m.cls := hown
  have hml : c.maxLocals = 9 := hml
  have N0 := Fr.nil n0
  refine own_cast (own_efchk0_0 m a1 (0 : Int32) (0 : Int32) p4 p5 p6 p7) ?_
  refine own_s s₁ (mkF m 2 #[rv a1, iv 0, iv 0, iv p4, iv p5, iv p6, iv p7, u_, u_] [(.int 0), (.int p4)]) (fun _ k => XS.iloadN X0.here hx rfl (hb hby od_m_5_0) rfl  (XS.iloadN X0.here hx rfl (hb hby od_m_5_1) rfl  k)) ?_
  obtain ⟨v1, T1, L1, X1, hQ1, st1⟩ := own_callS X0 hx hZ (y := own_y4) (W := 0) hown (own_h hw 82 rfl) (own_h hw 83 rfl) (own_h hw 80 rfl) (own_h hw 84 rfl) (by decide) (own_rmstr l Z a0 hw [] p4 (0 : Int32) gC h0 n0 Z0 pr12 hG) (by decide) (by decide) (g := (mkF m 2 #[rv a1, iv 0, iv 0, iv p4, iv p5, iv p6, iv p7, u_, u_] [(.int 0), (.int p4)])) rfl (by rw [hml]; rfl) (argsL := [(.int p4), (.int 0)]) (rest := []) rfl (lenOf own_pd6 rfl) rfl (by show 2 * 0 + _ ≤ _; exact Nat.le_of_eq rfl) (hb hby od_m_5_2) e0 (by decide) (by decide)
  obtain ⟨za1, zb1, zk1, rfl, Nq1, Kq1, g_za1, sq_za1, g_zb1, sq_zb1, q1_0, q1_1, q1_2, q1_3⟩ := hQ1
  have N1 := Fr.app N0 Nq1
  have sz_za1 : h0.size ≤ za1 := Nat.le_trans (Keep.refl h0 []).1 sq_za1
  have sz_zb1 : h0.size ≤ zb1 := Nat.le_trans (Keep.refl h0 []).1 sq_zb1
  have f2 := pr0.keep Kq1
  have f3 := pr1.keep Kq1 nin0
  have f4 := pr2.keep Kq1 nin0
  have f5 := pr3.keep Kq1 nin0
  have f6 := pr4.keep Kq1
  have f7 := pr5.keep Kq1 nin0
  have f8 := pr6.keep Kq1 nin0
  have f9 := pr7.keep Kq1 nin0
  have f10 := pr8.keep Kq1
  have f11 := pr9.keep Kq1 nin0
  have f12 := pr10.keep Kq1 nin0
  have f13 := pr11.keep Kq1 nin0
  have f14 := own_staKeep pr12 Kq1
  have K1 : Keep h0 T1.heap [] := (Keep.refl h0 []).trans Kq1 all0
  have Z1 := Nat.le_trans Z0 Kq1.1
  refine own_s T1 (mkF m 5 #[rv a1, iv 0, iv 0, iv p4, iv p5, iv p6, iv p7, u_, u_] [(.ref za1)]) st1 ?_
  refine own_s T1 (mkF m 10 #[rv a1, iv 0, iv 0, iv p4, iv p5, iv p6, iv p7, rv za1, u_] [(.int 0), (.int p5)]) (fun _ k => XS.astore X1.here hx rfl (hb hby od_m_5_5) rfl rfl (l' := #[rv a1, iv 0, iv 0, iv p4, iv p5, iv p6, iv p7, rv za1, u_]) rfl (XS.iload X1.here hx rfl (hb hby od_m_5_7) rfl  (XS.iloadN X1.here hx rfl (hb hby od_m_5_9) rfl  k))) ?_
  obtain ⟨v15, T15, L15, X15, hQ15, st15⟩ := own_callS X1 hx hZ (y := own_y4) (W := 0) hown (own_h hw 82 rfl) (own_h hw 83 rfl) (own_h hw 80 rfl) (own_h hw 84 rfl) (by decide) (own_rmstr l Z a0 hw [] p5 (0 : Int32) gC T1.heap n0 Z1 f14 hG) (by decide) (by decide) (g := (mkF m 10 #[rv a1, iv 0, iv 0, iv p4, iv p5, iv p6, iv p7, rv za1, u_] [(.int 0), (.int p5)])) rfl (by rw [hml]; rfl) (argsL := [(.int p5), (.int 0)]) (rest := []) rfl (lenOf own_pd6 rfl) rfl (by show 2 * 0 + _ ≤ _; exact Nat.le_of_eq rfl) (hb hby od_m_5_10) rfl (by decide) (by decide)
  obtain ⟨za15, zb15, zk15, rfl, Nq15, Kq15, g_za15, sq_za15, g_zb15, sq_zb15, q15_0, q15_1, q15_2, q15_3⟩ := hQ15
  have N15 := Fr.app N1 Nq15
  have sz_za15 : h0.size ≤ za15 := Nat.le_trans K1.1 sq_za15
  have sz_zb15 : h0.size ≤ zb15 := Nat.le_trans K1.1 sq_zb15
  have f16 := f2.keep Kq15
  have f17 := f3.keep Kq15 nin0
  have f18 := f4.keep Kq15 nin0
  have f19 := f5.keep Kq15 nin0
  have f20 := f6.keep Kq15
  have f21 := f7.keep Kq15 nin0
  have f22 := f8.keep Kq15 nin0
  have f23 := f9.keep Kq15 nin0
  have f24 := f10.keep Kq15
  have f25 := f11.keep Kq15 nin0
  have f26 := f12.keep Kq15 nin0
  have f27 := f13.keep Kq15 nin0
  have f28 := own_staKeep f14 Kq15
  have f29 := q1_0.keep Kq15
  have f30 := q1_1.keep Kq15 nin0
  have f31 := q1_2.keep Kq15 nin0
  have f32 := q1_3.keep Kq15 nin0
  have K15 : Keep h0 T15.heap [] := K1.trans Kq15 all0
  have Z15 := Nat.le_trans Z1 Kq15.1
  refine own_s T15 (mkF m 13 #[rv a1, iv 0, iv 0, iv p4, iv p5, iv p6, iv p7, rv za1, u_] [(.ref za15)]) st15 ?_
  refine own_s T15 (mkF m 19 #[rv a1, iv 0, iv 0, iv p4, iv p5, iv p6, iv p7, rv za1, rv za15] [(.int 0), (.ref a1), (.ref za1)]) (fun _ k => XS.astore X15.here hx rfl (hb hby od_m_5_13) rfl rfl (l' := #[rv a1, iv 0, iv 0, iv p4, iv p5, iv p6, iv p7, rv za1, rv za15]) rfl (XS.aload X15.here hx rfl (hb hby od_m_5_15) rfl rfl (XS.aloadN X15.here hx rfl (hb hby od_m_5_17) rfl rfl (XS.iloadN X15.here hx rfl (hb hby od_m_5_18) rfl  k)))) ?_
  obtain ⟨v33, T33, L33, X33, hQ33, st33⟩ := own_callV X15 hx hZ (y := own_y14) (z := own_y14) (W := 1) (a := a1) hown (own_h hw 115 rfl) (own_h hw 116 rfl) (notFace_of_selects (args := #[]) (mvT hZ (own_h hw 118 rfl))) (own_h hw 118 rfl) (own_h hw 117 rfl) (own_h hw 2 rfl) (own_h hw 119 rfl) (by decide) (own_rmgn0_0 l Z a0 hw [] a1 d kd z sn (.ref sv) v2 v3 v4 v5 v6 v7 v8 v9 v10 v11 v12 T15.heap n0 Z15 f17 f18 f19 hz0) (by decide) (by decide) f16 (g := (mkF m 19 #[rv a1, iv 0, iv 0, iv p4, iv p5, iv p6, iv p7, rv za1, rv za15] [(.int 0), (.ref a1), (.ref za1)])) rfl (by rw [hml]; rfl) (argsL := [(.int 0)]) (rest := [(.ref za1)]) rfl (lenOf own_pd9 rfl) rfl (by show 2 * 0 + _ ≤ _; exact Nat.le_of_eq rfl) (hb hby od_m_5_19) rfl (by decide) (by decide)
  obtain ⟨rfl, Nq33, e33⟩ := hQ33
  have N33 := Fr.app N15 Nq33
  refine own_s T33 (mkF m 22 #[rv a1, iv 0, iv 0, iv p4, iv p5, iv p6, iv p7, rv za1, rv za15] [(.ref sn), (.ref za1)]) st33 ?_
  obtain ⟨v34, T34, L34, X34, hQ34, st34⟩ := own_callV X33 hx hZ (y := own_y6) (z := own_y6) (W := 0) (a := za1) hown (own_h hw 120 rfl) (own_h hw 108 rfl) (notFace_of_selects (args := #[]) (mvT hZ (own_h hw 110 rfl))) (own_h hw 110 rfl) (own_h hw 109 rfl) (own_h hw 9 rfl) (own_h hw 111 rfl) (by decide) (own_rmeqD l Z a0 hw [] za1 sn zb1 zk1 (own_by (own_chr p4 (0 : Int32))) bn kn gC T15.heap n0 Z15 f29 f30 f31 f32 f20 f21 f22 f23 f28 hG (Ne.symm (own_nl pr4.lt sq_za1))) (by decide) (by decide) f29 (g := (mkF m 22 #[rv a1, iv 0, iv 0, iv p4, iv p5, iv p6, iv p7, rv za1, rv za15] [(.ref sn), (.ref za1)])) rfl (by rw [hml]; rfl) (argsL := [(.ref sn)]) (rest := []) rfl (lenOf own_pd8 rfl) rfl (by show 2 * 0 + _ ≤ _; exact Nat.le_of_eq rfl) (hb hby od_m_5_22) e33 (by decide) (by decide)
  obtain ⟨rfl, Nq34, e34⟩ := hQ34
  have N34 := Fr.app N33 Nq34
  refine own_s T34 (mkF m 25 #[rv a1, iv 0, iv 0, iv p4, iv p5, iv p6, iv p7, rv za1, rv za15] [(.int 1)]) st34 ?_
  refine own_s T34 (mkF m 32 #[rv a1, iv 0, iv 0, iv p4, iv p5, iv p6, iv p7, rv za1, rv za15] [(.int 0), (.ref a1), (.ref za15)]) (fun _ k => XS.ifNo X34.here hx rfl (hb hby od_m_5_25) rfl ((if0 _ _).trans (feq (by decide : ¬ ((1 : Int32) = (0 : Int32)))).1) (XS.aload X34.here hx rfl (hb hby od_m_5_28) rfl rfl (XS.aloadN X34.here hx rfl (hb hby od_m_5_30) rfl rfl (XS.iloadN X34.here hx rfl (hb hby od_m_5_31) rfl  k)))) ?_
  obtain ⟨v35, T35, L35, X35, hQ35, st35⟩ := own_callV X34 hx hZ (y := own_y15) (z := own_y15) (W := 1) (a := a1) hown (own_h hw 124 rfl) (own_h hw 125 rfl) (notFace_of_selects (args := #[]) (mvT hZ (own_h hw 127 rfl))) (own_h hw 127 rfl) (own_h hw 126 rfl) (own_h hw 2 rfl) (own_h hw 128 rfl) (by decide) (own_rmgv0_0 l Z a0 hw [] a1 d kd z (.ref sn) sv v2 v3 v4 v5 v6 v7 v8 v9 v10 v11 v12 T15.heap n0 Z15 f17 f18 f19 hz1) (by decide) (by decide) f16 (g := (mkF m 32 #[rv a1, iv 0, iv 0, iv p4, iv p5, iv p6, iv p7, rv za1, rv za15] [(.int 0), (.ref a1), (.ref za15)])) rfl (by rw [hml]; rfl) (argsL := [(.int 0)]) (rest := [(.ref za15)]) rfl (lenOf own_pd9 rfl) rfl (by show 2 * 0 + _ ≤ _; exact Nat.le_of_eq rfl) (hb hby od_m_5_32) e34 (by decide) (by decide)
  obtain ⟨rfl, Nq35, e35⟩ := hQ35
  have N35 := Fr.app N34 Nq35
  refine own_s T35 (mkF m 35 #[rv a1, iv 0, iv 0, iv p4, iv p5, iv p6, iv p7, rv za1, rv za15] [(.ref sv), (.ref za15)]) st35 ?_
  obtain ⟨v36, T36, L36, X36, hQ36, st36⟩ := own_callV X35 hx hZ (y := own_y6) (z := own_y6) (W := 0) (a := za15) hown (own_h hw 120 rfl) (own_h hw 108 rfl) (notFace_of_selects (args := #[]) (mvT hZ (own_h hw 110 rfl))) (own_h hw 110 rfl) (own_h hw 109 rfl) (own_h hw 9 rfl) (own_h hw 111 rfl) (by decide) (own_rmeqD l Z a0 hw [] za15 sv zb15 zk15 (own_by (own_chr p5 (0 : Int32))) bv kv gC T15.heap n0 Z15 q15_0 q15_1 q15_2 q15_3 f24 f25 f26 f27 f28 hG (Ne.symm (own_nl f10.lt sq_za15))) (by decide) (by decide) q15_0 (g := (mkF m 35 #[rv a1, iv 0, iv 0, iv p4, iv p5, iv p6, iv p7, rv za1, rv za15] [(.ref sv), (.ref za15)])) rfl (by rw [hml]; rfl) (argsL := [(.ref sv)]) (rest := []) rfl (lenOf own_pd8 rfl) rfl (by show 2 * 0 + _ ≤ _; exact Nat.le_of_eq rfl) (hb hby od_m_5_35) e35 (by decide) (by decide)
  obtain ⟨rfl, Nq36, e36⟩ := hQ36
  have N36 := Fr.app N35 Nq36
  refine own_s T36 (mkF m 38 #[rv a1, iv 0, iv 0, iv p4, iv p5, iv p6, iv p7, rv za1, rv za15] [(.int 1)]) st36 ?_
  refine own_s T36 (mkF m 89 #[rv a1, iv 0, iv 0, iv p4, iv p5, iv p6, iv p7, rv za1, rv za15] [(.int 0), (.ref a1)]) (fun _ k => XS.ifYes X36.here hx rfl (pc0 := 38) (pc' := 43) rfl (hb hby od_m_5_38) rfl ((if0 _ _).trans (feq (by decide : ¬ ((1 : Int32) = (0 : Int32)))).2) (by decide) (by decide) (XS.iloadN X36.here hx rfl (hb hby od_m_5_43) rfl  (XS.ifYes X36.here hx rfl (pc0 := 44) (pc' := 87) rfl (hb hby od_m_5_44) rfl ((if0 _ _).trans (teq (by decide : ((0 : Int32) = (0 : Int32)))).1) (by decide) (by decide) (XS.aloadN X36.here hx rfl (hb hby od_m_5_87) rfl rfl (XS.iloadN X36.here hx rfl (hb hby od_m_5_88) rfl  k))))) ?_
  obtain ⟨v37, T37, L37, X37, hQ37, st37⟩ := own_callV X36 hx hZ (y := own_y13) (z := own_y13) (W := 0) (a := a1) hown (own_h hw 129 rfl) (own_h hw 130 rfl) (notFace_of_selects (args := #[]) (mvT hZ (own_h hw 132 rfl))) (own_h hw 132 rfl) (own_h hw 131 rfl) (own_h hw 2 rfl) (own_h hw 133 rfl) (by decide) (own_rmgs0 l Z a0 hw [] a1 (0 : Int32) T15.heap n0 Z15 f18) (by decide) (by decide) f16 (g := (mkF m 89 #[rv a1, iv 0, iv 0, iv p4, iv p5, iv p6, iv p7, rv za1, rv za15] [(.int 0), (.ref a1)])) rfl (by rw [hml]; rfl) (argsL := [(.int 0)]) (rest := []) rfl (lenOf own_pd9 rfl) rfl (by show 2 * 0 + _ ≤ _; exact Nat.le_of_eq rfl) (hb hby od_m_5_89) e36 (by decide) (by decide)
  obtain ⟨rfl, Nq37, e37⟩ := hQ37
  have N37 := Fr.app N36 Nq37
  refine own_s T37 (mkF m 92 #[rv a1, iv 0, iv 0, iv p4, iv p5, iv p6, iv p7, rv za1, rv za15] [.null]) st37 ?_
  refine own_s T37 (mkF m 99 #[rv a1, iv 0, iv 0, iv p4, iv p5, iv p6, iv p7, rv za1, rv za15] [(.int 0), (.ref a1), (.ref za1)]) (fun _ k => XS.ifnonnullNo X37.here hx rfl (hb hby od_m_5_92) rfl (XS.aload X37.here hx rfl (hb hby od_m_5_95) rfl rfl (XS.aloadN X37.here hx rfl (hb hby od_m_5_97) rfl rfl (XS.iloadN X37.here hx rfl (hb hby od_m_5_98) rfl  k)))) ?_
  obtain ⟨v38, T38, L38, X38, hQ38, st38⟩ := own_callV X37 hx hZ (y := own_y16) (z := own_y16) (W := 1) (a := a1) hown (own_h hw 134 rfl) (own_h hw 135 rfl) (notFace_of_selects (args := #[]) (mvT hZ (own_h hw 137 rfl))) (own_h hw 137 rfl) (own_h hw 136 rfl) (own_h hw 2 rfl) (own_h hw 138 rfl) (by decide) (own_rmgl0_0 l Z a0 hw [] a1 d kd z sn (.ref sv) v2 v3 v4 v5 v6 v7 v8 v9 v10 v11 v12 T15.heap n0 Z15 f17 f18 f19 hz0) (by decide) (by decide) f16 (g := (mkF m 99 #[rv a1, iv 0, iv 0, iv p4, iv p5, iv p6, iv p7, rv za1, rv za15] [(.int 0), (.ref a1), (.ref za1)])) rfl (by rw [hml]; rfl) (argsL := [(.int 0)]) (rest := [(.ref za1)]) rfl (lenOf own_pd9 rfl) rfl (by show 2 * 0 + _ ≤ _; exact Nat.le_of_eq rfl) (hb hby od_m_5_99) e37 (by decide) (by decide)
  obtain ⟨rfl, Nq38, e38⟩ := hQ38
  have N38 := Fr.app N37 Nq38
  refine own_s T38 (mkF m 102 #[rv a1, iv 0, iv 0, iv p4, iv p5, iv p6, iv p7, rv za1, rv za15] [(.ref sn), (.ref za1)]) st38 ?_
  obtain ⟨v39, T39, L39, X39, hQ39, st39⟩ := own_callV X38 hx hZ (y := own_y6) (z := own_y6) (W := 0) (a := za1) hown (own_h hw 120 rfl) (own_h hw 108 rfl) (notFace_of_selects (args := #[]) (mvT hZ (own_h hw 110 rfl))) (own_h hw 110 rfl) (own_h hw 109 rfl) (own_h hw 9 rfl) (own_h hw 111 rfl) (by decide) (own_rmeqD l Z a0 hw [] za1 sn zb1 zk1 (own_by (own_chr p4 (0 : Int32))) bn kn gC T15.heap n0 Z15 f29 f30 f31 f32 f20 f21 f22 f23 f28 hG (Ne.symm (own_nl pr4.lt sq_za1))) (by decide) (by decide) f29 (g := (mkF m 102 #[rv a1, iv 0, iv 0, iv p4, iv p5, iv p6, iv p7, rv za1, rv za15] [(.ref sn), (.ref za1)])) rfl (by rw [hml]; rfl) (argsL := [(.ref sn)]) (rest := []) rfl (lenOf own_pd8 rfl) rfl (by show 2 * 0 + _ ≤ _; exact Nat.le_of_eq rfl) (hb hby od_m_5_102) e38 (by decide) (by decide)
  obtain ⟨rfl, Nq39, e39⟩ := hQ39
  have N39 := Fr.app N38 Nq39
  refine own_s T39 (mkF m 105 #[rv a1, iv 0, iv 0, iv p4, iv p5, iv p6, iv p7, rv za1, rv za15] [(.int 1)]) st39 ?_
  refine own_s T39 (mkF m 113 #[rv a1, iv 0, iv 0, iv p4, iv p5, iv p6, iv p7, rv za1, rv za15] [(.int 1)]) (fun _ k => XS.ifNo X39.here hx rfl (hb hby od_m_5_105) rfl ((if0 _ _).trans (feq (by decide : ¬ ((1 : Int32) = (0 : Int32)))).1) (XS.iconst X39.here hx rfl (hb hby od_m_5_108) (XS.goto X39.here hx rfl (pc0 := 109) (pc' := 113) rfl (hb hby od_m_5_109) (by decide) (by decide) k))) ?_
  exact own_finZ X39 hx (t := .boolean) hret (by simp) (z' := (1 : Int32)) rfl (hb hby od_m_5_113) (own_end (Qv := (own_Qchk0_0 Z a1 p4 p5 p6 p7 d kd z sn sv v2 v3 v4 v5 v6 v7 v8 v9 v10 v11 v12 bn kn bv kv gC h0 n0)) X39 (own_some hret) hlk (by decide) (by decide) e39 ⟨rfl, N39, K15⟩)
theorem own_efgn1_0 (m : MethodId) (x0 : Addr) (x1 : Int32) : entryFrame m #[(.ref x0), (.int x1)] 2 = mkF m 0 #[rv x0, iv x1] [] := by first | (simp [entryFrame, mkF, argsToLocals, Value.category]; done) | rfl
def own_Qgn1_0 (Z : State) (a1 : Addr) (d : Addr) (kd : ClassId) (z : Int32) (v0 : Value) (v1 : Value) (x : Addr) (v3 : Value) (v4 : Value) (v5 : Value) (v6 : Value) (v7 : Value) (v8 : Value) (v9 : Value) (v10 : Value) (v11 : Value) (v12 : Value) (h0 : Heap) (n0 : Nat) : Option Value → Heap → List Loc → Prop := fun v h L => v = some (.ref x) ∧ Fr n0 L ∧ h = h0
def own_Rgn1_0 : Room := { frames := 0, cells := 0, slots := 0, locals := 0 }
set_option maxRecDepth 65536 in
set_option maxHeartbeats 40000000 in
theorem own_rmgn1_0 (l : Launch) (Z : State) (a0 : Array Value) (hw : ∀ d ∈ tables_1, d.before a0 Z = true) (ws : List Jvm.Cond) (a1 : Addr) (d : Addr) (kd : ClassId) (z : Int32) (v0 : Value) (v1 : Value) (x : Addr) (v3 : Value) (v4 : Value) (v5 : Value) (v6 : Value) (v7 : Value) (v8 : Value) (v9 : Value) (v10 : Value) (v11 : Value) (v12 : Value) (h0 : Heap) (n0 : Nat) (Z0 : n0 ≤ h0.size) (pr0 : Fld Z h0 a1 "com/example/tagwright/tagwright/XmlElement" "attributes" "[Ljava/lang/String;" (.ref d)) (pr1 : Fld Z h0 a1 "com/example/tagwright/tagwright/XmlElement" "stride" "B" (.int 2)) (pr2 : Arv Z h0 d kd (.object "java/lang/String") z [v0, v1, (.ref x), v3, v4, v5, v6, v7, v8, v9, v10, v11, v12] .null) (hz2 : (2 : Int32) < z) :
    own_Met l Z own_y14 prog_100_method_18_code 2 (some (.object "java/lang/String")) ws own_Rgn1_0 h0 #[(.ref a1), (.int 1)] (own_Qgn1_0 Z a1 d kd z v0 v1 x v3 v4 v5 v6 v7 v8 v9 v10 v11 v12 h0 n0) own_Rgn1_0.cells own_Rgn1_0.slots := by
  refine own_start (plainFor_of_name own_pn3) ?_
  intro p e s m below meth c s₁ X0 hx hZ hby hml hret hlk hown hnm e0
  have hown : s.vm.findClass "com/example/tagwright/tagwright/XmlElement" = some m.cls := hown
  have hml : c.maxLocals = 2 := hml
  have N0 := Fr.nil n0
  refine own_cast (own_efgn1_0 m a1 (1 : Int32)) ?_
  refine own_s s₁ (mkF m 1 #[rv a1, iv 1] [(.ref a1)]) (fun _ k => XS.aloadN X0.here hx rfl (hb hby od_prog_100_m_18_0) rfl rfl k) ?_
  obtain ⟨T1, X1, e1, st1⟩ := getF X0 hx hZ hown (host := "") (Or.inl (own_h hw 60 rfl)) Via.refl e0 pr0 (g := (mkF m 1 #[rv a1, iv 1] [(.ref a1)])) rfl rfl (hb hby od_prog_100_m_18_1)
  refine own_s T1 (mkF m 4 #[rv a1, iv 1] [(.ref d)]) st1 ?_
  refine own_s T1 (mkF m 6 #[rv a1, iv 1] [(.ref a1), (.int 1), (.ref d)]) (fun _ k => XS.iloadN X1.here hx rfl (hb hby od_prog_100_m_18_4) rfl  (XS.aloadN X1.here hx rfl (hb hby od_prog_100_m_18_5) rfl rfl k)) ?_
  obtain ⟨T2, X2, e2, st2⟩ := getF X1 hx hZ hown (host := "") (Or.inl (own_h hw 65 rfl)) Via.refl e1 pr1 (g := (mkF m 6 #[rv a1, iv 1] [(.ref a1), (.int 1), (.ref d)])) rfl rfl (hb hby od_prog_100_m_18_6)
  refine own_s T2 (mkF m 9 #[rv a1, iv 1] [(.int 2), (.int 1), (.ref d)]) st2 ?_
  refine own_s T2 (mkF m 12 #[rv a1, iv 1] [(.int 2), (.ref d)]) (fun _ k => XS.imul X2.here hx rfl (hb hby od_prog_100_m_18_9) rfl (XS.iconst X2.here hx rfl (hb hby od_prog_100_m_18_10) (XS.iadd X2.here hx rfl (hb hby od_prog_100_m_18_11) rfl k))) ?_
  obtain ⟨cl3, Ar3, q3, S3, Nn3, H3, G3⟩ := id pr2
  have hin3 : ¬ ((2 : Int32) < 0 ∨ cl3.slots.size ≤ ((2 : Int32)).toNatClampNeg) := (inb_of S3 ⟨by decide, hz2⟩)
  refine own_s T2 (mkF m 13 #[rv a1, iv 1] [(.ref x)]) (fun _ k => X2.aaload hx (j := (2 : Int32)) (v := (.ref x)) (own_at e2 Ar3.1) (State.isArrayOf_alike hZ.alike Ar3.2.1) rfl Ar3.2.2 hin3 (Has.at H3 hin3 rfl) (g := (mkF m 12 #[rv a1, iv 1] [(.int 2), (.ref d)])) rfl rfl (hb hby od_prog_100_m_18_12) _ k) ?_
  exact own_finA X2 hx hret rfl rfl (hb hby od_prog_100_m_18_13) (own_end (Qv := (own_Qgn1_0 Z a1 d kd z v0 v1 x v3 v4 v5 v6 v7 v8 v9 v10 v11 v12 h0 n0)) X2 (own_some hret) hlk (by decide) (by decide) e2 ⟨rfl, N0, rfl⟩)
theorem own_efgv1_0 (m : MethodId) (x0 : Addr) (x1 : Int32) : entryFrame m #[(.ref x0), (.int x1)] 2 = mkF m 0 #[rv x0, iv x1] [] := by first | (simp [entryFrame, mkF, argsToLocals, Value.category]; done) | rfl
def own_Qgv1_0 (Z : State) (a1 : Addr) (d : Addr) (kd : ClassId) (z : Int32) (v0 : Value) (v1 : Value) (v2 : Value) (x : Addr) (v4 : Value) (v5 : Value) (v6 : Value) (v7 : Value) (v8 : Value) (v9 : Value) (v10 : Value) (v11 : Value) (v12 : Value) (h0 : Heap) (n0 : Nat) : Option Value → Heap → List Loc → Prop := fun v h L => v = some (.ref x) ∧ Fr n0 L ∧ h = h0
def own_Rgv1_0 : Room := { frames := 0, cells := 0, slots := 0, locals := 0 }
set_option maxRecDepth 65536 in
set_option maxHeartbeats 40000000 in
theorem own_rmgv1_0 (l : Launch) (Z : State) (a0 : Array Value) (hw : ∀ d ∈ tables_1, d.before a0 Z = true) (ws : List Jvm.Cond) (a1 : Addr) (d : Addr) (kd : ClassId) (z : Int32) (v0 : Value) (v1 : Value) (v2 : Value) (x : Addr) (v4 : Value) (v5 : Value) (v6 : Value) (v7 : Value) (v8 : Value) (v9 : Value) (v10 : Value) (v11 : Value) (v12 : Value) (h0 : Heap) (n0 : Nat) (Z0 : n0 ≤ h0.size) (pr0 : Fld Z h0 a1 "com/example/tagwright/tagwright/XmlElement" "attributes" "[Ljava/lang/String;" (.ref d)) (pr1 : Fld Z h0 a1 "com/example/tagwright/tagwright/XmlElement" "stride" "B" (.int 2)) (pr2 : Arv Z h0 d kd (.object "java/lang/String") z [v0, v1, v2, (.ref x), v4, v5, v6, v7, v8, v9, v10, v11, v12] .null) (hz3 : (3 : Int32) < z) :
    own_Met l Z own_y15 prog_100_method_19_code 2 (some (.object "java/lang/String")) ws own_Rgv1_0 h0 #[(.ref a1), (.int 1)] (own_Qgv1_0 Z a1 d kd z v0 v1 v2 x v4 v5 v6 v7 v8 v9 v10 v11 v12 h0 n0) own_Rgv1_0.cells own_Rgv1_0.slots := by
  refine own_start (plainFor_of_name own_pn3) ?_
  intro p e s m below meth c s₁ X0 hx hZ hby hml hret hlk hown hnm e0
  have hown : s.vm.findClass "com/example/tagwright/tagwright/XmlElement" = some m.cls := hown
  have hml : c.maxLocals = 2 := hml
  have N0 := Fr.nil n0
  refine own_cast (own_efgv1_0 m a1 (1 : Int32)) ?_
  refine own_s s₁ (mkF m 1 #[rv a1, iv 1] [(.ref a1)]) (fun _ k => XS.aloadN X0.here hx rfl (hb hby od_prog_100_m_19_0) rfl rfl k) ?_
  obtain ⟨T1, X1, e1, st1⟩ := getF X0 hx hZ hown (host := "") (Or.inl (own_h hw 60 rfl)) Via.refl e0 pr0 (g := (mkF m 1 #[rv a1, iv 1] [(.ref a1)])) rfl rfl (hb hby od_prog_100_m_19_1)
  refine own_s T1 (mkF m 4 #[rv a1, iv 1] [(.ref d)]) st1 ?_
  refine own_s T1 (mkF m 6 #[rv a1, iv 1] [(.ref a1), (.int 1), (.ref d)]) (fun _ k => XS.iloadN X1.here hx rfl (hb hby od_prog_100_m_19_4) rfl  (XS.aloadN X1.here hx rfl (hb hby od_prog_100_m_19_5) rfl rfl k)) ?_
  obtain ⟨T2, X2, e2, st2⟩ := getF X1 hx hZ hown (host := "") (Or.inl (own_h hw 65 rfl)) Via.refl e1 pr1 (g := (mkF m 6 #[rv a1, iv 1] [(.ref a1), (.int 1), (.ref d)])) rfl rfl (hb hby od_prog_100_m_19_6)
  refine own_s T2 (mkF m 9 #[rv a1, iv 1] [(.int 2), (.int 1), (.ref d)]) st2 ?_
  refine own_s T2 (mkF m 12 #[rv a1, iv 1] [(.int 3), (.ref d)]) (fun _ k => XS.imul X2.here hx rfl (hb hby od_prog_100_m_19_9) rfl (XS.iconst X2.here hx rfl (hb hby od_prog_100_m_19_10) (XS.iadd X2.here hx rfl (hb hby od_prog_100_m_19_11) rfl k))) ?_
  obtain ⟨cl3, Ar3, q3, S3, Nn3, H3, G3⟩ := id pr2
  have hin3 : ¬ ((3 : Int32) < 0 ∨ cl3.slots.size ≤ ((3 : Int32)).toNatClampNeg) := (inb_of S3 ⟨by decide, hz3⟩)
  refine own_s T2 (mkF m 13 #[rv a1, iv 1] [(.ref x)]) (fun _ k => X2.aaload hx (j := (3 : Int32)) (v := (.ref x)) (own_at e2 Ar3.1) (State.isArrayOf_alike hZ.alike Ar3.2.1) rfl Ar3.2.2 hin3 (Has.at H3 hin3 rfl) (g := (mkF m 12 #[rv a1, iv 1] [(.int 3), (.ref d)])) rfl rfl (hb hby od_prog_100_m_19_12) _ k) ?_
  exact own_finA X2 hx hret rfl rfl (hb hby od_prog_100_m_19_13) (own_end (Qv := (own_Qgv1_0 Z a1 d kd z v0 v1 v2 x v4 v5 v6 v7 v8 v9 v10 v11 v12 h0 n0)) X2 (own_some hret) hlk (by decide) (by decide) e2 ⟨rfl, N0, rfl⟩)
theorem own_efgl1_0 (m : MethodId) (x0 : Addr) (x1 : Int32) : entryFrame m #[(.ref x0), (.int x1)] 2 = mkF m 0 #[rv x0, iv x1] [] := by first | (simp [entryFrame, mkF, argsToLocals, Value.category]; done) | rfl
def own_Qgl1_0 (Z : State) (a1 : Addr) (d : Addr) (kd : ClassId) (z : Int32) (v0 : Value) (v1 : Value) (x : Addr) (v3 : Value) (v4 : Value) (v5 : Value) (v6 : Value) (v7 : Value) (v8 : Value) (v9 : Value) (v10 : Value) (v11 : Value) (v12 : Value) (h0 : Heap) (n0 : Nat) : Option Value → Heap → List Loc → Prop := fun v h L => v = some (.ref x) ∧ Fr n0 L ∧ h = h0
def own_Rgl1_0 : Room := { frames := 0, cells := 0, slots := 0, locals := 0 }
set_option maxRecDepth 65536 in
set_option maxHeartbeats 40000000 in
theorem own_rmgl1_0 (l : Launch) (Z : State) (a0 : Array Value) (hw : ∀ d ∈ tables_1, d.before a0 Z = true) (ws : List Jvm.Cond) (a1 : Addr) (d : Addr) (kd : ClassId) (z : Int32) (v0 : Value) (v1 : Value) (x : Addr) (v3 : Value) (v4 : Value) (v5 : Value) (v6 : Value) (v7 : Value) (v8 : Value) (v9 : Value) (v10 : Value) (v11 : Value) (v12 : Value) (h0 : Heap) (n0 : Nat) (Z0 : n0 ≤ h0.size) (pr0 : Fld Z h0 a1 "com/example/tagwright/tagwright/XmlElement" "attributes" "[Ljava/lang/String;" (.ref d)) (pr1 : Fld Z h0 a1 "com/example/tagwright/tagwright/XmlElement" "stride" "B" (.int 2)) (pr2 : Arv Z h0 d kd (.object "java/lang/String") z [v0, v1, (.ref x), v3, v4, v5, v6, v7, v8, v9, v10, v11, v12] .null) (hz2 : (2 : Int32) < z) :
    own_Met l Z own_y16 prog_100_method_17_code 2 (some (.object "java/lang/String")) ws own_Rgl1_0 h0 #[(.ref a1), (.int 1)] (own_Qgl1_0 Z a1 d kd z v0 v1 x v3 v4 v5 v6 v7 v8 v9 v10 v11 v12 h0 n0) own_Rgl1_0.cells own_Rgl1_0.slots := by
  refine own_start (plainFor_of_name own_pn3) ?_
  intro p e s m below meth c s₁ X0 hx hZ hby hml hret hlk hown hnm e0
  have hown : s.vm.findClass "com/example/tagwright/tagwright/XmlElement" = some m.cls := hown
  have hml : c.maxLocals = 2 := hml
  have N0 := Fr.nil n0
  refine own_cast (own_efgl1_0 m a1 (1 : Int32)) ?_
  refine own_s s₁ (mkF m 1 #[rv a1, iv 1] [(.ref a1)]) (fun _ k => XS.aloadN X0.here hx rfl (hb hby od_prog_100_m_17_0) rfl rfl k) ?_
  obtain ⟨T1, X1, e1, st1⟩ := getF X0 hx hZ hown (host := "") (Or.inl (own_h hw 60 rfl)) Via.refl e0 pr0 (g := (mkF m 1 #[rv a1, iv 1] [(.ref a1)])) rfl rfl (hb hby od_prog_100_m_17_1)
  refine own_s T1 (mkF m 4 #[rv a1, iv 1] [(.ref d)]) st1 ?_
  refine own_s T1 (mkF m 6 #[rv a1, iv 1] [(.ref a1), (.int 1), (.ref d)]) (fun _ k => XS.iloadN X1.here hx rfl (hb hby od_prog_100_m_17_4) rfl  (XS.aloadN X1.here hx rfl (hb hby od_prog_100_m_17_5) rfl rfl k)) ?_
  obtain ⟨T2, X2, e2, st2⟩ := getF X1 hx hZ hown (host := "") (Or.inl (own_h hw 65 rfl)) Via.refl e1 pr1 (g := (mkF m 6 #[rv a1, iv 1] [(.ref a1), (.int 1), (.ref d)])) rfl rfl (hb hby od_prog_100_m_17_6)
  refine own_s T2 (mkF m 9 #[rv a1, iv 1] [(.int 2), (.int 1), (.ref d)]) st2 ?_
  refine own_s T2 (mkF m 11 #[rv a1, iv 1] [(.ref a1), (.int 2), (.ref d)]) (fun _ k => XS.imul X2.here hx rfl (hb hby od_prog_100_m_17_9) rfl (XS.aloadN X2.here hx rfl (hb hby od_prog_100_m_17_10) rfl rfl k)) ?_
  obtain ⟨T3, X3, e3, st3⟩ := getF X2 hx hZ hown (host := "") (Or.inl (own_h hw 65 rfl)) Via.refl e2 pr1 (g := (mkF m 11 #[rv a1, iv 1] [(.ref a1), (.int 2), (.ref d)])) rfl rfl (hb hby od_prog_100_m_17_11)
  refine own_s T3 (mkF m 14 #[rv a1, iv 1] [(.int 2), (.int 2), (.ref d)]) st3 ?_
  refine own_s T3 (mkF m 24 #[rv a1, iv 1] [(.int 2), (.ref d)]) (fun _ k => XS.iconst X3.here hx rfl (hb hby od_prog_100_m_17_14) (XS.icmpYes X3.here hx rfl (pc0 := 15) (pc' := 22) rfl (hb hby od_prog_100_m_17_15) rfl (feq (by decide : ¬ ((2 : Int32) = (4 : Int32)))).2 (by decide) (by decide) (XS.iconst X3.here hx rfl (hb hby od_prog_100_m_17_22) (XS.iadd X3.here hx rfl (hb hby od_prog_100_m_17_23) rfl k)))) ?_
  obtain ⟨cl4, Ar4, q4, S4, Nn4, H4, G4⟩ := id pr2
  have hin4 : ¬ ((2 : Int32) < 0 ∨ cl4.slots.size ≤ ((2 : Int32)).toNatClampNeg) := (inb_of S4 ⟨by decide, hz2⟩)
  refine own_s T3 (mkF m 25 #[rv a1, iv 1] [(.ref x)]) (fun _ k => X3.aaload hx (j := (2 : Int32)) (v := (.ref x)) (own_at e3 Ar4.1) (State.isArrayOf_alike hZ.alike Ar4.2.1) rfl Ar4.2.2 hin4 (Has.at H4 hin4 rfl) (g := (mkF m 24 #[rv a1, iv 1] [(.int 2), (.ref d)])) rfl rfl (hb hby od_prog_100_m_17_24) _ k) ?_
  exact own_finA X3 hx hret rfl rfl (hb hby od_prog_100_m_17_25) (own_end (Qv := (own_Qgl1_0 Z a1 d kd z v0 v1 x v3 v4 v5 v6 v7 v8 v9 v10 v11 v12 h0 n0)) X3 (own_some hret) hlk (by decide) (by decide) e3 ⟨rfl, N0, rfl⟩)
theorem own_efchk1_0 (m : MethodId) (x0 : Addr) (x1 : Int32) (x2 : Int32) (x3 : Int32) (x4 : Int32) (x5 : Int32) (x6 : Int32) : entryFrame m #[(.ref x0), (.int x1), (.int x2), (.int x3), (.int x4), (.int x5), (.int x6)] 9 = mkF m 0 #[rv x0, iv x1, iv x2, iv x3, iv x4, iv x5, iv x6, u_, u_] [] := by first | (simp [entryFrame, mkF, argsToLocals, Value.category]; done) | rfl
def own_Qchk1_0 (Z : State) (a1 : Addr) (p4 : Int32) (p5 : Int32) (p6 : Int32) (p7 : Int32) (d : Addr) (kd : ClassId) (z : Int32) (v0 : Value) (v1 : Value) (sn : Addr) (sv : Addr) (v4 : Value) (v5 : Value) (v6 : Value) (v7 : Value) (v8 : Value) (v9 : Value) (v10 : Value) (v11 : Value) (v12 : Value) (bn : Addr) (kn : ClassId) (bv : Addr) (kv : ClassId) (gC : Int32) (h0 : Heap) (n0 : Nat) : Option Value → Heap → List Loc → Prop := fun v h L => v = some (.int 1) ∧ Fr n0 L ∧ Keep h0 h []
def own_Rchk1_0 : Room := { frames := 4, cells := 4, slots := 10, locals := 52 }
set_option maxRecDepth 65536 in
set_option maxHeartbeats 40000000 in
theorem own_rmchk1_0 (l : Launch) (Z : State) (a0 : Array Value) (hw : ∀ d ∈ tables_1, d.before a0 Z = true) (ws : List Jvm.Cond) (a1 : Addr) (p4 : Int32) (p5 : Int32) (p6 : Int32) (p7 : Int32) (d : Addr) (kd : ClassId) (z : Int32) (v0 : Value) (v1 : Value) (sn : Addr) (sv : Addr) (v4 : Value) (v5 : Value) (v6 : Value) (v7 : Value) (v8 : Value) (v9 : Value) (v10 : Value) (v11 : Value) (v12 : Value) (bn : Addr) (kn : ClassId) (bv : Addr) (kv : ClassId) (gC : Int32) (h0 : Heap) (n0 : Nat) (Z0 : n0 ≤ h0.size) (pr0 : Exa Z h0 a1 "com/example/tagwright/tagwright/XmlElement") (pr1 : Fld Z h0 a1 "com/example/tagwright/tagwright/XmlElement" "attributes" "[Ljava/lang/String;" (.ref d)) (pr2 : Fld Z h0 a1 "com/example/tagwright/tagwright/XmlElement" "stride" "B" (.int 2)) (pr3 : Arv Z h0 d kd (.object "java/lang/String") z [v0, v1, (.ref sn), (.ref sv), v4, v5, v6, v7, v8, v9, v10, v11, v12] .null) (pr4 : Exa Z h0 sn "java/lang/String") (pr5 : Fld Z h0 sn "java/lang/String" "coder" "B" (.int 0)) (pr6 : Fld Z h0 sn "java/lang/String" "value" "[B" (.ref bn)) (pr7 : Arv Z h0 bn kn .byte (1 : Int32) [(.int (own_by (own_chr p4 (1 : Int32))))] (.int 0)) (pr8 : Exa Z h0 sv "java/lang/String") (pr9 : Fld Z h0 sv "java/lang/String" "coder" "B" (.int 0)) (pr10 : Fld Z h0 sv "java/lang/String" "value" "[B" (.ref bv)) (pr11 : Arv Z h0 bv kv .byte (1 : Int32) [(.int (own_by (own_chr p5 (1 : Int32))))] (.int 0)) (pr12 : Sta Z h0 "java/lang/String" "COMPACT_STRINGS" "Z" (.int gC)) (hG : ¬ gC = (0 : Int32)) (hz2 : (2 : Int32) < z) (hz3 : (3 : Int32) < z) :
    own_Met l Z own_y17 method_5_code 9 (some .boolean) ws own_Rchk1_0 h0 #[(.ref a1), (.int 1), (.int 0), (.int p4), (.int p5), (.int p6), (.int p7)] (own_Qchk1_0 Z a1 p4 p5 p6 p7 d kd z v0 v1 sn sv v4 v5 v6 v7 v8 v9 v10 v11 v12 bn kn bv kv gC h0 n0) own_Rchk1_0.cells own_Rchk1_0.slots := by
  refine own_start (plainFor_of_name own_pn2) ?_
  intro p e s m below meth c s₁ X0 hx hZ hby hml hret hlk hown hnm e0
  have hown : s.vm.findClass "com/example/tagwright/tagwright/XmlElementNewAttributesPinLaw" = some m.cls := hown
  have hml : c.maxLocals = 9 := hml
  have N0 := Fr.nil n0
  refine own_cast (own_efchk1_0 m a1 (1 : Int32) (0 : Int32) p4 p5 p6 p7) ?_
  refine own_s s₁ (mkF m 2 #[rv a1, iv 1, iv 0, iv p4, iv p5, iv p6, iv p7, u_, u_] [(.int 1), (.int p4)]) (fun _ k => XS.iloadN X0.here hx rfl (hb hby od_m_5_0) rfl  (XS.iloadN X0.here hx rfl (hb hby od_m_5_1) rfl  k)) ?_
  obtain ⟨v1, T1, L1, X1, hQ1, st1⟩ := own_callS X0 hx hZ (y := own_y4) (W := 0) hown (own_h hw 82 rfl) (own_h hw 83 rfl) (own_h hw 80 rfl) (own_h hw 84 rfl) (by decide) (own_rmstr l Z a0 hw [] p4 (1 : Int32) gC h0 n0 Z0 pr12 hG) (by decide) (by decide) (g := (mkF m 2 #[rv a1, iv 1, iv 0, iv p4, iv p5, iv p6, iv p7, u_, u_] [(.int 1), (.int p4)])) rfl (by rw [hml]; rfl) (argsL := [(.int p4), (.int 1)]) (rest := []) rfl (lenOf own_pd6 rfl) rfl (by show 2 * 0 + _ ≤ _; exact Nat.le_of_eq rfl) (hb hby od_m_5_2) e0 (by decide) (by decide)
  obtain ⟨za1, zb1, zk1, rfl, Nq1, Kq1, g_za1, sq_za1, g_zb1, sq_zb1, q1_0, q1_1, q1_2, q1_3⟩ := hQ1
  have N1 := Fr.app N0 Nq1
  have sz_za1 : h0.size ≤ za1 := Nat.le_trans (Keep.refl h0 []).1 sq_za1
  have sz_zb1 : h0.size ≤ zb1 := Nat.le_trans (Keep.refl h0 []).1 sq_zb1
  have f2 := pr0.keep Kq1
  have f3 := pr1.keep Kq1 nin0
  have f4 := pr2.keep Kq1 nin0
  have f5 := pr3.keep Kq1 nin0
  have f6 := pr4.keep Kq1
  have f7 := pr5.keep Kq1 nin0
  have f8 := pr6.keep Kq1 nin0
  have f9 := pr7.keep Kq1 nin0
  have f10 := pr8.keep Kq1
  have f11 := pr9.keep Kq1 nin0
  have f12 := pr10.keep Kq1 nin0
  have f13 := pr11.keep Kq1 nin0
  have f14 := own_staKeep pr12 Kq1
  have K1 : Keep h0 T1.heap [] := (Keep.refl h0 []).trans Kq1 all0
  have Z1 := Nat.le_trans Z0 Kq1.1
  refine own_s T1 (mkF m 5 #[rv a1, iv 1, iv 0, iv p4, iv p5, iv p6, iv p7, u_, u_] [(.ref za1)]) st1 ?_
  refine own_s T1 (mkF m 10 #[rv a1, iv 1, iv 0, iv p4, iv p5, iv p6, iv p7, rv za1, u_] [(.int 1), (.int p5)]) (fun _ k => XS.astore X1.here hx rfl (hb hby od_m_5_5) rfl rfl (l' := #[rv a1, iv 1, iv 0, iv p4, iv p5, iv p6, iv p7, rv za1, u_]) rfl (XS.iload X1.here hx rfl (hb hby od_m_5_7) rfl  (XS.iloadN X1.here hx rfl (hb hby od_m_5_9) rfl  k))) ?_
  obtain ⟨v15, T15, L15, X15, hQ15, st15⟩ := own_callS X1 hx hZ (y := own_y4) (W := 0) hown (own_h hw 82 rfl) (own_h hw 83 rfl) (own_h hw 80 rfl) (own_h hw 84 rfl) (by decide) (own_rmstr l Z a0 hw [] p5 (1 : Int32) gC T1.heap n0 Z1 f14 hG) (by decide) (by decide) (g := (mkF m 10 #[rv a1, iv 1, iv 0, iv p4, iv p5, iv p6, iv p7, rv za1, u_] [(.int 1), (.int p5)])) rfl (by rw [hml]; rfl) (argsL := [(.int p5), (.int 1)]) (rest := []) rfl (lenOf own_pd6 rfl) rfl (by show 2 * 0 + _ ≤ _; exact Nat.le_of_eq rfl) (hb hby od_m_5_10) rfl (by decide) (by decide)
  obtain ⟨za15, zb15, zk15, rfl, Nq15, Kq15, g_za15, sq_za15, g_zb15, sq_zb15, q15_0, q15_1, q15_2, q15_3⟩ := hQ15
  have N15 := Fr.app N1 Nq15
  have sz_za15 : h0.size ≤ za15 := Nat.le_trans K1.1 sq_za15
  have sz_zb15 : h0.size ≤ zb15 := Nat.le_trans K1.1 sq_zb15
  have f16 := f2.keep Kq15
  have f17 := f3.keep Kq15 nin0
  have f18 := f4.keep Kq15 nin0
  have f19 := f5.keep Kq15 nin0
  have f20 := f6.keep Kq15
  have f21 := f7.keep Kq15 nin0
  have f22 := f8.keep Kq15 nin0
  have f23 := f9.keep Kq15 nin0
  have f24 := f10.keep Kq15
  have f25 := f11.keep Kq15 nin0
  have f26 := f12.keep Kq15 nin0
  have f27 := f13.keep Kq15 nin0
  have f28 := own_staKeep f14 Kq15
  have f29 := q1_0.keep Kq15
  have f30 := q1_1.keep Kq15 nin0
  have f31 := q1_2.keep Kq15 nin0
  have f32 := q1_3.keep Kq15 nin0
  have K15 : Keep h0 T15.heap [] := K1.trans Kq15 all0
  have Z15 := Nat.le_trans Z1 Kq15.1
  refine own_s T15 (mkF m 13 #[rv a1, iv 1, iv 0, iv p4, iv p5, iv p6, iv p7, rv za1, u_] [(.ref za15)]) st15 ?_
  refine own_s T15 (mkF m 19 #[rv a1, iv 1, iv 0, iv p4, iv p5, iv p6, iv p7, rv za1, rv za15] [(.int 1), (.ref a1), (.ref za1)]) (fun _ k => XS.astore X15.here hx rfl (hb hby od_m_5_13) rfl rfl (l' := #[rv a1, iv 1, iv 0, iv p4, iv p5, iv p6, iv p7, rv za1, rv za15]) rfl (XS.aload X15.here hx rfl (hb hby od_m_5_15) rfl rfl (XS.aloadN X15.here hx rfl (hb hby od_m_5_17) rfl rfl (XS.iloadN X15.here hx rfl (hb hby od_m_5_18) rfl  k)))) ?_
  obtain ⟨v33, T33, L33, X33, hQ33, st33⟩ := own_callV X15 hx hZ (y := own_y14) (z := own_y14) (W := 1) (a := a1) hown (own_h hw 115 rfl) (own_h hw 116 rfl) (notFace_of_selects (args := #[]) (mvT hZ (own_h hw 118 rfl))) (own_h hw 118 rfl) (own_h hw 117 rfl) (own_h hw 2 rfl) (own_h hw 119 rfl) (by decide) (own_rmgn1_0 l Z a0 hw [] a1 d kd z v0 v1 sn (.ref sv) v4 v5 v6 v7 v8 v9 v10 v11 v12 T15.heap n0 Z15 f17 f18 f19 hz2) (by decide) (by decide) f16 (g := (mkF m 19 #[rv a1, iv 1, iv 0, iv p4, iv p5, iv p6, iv p7, rv za1, rv za15] [(.int 1), (.ref a1), (.ref za1)])) rfl (by rw [hml]; rfl) (argsL := [(.int 1)]) (rest := [(.ref za1)]) rfl (lenOf own_pd9 rfl) rfl (by show 2 * 0 + _ ≤ _; exact Nat.le_of_eq rfl) (hb hby od_m_5_19) rfl (by decide) (by decide)
  obtain ⟨rfl, Nq33, e33⟩ := hQ33
  have N33 := Fr.app N15 Nq33
  refine own_s T33 (mkF m 22 #[rv a1, iv 1, iv 0, iv p4, iv p5, iv p6, iv p7, rv za1, rv za15] [(.ref sn), (.ref za1)]) st33 ?_
  obtain ⟨v34, T34, L34, X34, hQ34, st34⟩ := own_callV X33 hx hZ (y := own_y6) (z := own_y6) (W := 0) (a := za1) hown (own_h hw 120 rfl) (own_h hw 108 rfl) (notFace_of_selects (args := #[]) (mvT hZ (own_h hw 110 rfl))) (own_h hw 110 rfl) (own_h hw 109 rfl) (own_h hw 9 rfl) (own_h hw 111 rfl) (by decide) (own_rmeqD l Z a0 hw [] za1 sn zb1 zk1 (own_by (own_chr p4 (1 : Int32))) bn kn gC T15.heap n0 Z15 f29 f30 f31 f32 f20 f21 f22 f23 f28 hG (Ne.symm (own_nl pr4.lt sq_za1))) (by decide) (by decide) f29 (g := (mkF m 22 #[rv a1, iv 1, iv 0, iv p4, iv p5, iv p6, iv p7, rv za1, rv za15] [(.ref sn), (.ref za1)])) rfl (by rw [hml]; rfl) (argsL := [(.ref sn)]) (rest := []) rfl (lenOf own_pd8 rfl) rfl (by show 2 * 0 + _ ≤ _; exact Nat.le_of_eq rfl) (hb hby od_m_5_22) e33 (by decide) (by decide)
  obtain ⟨rfl, Nq34, e34⟩ := hQ34
  have N34 := Fr.app N33 Nq34
  refine own_s T34 (mkF m 25 #[rv a1, iv 1, iv 0, iv p4, iv p5, iv p6, iv p7, rv za1, rv za15] [(.int 1)]) st34 ?_
  refine own_s T34 (mkF m 32 #[rv a1, iv 1, iv 0, iv p4, iv p5, iv p6, iv p7, rv za1, rv za15] [(.int 1), (.ref a1), (.ref za15)]) (fun _ k => XS.ifNo X34.here hx rfl (hb hby od_m_5_25) rfl ((if0 _ _).trans (feq (by decide : ¬ ((1 : Int32) = (0 : Int32)))).1) (XS.aload X34.here hx rfl (hb hby od_m_5_28) rfl rfl (XS.aloadN X34.here hx rfl (hb hby od_m_5_30) rfl rfl (XS.iloadN X34.here hx rfl (hb hby od_m_5_31) rfl  k)))) ?_
  obtain ⟨v35, T35, L35, X35, hQ35, st35⟩ := own_callV X34 hx hZ (y := own_y15) (z := own_y15) (W := 1) (a := a1) hown (own_h hw 124 rfl) (own_h hw 125 rfl) (notFace_of_selects (args := #[]) (mvT hZ (own_h hw 127 rfl))) (own_h hw 127 rfl) (own_h hw 126 rfl) (own_h hw 2 rfl) (own_h hw 128 rfl) (by decide) (own_rmgv1_0 l Z a0 hw [] a1 d kd z v0 v1 (.ref sn) sv v4 v5 v6 v7 v8 v9 v10 v11 v12 T15.heap n0 Z15 f17 f18 f19 hz3) (by decide) (by decide) f16 (g := (mkF m 32 #[rv a1, iv 1, iv 0, iv p4, iv p5, iv p6, iv p7, rv za1, rv za15] [(.int 1), (.ref a1), (.ref za15)])) rfl (by rw [hml]; rfl) (argsL := [(.int 1)]) (rest := [(.ref za15)]) rfl (lenOf own_pd9 rfl) rfl (by show 2 * 0 + _ ≤ _; exact Nat.le_of_eq rfl) (hb hby od_m_5_32) e34 (by decide) (by decide)
  obtain ⟨rfl, Nq35, e35⟩ := hQ35
  have N35 := Fr.app N34 Nq35
  refine own_s T35 (mkF m 35 #[rv a1, iv 1, iv 0, iv p4, iv p5, iv p6, iv p7, rv za1, rv za15] [(.ref sv), (.ref za15)]) st35 ?_
  obtain ⟨v36, T36, L36, X36, hQ36, st36⟩ := own_callV X35 hx hZ (y := own_y6) (z := own_y6) (W := 0) (a := za15) hown (own_h hw 120 rfl) (own_h hw 108 rfl) (notFace_of_selects (args := #[]) (mvT hZ (own_h hw 110 rfl))) (own_h hw 110 rfl) (own_h hw 109 rfl) (own_h hw 9 rfl) (own_h hw 111 rfl) (by decide) (own_rmeqD l Z a0 hw [] za15 sv zb15 zk15 (own_by (own_chr p5 (1 : Int32))) bv kv gC T15.heap n0 Z15 q15_0 q15_1 q15_2 q15_3 f24 f25 f26 f27 f28 hG (Ne.symm (own_nl f10.lt sq_za15))) (by decide) (by decide) q15_0 (g := (mkF m 35 #[rv a1, iv 1, iv 0, iv p4, iv p5, iv p6, iv p7, rv za1, rv za15] [(.ref sv), (.ref za15)])) rfl (by rw [hml]; rfl) (argsL := [(.ref sv)]) (rest := []) rfl (lenOf own_pd8 rfl) rfl (by show 2 * 0 + _ ≤ _; exact Nat.le_of_eq rfl) (hb hby od_m_5_35) e35 (by decide) (by decide)
  obtain ⟨rfl, Nq36, e36⟩ := hQ36
  have N36 := Fr.app N35 Nq36
  refine own_s T36 (mkF m 38 #[rv a1, iv 1, iv 0, iv p4, iv p5, iv p6, iv p7, rv za1, rv za15] [(.int 1)]) st36 ?_
  refine own_s T36 (mkF m 89 #[rv a1, iv 1, iv 0, iv p4, iv p5, iv p6, iv p7, rv za1, rv za15] [(.int 1), (.ref a1)]) (fun _ k => XS.ifYes X36.here hx rfl (pc0 := 38) (pc' := 43) rfl (hb hby od_m_5_38) rfl ((if0 _ _).trans (feq (by decide : ¬ ((1 : Int32) = (0 : Int32)))).2) (by decide) (by decide) (XS.iloadN X36.here hx rfl (hb hby od_m_5_43) rfl  (XS.ifYes X36.here hx rfl (pc0 := 44) (pc' := 87) rfl (hb hby od_m_5_44) rfl ((if0 _ _).trans (teq (by decide : ((0 : Int32) = (0 : Int32)))).1) (by decide) (by decide) (XS.aloadN X36.here hx rfl (hb hby od_m_5_87) rfl rfl (XS.iloadN X36.here hx rfl (hb hby od_m_5_88) rfl  k))))) ?_
  obtain ⟨v37, T37, L37, X37, hQ37, st37⟩ := own_callV X36 hx hZ (y := own_y13) (z := own_y13) (W := 0) (a := a1) hown (own_h hw 129 rfl) (own_h hw 130 rfl) (notFace_of_selects (args := #[]) (mvT hZ (own_h hw 132 rfl))) (own_h hw 132 rfl) (own_h hw 131 rfl) (own_h hw 2 rfl) (own_h hw 133 rfl) (by decide) (own_rmgs0 l Z a0 hw [] a1 (1 : Int32) T15.heap n0 Z15 f18) (by decide) (by decide) f16 (g := (mkF m 89 #[rv a1, iv 1, iv 0, iv p4, iv p5, iv p6, iv p7, rv za1, rv za15] [(.int 1), (.ref a1)])) rfl (by rw [hml]; rfl) (argsL := [(.int 1)]) (rest := []) rfl (lenOf own_pd9 rfl) rfl (by show 2 * 0 + _ ≤ _; exact Nat.le_of_eq rfl) (hb hby od_m_5_89) e36 (by decide) (by decide)
  obtain ⟨rfl, Nq37, e37⟩ := hQ37
  have N37 := Fr.app N36 Nq37
  refine own_s T37 (mkF m 92 #[rv a1, iv 1, iv 0, iv p4, iv p5, iv p6, iv p7, rv za1, rv za15] [.null]) st37 ?_
  refine own_s T37 (mkF m 99 #[rv a1, iv 1, iv 0, iv p4, iv p5, iv p6, iv p7, rv za1, rv za15] [(.int 1), (.ref a1), (.ref za1)]) (fun _ k => XS.ifnonnullNo X37.here hx rfl (hb hby od_m_5_92) rfl (XS.aload X37.here hx rfl (hb hby od_m_5_95) rfl rfl (XS.aloadN X37.here hx rfl (hb hby od_m_5_97) rfl rfl (XS.iloadN X37.here hx rfl (hb hby od_m_5_98) rfl  k)))) ?_
  obtain ⟨v38, T38, L38, X38, hQ38, st38⟩ := own_callV X37 hx hZ (y := own_y16) (z := own_y16) (W := 1) (a := a1) hown (own_h hw 134 rfl) (own_h hw 135 rfl) (notFace_of_selects (args := #[]) (mvT hZ (own_h hw 137 rfl))) (own_h hw 137 rfl) (own_h hw 136 rfl) (own_h hw 2 rfl) (own_h hw 138 rfl) (by decide) (own_rmgl1_0 l Z a0 hw [] a1 d kd z v0 v1 sn (.ref sv) v4 v5 v6 v7 v8 v9 v10 v11 v12 T15.heap n0 Z15 f17 f18 f19 hz2) (by decide) (by decide) f16 (g := (mkF m 99 #[rv a1, iv 1, iv 0, iv p4, iv p5, iv p6, iv p7, rv za1, rv za15] [(.int 1), (.ref a1), (.ref za1)])) rfl (by rw [hml]; rfl) (argsL := [(.int 1)]) (rest := [(.ref za1)]) rfl (lenOf own_pd9 rfl) rfl (by show 2 * 0 + _ ≤ _; exact Nat.le_of_eq rfl) (hb hby od_m_5_99) e37 (by decide) (by decide)
  obtain ⟨rfl, Nq38, e38⟩ := hQ38
  have N38 := Fr.app N37 Nq38
  refine own_s T38 (mkF m 102 #[rv a1, iv 1, iv 0, iv p4, iv p5, iv p6, iv p7, rv za1, rv za15] [(.ref sn), (.ref za1)]) st38 ?_
  obtain ⟨v39, T39, L39, X39, hQ39, st39⟩ := own_callV X38 hx hZ (y := own_y6) (z := own_y6) (W := 0) (a := za1) hown (own_h hw 120 rfl) (own_h hw 108 rfl) (notFace_of_selects (args := #[]) (mvT hZ (own_h hw 110 rfl))) (own_h hw 110 rfl) (own_h hw 109 rfl) (own_h hw 9 rfl) (own_h hw 111 rfl) (by decide) (own_rmeqD l Z a0 hw [] za1 sn zb1 zk1 (own_by (own_chr p4 (1 : Int32))) bn kn gC T15.heap n0 Z15 f29 f30 f31 f32 f20 f21 f22 f23 f28 hG (Ne.symm (own_nl pr4.lt sq_za1))) (by decide) (by decide) f29 (g := (mkF m 102 #[rv a1, iv 1, iv 0, iv p4, iv p5, iv p6, iv p7, rv za1, rv za15] [(.ref sn), (.ref za1)])) rfl (by rw [hml]; rfl) (argsL := [(.ref sn)]) (rest := []) rfl (lenOf own_pd8 rfl) rfl (by show 2 * 0 + _ ≤ _; exact Nat.le_of_eq rfl) (hb hby od_m_5_102) e38 (by decide) (by decide)
  obtain ⟨rfl, Nq39, e39⟩ := hQ39
  have N39 := Fr.app N38 Nq39
  refine own_s T39 (mkF m 105 #[rv a1, iv 1, iv 0, iv p4, iv p5, iv p6, iv p7, rv za1, rv za15] [(.int 1)]) st39 ?_
  refine own_s T39 (mkF m 113 #[rv a1, iv 1, iv 0, iv p4, iv p5, iv p6, iv p7, rv za1, rv za15] [(.int 1)]) (fun _ k => XS.ifNo X39.here hx rfl (hb hby od_m_5_105) rfl ((if0 _ _).trans (feq (by decide : ¬ ((1 : Int32) = (0 : Int32)))).1) (XS.iconst X39.here hx rfl (hb hby od_m_5_108) (XS.goto X39.here hx rfl (pc0 := 109) (pc' := 113) rfl (hb hby od_m_5_109) (by decide) (by decide) k))) ?_
  exact own_finZ X39 hx (t := .boolean) hret (by simp) (z' := (1 : Int32)) rfl (hb hby od_m_5_113) (own_end (Qv := (own_Qchk1_0 Z a1 p4 p5 p6 p7 d kd z v0 v1 sn sv v4 v5 v6 v7 v8 v9 v10 v11 v12 bn kn bv kv gC h0 n0)) X39 (own_some hret) hlk (by decide) (by decide) e39 ⟨rfl, N39, K15⟩)
theorem own_efgn2_0 (m : MethodId) (x0 : Addr) (x1 : Int32) : entryFrame m #[(.ref x0), (.int x1)] 2 = mkF m 0 #[rv x0, iv x1] [] := by first | (simp [entryFrame, mkF, argsToLocals, Value.category]; done) | rfl
def own_Qgn2_0 (Z : State) (a1 : Addr) (d : Addr) (kd : ClassId) (z : Int32) (v0 : Value) (v1 : Value) (v2 : Value) (v3 : Value) (x : Addr) (v5 : Value) (v6 : Value) (v7 : Value) (v8 : Value) (v9 : Value) (v10 : Value) (v11 : Value) (v12 : Value) (h0 : Heap) (n0 : Nat) : Option Value → Heap → List Loc → Prop := fun v h L => v = some (.ref x) ∧ Fr n0 L ∧ h = h0
def own_Rgn2_0 : Room := { frames := 0, cells := 0, slots := 0, locals := 0 }
set_option maxRecDepth 65536 in
set_option maxHeartbeats 40000000 in
theorem own_rmgn2_0 (l : Launch) (Z : State) (a0 : Array Value) (hw : ∀ d ∈ tables_1, d.before a0 Z = true) (ws : List Jvm.Cond) (a1 : Addr) (d : Addr) (kd : ClassId) (z : Int32) (v0 : Value) (v1 : Value) (v2 : Value) (v3 : Value) (x : Addr) (v5 : Value) (v6 : Value) (v7 : Value) (v8 : Value) (v9 : Value) (v10 : Value) (v11 : Value) (v12 : Value) (h0 : Heap) (n0 : Nat) (Z0 : n0 ≤ h0.size) (pr0 : Fld Z h0 a1 "com/example/tagwright/tagwright/XmlElement" "attributes" "[Ljava/lang/String;" (.ref d)) (pr1 : Fld Z h0 a1 "com/example/tagwright/tagwright/XmlElement" "stride" "B" (.int 2)) (pr2 : Arv Z h0 d kd (.object "java/lang/String") z [v0, v1, v2, v3, (.ref x), v5, v6, v7, v8, v9, v10, v11, v12] .null) (hz4 : (4 : Int32) < z) :
    own_Met l Z own_y14 prog_100_method_18_code 2 (some (.object "java/lang/String")) ws own_Rgn2_0 h0 #[(.ref a1), (.int 2)] (own_Qgn2_0 Z a1 d kd z v0 v1 v2 v3 x v5 v6 v7 v8 v9 v10 v11 v12 h0 n0) own_Rgn2_0.cells own_Rgn2_0.slots := by
  refine own_start (plainFor_of_name own_pn3) ?_
  intro p e s m below meth c s₁ X0 hx hZ hby hml hret hlk hown hnm e0
  have hown : s.vm.findClass "com/example/tagwright/tagwright/XmlElement" = some m.cls := hown
  have hml : c.maxLocals = 2 := hml
  have N0 := Fr.nil n0
  refine own_cast (own_efgn2_0 m a1 (2 : Int32)) ?_
  refine own_s s₁ (mkF m 1 #[rv a1, iv 2] [(.ref a1)]) (fun _ k => XS.aloadN X0.here hx rfl (hb hby od_prog_100_m_18_0) rfl rfl k) ?_
  obtain ⟨T1, X1, e1, st1⟩ := getF X0 hx hZ hown (host := "") (Or.inl (own_h hw 60 rfl)) Via.refl e0 pr0 (g := (mkF m 1 #[rv a1, iv 2] [(.ref a1)])) rfl rfl (hb hby od_prog_100_m_18_1)
  refine own_s T1 (mkF m 4 #[rv a1, iv 2] [(.ref d)]) st1 ?_
  refine own_s T1 (mkF m 6 #[rv a1, iv 2] [(.ref a1), (.int 2), (.ref d)]) (fun _ k => XS.iloadN X1.here hx rfl (hb hby od_prog_100_m_18_4) rfl  (XS.aloadN X1.here hx rfl (hb hby od_prog_100_m_18_5) rfl rfl k)) ?_
  obtain ⟨T2, X2, e2, st2⟩ := getF X1 hx hZ hown (host := "") (Or.inl (own_h hw 65 rfl)) Via.refl e1 pr1 (g := (mkF m 6 #[rv a1, iv 2] [(.ref a1), (.int 2), (.ref d)])) rfl rfl (hb hby od_prog_100_m_18_6)
  refine own_s T2 (mkF m 9 #[rv a1, iv 2] [(.int 2), (.int 2), (.ref d)]) st2 ?_
  refine own_s T2 (mkF m 12 #[rv a1, iv 2] [(.int 4), (.ref d)]) (fun _ k => XS.imul X2.here hx rfl (hb hby od_prog_100_m_18_9) rfl (XS.iconst X2.here hx rfl (hb hby od_prog_100_m_18_10) (XS.iadd X2.here hx rfl (hb hby od_prog_100_m_18_11) rfl k))) ?_
  obtain ⟨cl3, Ar3, q3, S3, Nn3, H3, G3⟩ := id pr2
  have hin3 : ¬ ((4 : Int32) < 0 ∨ cl3.slots.size ≤ ((4 : Int32)).toNatClampNeg) := (inb_of S3 ⟨by decide, hz4⟩)
  refine own_s T2 (mkF m 13 #[rv a1, iv 2] [(.ref x)]) (fun _ k => X2.aaload hx (j := (4 : Int32)) (v := (.ref x)) (own_at e2 Ar3.1) (State.isArrayOf_alike hZ.alike Ar3.2.1) rfl Ar3.2.2 hin3 (Has.at H3 hin3 rfl) (g := (mkF m 12 #[rv a1, iv 2] [(.int 4), (.ref d)])) rfl rfl (hb hby od_prog_100_m_18_12) _ k) ?_
  exact own_finA X2 hx hret rfl rfl (hb hby od_prog_100_m_18_13) (own_end (Qv := (own_Qgn2_0 Z a1 d kd z v0 v1 v2 v3 x v5 v6 v7 v8 v9 v10 v11 v12 h0 n0)) X2 (own_some hret) hlk (by decide) (by decide) e2 ⟨rfl, N0, rfl⟩)
theorem own_efgv2_0 (m : MethodId) (x0 : Addr) (x1 : Int32) : entryFrame m #[(.ref x0), (.int x1)] 2 = mkF m 0 #[rv x0, iv x1] [] := by first | (simp [entryFrame, mkF, argsToLocals, Value.category]; done) | rfl
def own_Qgv2_0 (Z : State) (a1 : Addr) (d : Addr) (kd : ClassId) (z : Int32) (v0 : Value) (v1 : Value) (v2 : Value) (v3 : Value) (v4 : Value) (x : Addr) (v6 : Value) (v7 : Value) (v8 : Value) (v9 : Value) (v10 : Value) (v11 : Value) (v12 : Value) (h0 : Heap) (n0 : Nat) : Option Value → Heap → List Loc → Prop := fun v h L => v = some (.ref x) ∧ Fr n0 L ∧ h = h0
def own_Rgv2_0 : Room := { frames := 0, cells := 0, slots := 0, locals := 0 }
set_option maxRecDepth 65536 in
set_option maxHeartbeats 40000000 in
theorem own_rmgv2_0 (l : Launch) (Z : State) (a0 : Array Value) (hw : ∀ d ∈ tables_1, d.before a0 Z = true) (ws : List Jvm.Cond) (a1 : Addr) (d : Addr) (kd : ClassId) (z : Int32) (v0 : Value) (v1 : Value) (v2 : Value) (v3 : Value) (v4 : Value) (x : Addr) (v6 : Value) (v7 : Value) (v8 : Value) (v9 : Value) (v10 : Value) (v11 : Value) (v12 : Value) (h0 : Heap) (n0 : Nat) (Z0 : n0 ≤ h0.size) (pr0 : Fld Z h0 a1 "com/example/tagwright/tagwright/XmlElement" "attributes" "[Ljava/lang/String;" (.ref d)) (pr1 : Fld Z h0 a1 "com/example/tagwright/tagwright/XmlElement" "stride" "B" (.int 2)) (pr2 : Arv Z h0 d kd (.object "java/lang/String") z [v0, v1, v2, v3, v4, (.ref x), v6, v7, v8, v9, v10, v11, v12] .null) (hz5 : (5 : Int32) < z) :
    own_Met l Z own_y15 prog_100_method_19_code 2 (some (.object "java/lang/String")) ws own_Rgv2_0 h0 #[(.ref a1), (.int 2)] (own_Qgv2_0 Z a1 d kd z v0 v1 v2 v3 v4 x v6 v7 v8 v9 v10 v11 v12 h0 n0) own_Rgv2_0.cells own_Rgv2_0.slots := by
  refine own_start (plainFor_of_name own_pn3) ?_
  intro p e s m below meth c s₁ X0 hx hZ hby hml hret hlk hown hnm e0
  have hown : s.vm.findClass "com/example/tagwright/tagwright/XmlElement" = some m.cls := hown
  have hml : c.maxLocals = 2 := hml
  have N0 := Fr.nil n0
  refine own_cast (own_efgv2_0 m a1 (2 : Int32)) ?_
  refine own_s s₁ (mkF m 1 #[rv a1, iv 2] [(.ref a1)]) (fun _ k => XS.aloadN X0.here hx rfl (hb hby od_prog_100_m_19_0) rfl rfl k) ?_
  obtain ⟨T1, X1, e1, st1⟩ := getF X0 hx hZ hown (host := "") (Or.inl (own_h hw 60 rfl)) Via.refl e0 pr0 (g := (mkF m 1 #[rv a1, iv 2] [(.ref a1)])) rfl rfl (hb hby od_prog_100_m_19_1)
  refine own_s T1 (mkF m 4 #[rv a1, iv 2] [(.ref d)]) st1 ?_
  refine own_s T1 (mkF m 6 #[rv a1, iv 2] [(.ref a1), (.int 2), (.ref d)]) (fun _ k => XS.iloadN X1.here hx rfl (hb hby od_prog_100_m_19_4) rfl  (XS.aloadN X1.here hx rfl (hb hby od_prog_100_m_19_5) rfl rfl k)) ?_
  obtain ⟨T2, X2, e2, st2⟩ := getF X1 hx hZ hown (host := "") (Or.inl (own_h hw 65 rfl)) Via.refl e1 pr1 (g := (mkF m 6 #[rv a1, iv 2] [(.ref a1), (.int 2), (.ref d)])) rfl rfl (hb hby od_prog_100_m_19_6)
  refine own_s T2 (mkF m 9 #[rv a1, iv 2] [(.int 2), (.int 2), (.ref d)]) st2 ?_
  refine own_s T2 (mkF m 12 #[rv a1, iv 2] [(.int 5), (.ref d)]) (fun _ k => XS.imul X2.here hx rfl (hb hby od_prog_100_m_19_9) rfl (XS.iconst X2.here hx rfl (hb hby od_prog_100_m_19_10) (XS.iadd X2.here hx rfl (hb hby od_prog_100_m_19_11) rfl k))) ?_
  obtain ⟨cl3, Ar3, q3, S3, Nn3, H3, G3⟩ := id pr2
  have hin3 : ¬ ((5 : Int32) < 0 ∨ cl3.slots.size ≤ ((5 : Int32)).toNatClampNeg) := (inb_of S3 ⟨by decide, hz5⟩)
  refine own_s T2 (mkF m 13 #[rv a1, iv 2] [(.ref x)]) (fun _ k => X2.aaload hx (j := (5 : Int32)) (v := (.ref x)) (own_at e2 Ar3.1) (State.isArrayOf_alike hZ.alike Ar3.2.1) rfl Ar3.2.2 hin3 (Has.at H3 hin3 rfl) (g := (mkF m 12 #[rv a1, iv 2] [(.int 5), (.ref d)])) rfl rfl (hb hby od_prog_100_m_19_12) _ k) ?_
  exact own_finA X2 hx hret rfl rfl (hb hby od_prog_100_m_19_13) (own_end (Qv := (own_Qgv2_0 Z a1 d kd z v0 v1 v2 v3 v4 x v6 v7 v8 v9 v10 v11 v12 h0 n0)) X2 (own_some hret) hlk (by decide) (by decide) e2 ⟨rfl, N0, rfl⟩)
theorem own_efgl2_0 (m : MethodId) (x0 : Addr) (x1 : Int32) : entryFrame m #[(.ref x0), (.int x1)] 2 = mkF m 0 #[rv x0, iv x1] [] := by first | (simp [entryFrame, mkF, argsToLocals, Value.category]; done) | rfl
def own_Qgl2_0 (Z : State) (a1 : Addr) (d : Addr) (kd : ClassId) (z : Int32) (v0 : Value) (v1 : Value) (v2 : Value) (v3 : Value) (x : Addr) (v5 : Value) (v6 : Value) (v7 : Value) (v8 : Value) (v9 : Value) (v10 : Value) (v11 : Value) (v12 : Value) (h0 : Heap) (n0 : Nat) : Option Value → Heap → List Loc → Prop := fun v h L => v = some (.ref x) ∧ Fr n0 L ∧ h = h0
def own_Rgl2_0 : Room := { frames := 0, cells := 0, slots := 0, locals := 0 }
set_option maxRecDepth 65536 in
set_option maxHeartbeats 40000000 in
theorem own_rmgl2_0 (l : Launch) (Z : State) (a0 : Array Value) (hw : ∀ d ∈ tables_1, d.before a0 Z = true) (ws : List Jvm.Cond) (a1 : Addr) (d : Addr) (kd : ClassId) (z : Int32) (v0 : Value) (v1 : Value) (v2 : Value) (v3 : Value) (x : Addr) (v5 : Value) (v6 : Value) (v7 : Value) (v8 : Value) (v9 : Value) (v10 : Value) (v11 : Value) (v12 : Value) (h0 : Heap) (n0 : Nat) (Z0 : n0 ≤ h0.size) (pr0 : Fld Z h0 a1 "com/example/tagwright/tagwright/XmlElement" "attributes" "[Ljava/lang/String;" (.ref d)) (pr1 : Fld Z h0 a1 "com/example/tagwright/tagwright/XmlElement" "stride" "B" (.int 2)) (pr2 : Arv Z h0 d kd (.object "java/lang/String") z [v0, v1, v2, v3, (.ref x), v5, v6, v7, v8, v9, v10, v11, v12] .null) (hz4 : (4 : Int32) < z) :
    own_Met l Z own_y16 prog_100_method_17_code 2 (some (.object "java/lang/String")) ws own_Rgl2_0 h0 #[(.ref a1), (.int 2)] (own_Qgl2_0 Z a1 d kd z v0 v1 v2 v3 x v5 v6 v7 v8 v9 v10 v11 v12 h0 n0) own_Rgl2_0.cells own_Rgl2_0.slots := by
  refine own_start (plainFor_of_name own_pn3) ?_
  intro p e s m below meth c s₁ X0 hx hZ hby hml hret hlk hown hnm e0
  have hown : s.vm.findClass "com/example/tagwright/tagwright/XmlElement" = some m.cls := hown
  have hml : c.maxLocals = 2 := hml
  have N0 := Fr.nil n0
  refine own_cast (own_efgl2_0 m a1 (2 : Int32)) ?_
  refine own_s s₁ (mkF m 1 #[rv a1, iv 2] [(.ref a1)]) (fun _ k => XS.aloadN X0.here hx rfl (hb hby od_prog_100_m_17_0) rfl rfl k) ?_
  obtain ⟨T1, X1, e1, st1⟩ := getF X0 hx hZ hown (host := "") (Or.inl (own_h hw 60 rfl)) Via.refl e0 pr0 (g := (mkF m 1 #[rv a1, iv 2] [(.ref a1)])) rfl rfl (hb hby od_prog_100_m_17_1)
  refine own_s T1 (mkF m 4 #[rv a1, iv 2] [(.ref d)]) st1 ?_
  refine own_s T1 (mkF m 6 #[rv a1, iv 2] [(.ref a1), (.int 2), (.ref d)]) (fun _ k => XS.iloadN X1.here hx rfl (hb hby od_prog_100_m_17_4) rfl  (XS.aloadN X1.here hx rfl (hb hby od_prog_100_m_17_5) rfl rfl k)) ?_
  obtain ⟨T2, X2, e2, st2⟩ := getF X1 hx hZ hown (host := "") (Or.inl (own_h hw 65 rfl)) Via.refl e1 pr1 (g := (mkF m 6 #[rv a1, iv 2] [(.ref a1), (.int 2), (.ref d)])) rfl rfl (hb hby od_prog_100_m_17_6)
  refine own_s T2 (mkF m 9 #[rv a1, iv 2] [(.int 2), (.int 2), (.ref d)]) st2 ?_
  refine own_s T2 (mkF m 11 #[rv a1, iv 2] [(.ref a1), (.int 4), (.ref d)]) (fun _ k => XS.imul X2.here hx rfl (hb hby od_prog_100_m_17_9) rfl (XS.aloadN X2.here hx rfl (hb hby od_prog_100_m_17_10) rfl rfl k)) ?_
  obtain ⟨T3, X3, e3, st3⟩ := getF X2 hx hZ hown (host := "") (Or.inl (own_h hw 65 rfl)) Via.refl e2 pr1 (g := (mkF m 11 #[rv a1, iv 2] [(.ref a1), (.int 4), (.ref d)])) rfl rfl (hb hby od_prog_100_m_17_11)
  refine own_s T3 (mkF m 14 #[rv a1, iv 2] [(.int 2), (.int 4), (.ref d)]) st3 ?_
  refine own_s T3 (mkF m 24 #[rv a1, iv 2] [(.int 4), (.ref d)]) (fun _ k => XS.iconst X3.here hx rfl (hb hby od_prog_100_m_17_14) (XS.icmpYes X3.here hx rfl (pc0 := 15) (pc' := 22) rfl (hb hby od_prog_100_m_17_15) rfl (feq (by decide : ¬ ((2 : Int32) = (4 : Int32)))).2 (by decide) (by decide) (XS.iconst X3.here hx rfl (hb hby od_prog_100_m_17_22) (XS.iadd X3.here hx rfl (hb hby od_prog_100_m_17_23) rfl k)))) ?_
  obtain ⟨cl4, Ar4, q4, S4, Nn4, H4, G4⟩ := id pr2
  have hin4 : ¬ ((4 : Int32) < 0 ∨ cl4.slots.size ≤ ((4 : Int32)).toNatClampNeg) := (inb_of S4 ⟨by decide, hz4⟩)
  refine own_s T3 (mkF m 25 #[rv a1, iv 2] [(.ref x)]) (fun _ k => X3.aaload hx (j := (4 : Int32)) (v := (.ref x)) (own_at e3 Ar4.1) (State.isArrayOf_alike hZ.alike Ar4.2.1) rfl Ar4.2.2 hin4 (Has.at H4 hin4 rfl) (g := (mkF m 24 #[rv a1, iv 2] [(.int 4), (.ref d)])) rfl rfl (hb hby od_prog_100_m_17_24) _ k) ?_
  exact own_finA X3 hx hret rfl rfl (hb hby od_prog_100_m_17_25) (own_end (Qv := (own_Qgl2_0 Z a1 d kd z v0 v1 v2 v3 x v5 v6 v7 v8 v9 v10 v11 v12 h0 n0)) X3 (own_some hret) hlk (by decide) (by decide) e3 ⟨rfl, N0, rfl⟩)
theorem own_efchk2_0 (m : MethodId) (x0 : Addr) (x1 : Int32) (x2 : Int32) (x3 : Int32) (x4 : Int32) (x5 : Int32) (x6 : Int32) : entryFrame m #[(.ref x0), (.int x1), (.int x2), (.int x3), (.int x4), (.int x5), (.int x6)] 9 = mkF m 0 #[rv x0, iv x1, iv x2, iv x3, iv x4, iv x5, iv x6, u_, u_] [] := by first | (simp [entryFrame, mkF, argsToLocals, Value.category]; done) | rfl
def own_Qchk2_0 (Z : State) (a1 : Addr) (p4 : Int32) (p5 : Int32) (p6 : Int32) (p7 : Int32) (d : Addr) (kd : ClassId) (z : Int32) (v0 : Value) (v1 : Value) (v2 : Value) (v3 : Value) (sn : Addr) (sv : Addr) (v6 : Value) (v7 : Value) (v8 : Value) (v9 : Value) (v10 : Value) (v11 : Value) (v12 : Value) (bn : Addr) (kn : ClassId) (bv : Addr) (kv : ClassId) (gC : Int32) (h0 : Heap) (n0 : Nat) : Option Value → Heap → List Loc → Prop := fun v h L => v = some (.int 1) ∧ Fr n0 L ∧ Keep h0 h []
def own_Rchk2_0 : Room := { frames := 4, cells := 4, slots := 10, locals := 52 }
set_option maxRecDepth 65536 in
set_option maxHeartbeats 40000000 in
theorem own_rmchk2_0 (l : Launch) (Z : State) (a0 : Array Value) (hw : ∀ d ∈ tables_1, d.before a0 Z = true) (ws : List Jvm.Cond) (a1 : Addr) (p4 : Int32) (p5 : Int32) (p6 : Int32) (p7 : Int32) (d : Addr) (kd : ClassId) (z : Int32) (v0 : Value) (v1 : Value) (v2 : Value) (v3 : Value) (sn : Addr) (sv : Addr) (v6 : Value) (v7 : Value) (v8 : Value) (v9 : Value) (v10 : Value) (v11 : Value) (v12 : Value) (bn : Addr) (kn : ClassId) (bv : Addr) (kv : ClassId) (gC : Int32) (h0 : Heap) (n0 : Nat) (Z0 : n0 ≤ h0.size) (pr0 : Exa Z h0 a1 "com/example/tagwright/tagwright/XmlElement") (pr1 : Fld Z h0 a1 "com/example/tagwright/tagwright/XmlElement" "attributes" "[Ljava/lang/String;" (.ref d)) (pr2 : Fld Z h0 a1 "com/example/tagwright/tagwright/XmlElement" "stride" "B" (.int 2)) (pr3 : Arv Z h0 d kd (.object "java/lang/String") z [v0, v1, v2, v3, (.ref sn), (.ref sv), v6, v7, v8, v9, v10, v11, v12] .null) (pr4 : Exa Z h0 sn "java/lang/String") (pr5 : Fld Z h0 sn "java/lang/String" "coder" "B" (.int 0)) (pr6 : Fld Z h0 sn "java/lang/String" "value" "[B" (.ref bn)) (pr7 : Arv Z h0 bn kn .byte (1 : Int32) [(.int (own_by (own_chr p4 (2 : Int32))))] (.int 0)) (pr8 : Exa Z h0 sv "java/lang/String") (pr9 : Fld Z h0 sv "java/lang/String" "coder" "B" (.int 0)) (pr10 : Fld Z h0 sv "java/lang/String" "value" "[B" (.ref bv)) (pr11 : Arv Z h0 bv kv .byte (1 : Int32) [(.int (own_by (own_chr p5 (2 : Int32))))] (.int 0)) (pr12 : Sta Z h0 "java/lang/String" "COMPACT_STRINGS" "Z" (.int gC)) (hG : ¬ gC = (0 : Int32)) (hz4 : (4 : Int32) < z) (hz5 : (5 : Int32) < z) :
    own_Met l Z own_y17 method_5_code 9 (some .boolean) ws own_Rchk2_0 h0 #[(.ref a1), (.int 2), (.int 0), (.int p4), (.int p5), (.int p6), (.int p7)] (own_Qchk2_0 Z a1 p4 p5 p6 p7 d kd z v0 v1 v2 v3 sn sv v6 v7 v8 v9 v10 v11 v12 bn kn bv kv gC h0 n0) own_Rchk2_0.cells own_Rchk2_0.slots := by
  refine own_start (plainFor_of_name own_pn2) ?_
  intro p e s m below meth c s₁ X0 hx hZ hby hml hret hlk hown hnm e0
  have hown : s.vm.findClass "com/example/tagwright/tagwright/XmlElementNewAttributesPinLaw" = some m.cls := hown
  have hml : c.maxLocals = 9 := hml
  have N0 := Fr.nil n0
  refine own_cast (own_efchk2_0 m a1 (2 : Int32) (0 : Int32) p4 p5 p6 p7) ?_
  refine own_s s₁ (mkF m 2 #[rv a1, iv 2, iv 0, iv p4, iv p5, iv p6, iv p7, u_, u_] [(.int 2), (.int p4)]) (fun _ k => XS.iloadN X0.here hx rfl (hb hby od_m_5_0) rfl  (XS.iloadN X0.here hx rfl (hb hby od_m_5_1) rfl  k)) ?_
  obtain ⟨v1, T1, L1, X1, hQ1, st1⟩ := own_callS X0 hx hZ (y := own_y4) (W := 0) hown (own_h hw 82 rfl) (own_h hw 83 rfl) (own_h hw 80 rfl) (own_h hw 84 rfl) (by decide) (own_rmstr l Z a0 hw [] p4 (2 : Int32) gC h0 n0 Z0 pr12 hG) (by decide) (by decide) (g := (mkF m 2 #[rv a1, iv 2, iv 0, iv p4, iv p5, iv p6, iv p7, u_, u_] [(.int 2), (.int p4)])) rfl (by rw [hml]; rfl) (argsL := [(.int p4), (.int 2)]) (rest := []) rfl (lenOf own_pd6 rfl) rfl (by show 2 * 0 + _ ≤ _; exact Nat.le_of_eq rfl) (hb hby od_m_5_2) e0 (by decide) (by decide)
  obtain ⟨za1, zb1, zk1, rfl, Nq1, Kq1, g_za1, sq_za1, g_zb1, sq_zb1, q1_0, q1_1, q1_2, q1_3⟩ := hQ1
  have N1 := Fr.app N0 Nq1
  have sz_za1 : h0.size ≤ za1 := Nat.le_trans (Keep.refl h0 []).1 sq_za1
  have sz_zb1 : h0.size ≤ zb1 := Nat.le_trans (Keep.refl h0 []).1 sq_zb1
  have f2 := pr0.keep Kq1
  have f3 := pr1.keep Kq1 nin0
  have f4 := pr2.keep Kq1 nin0
  have f5 := pr3.keep Kq1 nin0
  have f6 := pr4.keep Kq1
  have f7 := pr5.keep Kq1 nin0
  have f8 := pr6.keep Kq1 nin0
  have f9 := pr7.keep Kq1 nin0
  have f10 := pr8.keep Kq1
  have f11 := pr9.keep Kq1 nin0
  have f12 := pr10.keep Kq1 nin0
  have f13 := pr11.keep Kq1 nin0
  have f14 := own_staKeep pr12 Kq1
  have K1 : Keep h0 T1.heap [] := (Keep.refl h0 []).trans Kq1 all0
  have Z1 := Nat.le_trans Z0 Kq1.1
  refine own_s T1 (mkF m 5 #[rv a1, iv 2, iv 0, iv p4, iv p5, iv p6, iv p7, u_, u_] [(.ref za1)]) st1 ?_
  refine own_s T1 (mkF m 10 #[rv a1, iv 2, iv 0, iv p4, iv p5, iv p6, iv p7, rv za1, u_] [(.int 2), (.int p5)]) (fun _ k => XS.astore X1.here hx rfl (hb hby od_m_5_5) rfl rfl (l' := #[rv a1, iv 2, iv 0, iv p4, iv p5, iv p6, iv p7, rv za1, u_]) rfl (XS.iload X1.here hx rfl (hb hby od_m_5_7) rfl  (XS.iloadN X1.here hx rfl (hb hby od_m_5_9) rfl  k))) ?_
  obtain ⟨v15, T15, L15, X15, hQ15, st15⟩ := own_callS X1 hx hZ (y := own_y4) (W := 0) hown (own_h hw 82 rfl) (own_h hw 83 rfl) (own_h hw 80 rfl) (own_h hw 84 rfl) (by decide) (own_rmstr l Z a0 hw [] p5 (2 : Int32) gC T1.heap n0 Z1 f14 hG) (by decide) (by decide) (g := (mkF m 10 #[rv a1, iv 2, iv 0, iv p4, iv p5, iv p6, iv p7, rv za1, u_] [(.int 2), (.int p5)])) rfl (by rw [hml]; rfl) (argsL := [(.int p5), (.int 2)]) (rest := []) rfl (lenOf own_pd6 rfl) rfl (by show 2 * 0 + _ ≤ _; exact Nat.le_of_eq rfl) (hb hby od_m_5_10) rfl (by decide) (by decide)
  obtain ⟨za15, zb15, zk15, rfl, Nq15, Kq15, g_za15, sq_za15, g_zb15, sq_zb15, q15_0, q15_1, q15_2, q15_3⟩ := hQ15
  have N15 := Fr.app N1 Nq15
  have sz_za15 : h0.size ≤ za15 := Nat.le_trans K1.1 sq_za15
  have sz_zb15 : h0.size ≤ zb15 := Nat.le_trans K1.1 sq_zb15
  have f16 := f2.keep Kq15
  have f17 := f3.keep Kq15 nin0
  have f18 := f4.keep Kq15 nin0
  have f19 := f5.keep Kq15 nin0
  have f20 := f6.keep Kq15
  have f21 := f7.keep Kq15 nin0
  have f22 := f8.keep Kq15 nin0
  have f23 := f9.keep Kq15 nin0
  have f24 := f10.keep Kq15
  have f25 := f11.keep Kq15 nin0
  have f26 := f12.keep Kq15 nin0
  have f27 := f13.keep Kq15 nin0
  have f28 := own_staKeep f14 Kq15
  have f29 := q1_0.keep Kq15
  have f30 := q1_1.keep Kq15 nin0
  have f31 := q1_2.keep Kq15 nin0
  have f32 := q1_3.keep Kq15 nin0
  have K15 : Keep h0 T15.heap [] := K1.trans Kq15 all0
  have Z15 := Nat.le_trans Z1 Kq15.1
  refine own_s T15 (mkF m 13 #[rv a1, iv 2, iv 0, iv p4, iv p5, iv p6, iv p7, rv za1, u_] [(.ref za15)]) st15 ?_
  refine own_s T15 (mkF m 19 #[rv a1, iv 2, iv 0, iv p4, iv p5, iv p6, iv p7, rv za1, rv za15] [(.int 2), (.ref a1), (.ref za1)]) (fun _ k => XS.astore X15.here hx rfl (hb hby od_m_5_13) rfl rfl (l' := #[rv a1, iv 2, iv 0, iv p4, iv p5, iv p6, iv p7, rv za1, rv za15]) rfl (XS.aload X15.here hx rfl (hb hby od_m_5_15) rfl rfl (XS.aloadN X15.here hx rfl (hb hby od_m_5_17) rfl rfl (XS.iloadN X15.here hx rfl (hb hby od_m_5_18) rfl  k)))) ?_
  obtain ⟨v33, T33, L33, X33, hQ33, st33⟩ := own_callV X15 hx hZ (y := own_y14) (z := own_y14) (W := 1) (a := a1) hown (own_h hw 115 rfl) (own_h hw 116 rfl) (notFace_of_selects (args := #[]) (mvT hZ (own_h hw 118 rfl))) (own_h hw 118 rfl) (own_h hw 117 rfl) (own_h hw 2 rfl) (own_h hw 119 rfl) (by decide) (own_rmgn2_0 l Z a0 hw [] a1 d kd z v0 v1 v2 v3 sn (.ref sv) v6 v7 v8 v9 v10 v11 v12 T15.heap n0 Z15 f17 f18 f19 hz4) (by decide) (by decide) f16 (g := (mkF m 19 #[rv a1, iv 2, iv 0, iv p4, iv p5, iv p6, iv p7, rv za1, rv za15] [(.int 2), (.ref a1), (.ref za1)])) rfl (by rw [hml]; rfl) (argsL := [(.int 2)]) (rest := [(.ref za1)]) rfl (lenOf own_pd9 rfl) rfl (by show 2 * 0 + _ ≤ _; exact Nat.le_of_eq rfl) (hb hby od_m_5_19) rfl (by decide) (by decide)
  obtain ⟨rfl, Nq33, e33⟩ := hQ33
  have N33 := Fr.app N15 Nq33
  refine own_s T33 (mkF m 22 #[rv a1, iv 2, iv 0, iv p4, iv p5, iv p6, iv p7, rv za1, rv za15] [(.ref sn), (.ref za1)]) st33 ?_
  obtain ⟨v34, T34, L34, X34, hQ34, st34⟩ := own_callV X33 hx hZ (y := own_y6) (z := own_y6) (W := 0) (a := za1) hown (own_h hw 120 rfl) (own_h hw 108 rfl) (notFace_of_selects (args := #[]) (mvT hZ (own_h hw 110 rfl))) (own_h hw 110 rfl) (own_h hw 109 rfl) (own_h hw 9 rfl) (own_h hw 111 rfl) (by decide) (own_rmeqD l Z a0 hw [] za1 sn zb1 zk1 (own_by (own_chr p4 (2 : Int32))) bn kn gC T15.heap n0 Z15 f29 f30 f31 f32 f20 f21 f22 f23 f28 hG (Ne.symm (own_nl pr4.lt sq_za1))) (by decide) (by decide) f29 (g := (mkF m 22 #[rv a1, iv 2, iv 0, iv p4, iv p5, iv p6, iv p7, rv za1, rv za15] [(.ref sn), (.ref za1)])) rfl (by rw [hml]; rfl) (argsL := [(.ref sn)]) (rest := []) rfl (lenOf own_pd8 rfl) rfl (by show 2 * 0 + _ ≤ _; exact Nat.le_of_eq rfl) (hb hby od_m_5_22) e33 (by decide) (by decide)
  obtain ⟨rfl, Nq34, e34⟩ := hQ34
  have N34 := Fr.app N33 Nq34
  refine own_s T34 (mkF m 25 #[rv a1, iv 2, iv 0, iv p4, iv p5, iv p6, iv p7, rv za1, rv za15] [(.int 1)]) st34 ?_
  refine own_s T34 (mkF m 32 #[rv a1, iv 2, iv 0, iv p4, iv p5, iv p6, iv p7, rv za1, rv za15] [(.int 2), (.ref a1), (.ref za15)]) (fun _ k => XS.ifNo X34.here hx rfl (hb hby od_m_5_25) rfl ((if0 _ _).trans (feq (by decide : ¬ ((1 : Int32) = (0 : Int32)))).1) (XS.aload X34.here hx rfl (hb hby od_m_5_28) rfl rfl (XS.aloadN X34.here hx rfl (hb hby od_m_5_30) rfl rfl (XS.iloadN X34.here hx rfl (hb hby od_m_5_31) rfl  k)))) ?_
  obtain ⟨v35, T35, L35, X35, hQ35, st35⟩ := own_callV X34 hx hZ (y := own_y15) (z := own_y15) (W := 1) (a := a1) hown (own_h hw 124 rfl) (own_h hw 125 rfl) (notFace_of_selects (args := #[]) (mvT hZ (own_h hw 127 rfl))) (own_h hw 127 rfl) (own_h hw 126 rfl) (own_h hw 2 rfl) (own_h hw 128 rfl) (by decide) (own_rmgv2_0 l Z a0 hw [] a1 d kd z v0 v1 v2 v3 (.ref sn) sv v6 v7 v8 v9 v10 v11 v12 T15.heap n0 Z15 f17 f18 f19 hz5) (by decide) (by decide) f16 (g := (mkF m 32 #[rv a1, iv 2, iv 0, iv p4, iv p5, iv p6, iv p7, rv za1, rv za15] [(.int 2), (.ref a1), (.ref za15)])) rfl (by rw [hml]; rfl) (argsL := [(.int 2)]) (rest := [(.ref za15)]) rfl (lenOf own_pd9 rfl) rfl (by show 2 * 0 + _ ≤ _; exact Nat.le_of_eq rfl) (hb hby od_m_5_32) e34 (by decide) (by decide)
  obtain ⟨rfl, Nq35, e35⟩ := hQ35
  have N35 := Fr.app N34 Nq35
  refine own_s T35 (mkF m 35 #[rv a1, iv 2, iv 0, iv p4, iv p5, iv p6, iv p7, rv za1, rv za15] [(.ref sv), (.ref za15)]) st35 ?_
  obtain ⟨v36, T36, L36, X36, hQ36, st36⟩ := own_callV X35 hx hZ (y := own_y6) (z := own_y6) (W := 0) (a := za15) hown (own_h hw 120 rfl) (own_h hw 108 rfl) (notFace_of_selects (args := #[]) (mvT hZ (own_h hw 110 rfl))) (own_h hw 110 rfl) (own_h hw 109 rfl) (own_h hw 9 rfl) (own_h hw 111 rfl) (by decide) (own_rmeqD l Z a0 hw [] za15 sv zb15 zk15 (own_by (own_chr p5 (2 : Int32))) bv kv gC T15.heap n0 Z15 q15_0 q15_1 q15_2 q15_3 f24 f25 f26 f27 f28 hG (Ne.symm (own_nl f10.lt sq_za15))) (by decide) (by decide) q15_0 (g := (mkF m 35 #[rv a1, iv 2, iv 0, iv p4, iv p5, iv p6, iv p7, rv za1, rv za15] [(.ref sv), (.ref za15)])) rfl (by rw [hml]; rfl) (argsL := [(.ref sv)]) (rest := []) rfl (lenOf own_pd8 rfl) rfl (by show 2 * 0 + _ ≤ _; exact Nat.le_of_eq rfl) (hb hby od_m_5_35) e35 (by decide) (by decide)
  obtain ⟨rfl, Nq36, e36⟩ := hQ36
  have N36 := Fr.app N35 Nq36
  refine own_s T36 (mkF m 38 #[rv a1, iv 2, iv 0, iv p4, iv p5, iv p6, iv p7, rv za1, rv za15] [(.int 1)]) st36 ?_
  refine own_s T36 (mkF m 89 #[rv a1, iv 2, iv 0, iv p4, iv p5, iv p6, iv p7, rv za1, rv za15] [(.int 2), (.ref a1)]) (fun _ k => XS.ifYes X36.here hx rfl (pc0 := 38) (pc' := 43) rfl (hb hby od_m_5_38) rfl ((if0 _ _).trans (feq (by decide : ¬ ((1 : Int32) = (0 : Int32)))).2) (by decide) (by decide) (XS.iloadN X36.here hx rfl (hb hby od_m_5_43) rfl  (XS.ifYes X36.here hx rfl (pc0 := 44) (pc' := 87) rfl (hb hby od_m_5_44) rfl ((if0 _ _).trans (teq (by decide : ((0 : Int32) = (0 : Int32)))).1) (by decide) (by decide) (XS.aloadN X36.here hx rfl (hb hby od_m_5_87) rfl rfl (XS.iloadN X36.here hx rfl (hb hby od_m_5_88) rfl  k))))) ?_
  obtain ⟨v37, T37, L37, X37, hQ37, st37⟩ := own_callV X36 hx hZ (y := own_y13) (z := own_y13) (W := 0) (a := a1) hown (own_h hw 129 rfl) (own_h hw 130 rfl) (notFace_of_selects (args := #[]) (mvT hZ (own_h hw 132 rfl))) (own_h hw 132 rfl) (own_h hw 131 rfl) (own_h hw 2 rfl) (own_h hw 133 rfl) (by decide) (own_rmgs0 l Z a0 hw [] a1 (2 : Int32) T15.heap n0 Z15 f18) (by decide) (by decide) f16 (g := (mkF m 89 #[rv a1, iv 2, iv 0, iv p4, iv p5, iv p6, iv p7, rv za1, rv za15] [(.int 2), (.ref a1)])) rfl (by rw [hml]; rfl) (argsL := [(.int 2)]) (rest := []) rfl (lenOf own_pd9 rfl) rfl (by show 2 * 0 + _ ≤ _; exact Nat.le_of_eq rfl) (hb hby od_m_5_89) e36 (by decide) (by decide)
  obtain ⟨rfl, Nq37, e37⟩ := hQ37
  have N37 := Fr.app N36 Nq37
  refine own_s T37 (mkF m 92 #[rv a1, iv 2, iv 0, iv p4, iv p5, iv p6, iv p7, rv za1, rv za15] [.null]) st37 ?_
  refine own_s T37 (mkF m 99 #[rv a1, iv 2, iv 0, iv p4, iv p5, iv p6, iv p7, rv za1, rv za15] [(.int 2), (.ref a1), (.ref za1)]) (fun _ k => XS.ifnonnullNo X37.here hx rfl (hb hby od_m_5_92) rfl (XS.aload X37.here hx rfl (hb hby od_m_5_95) rfl rfl (XS.aloadN X37.here hx rfl (hb hby od_m_5_97) rfl rfl (XS.iloadN X37.here hx rfl (hb hby od_m_5_98) rfl  k)))) ?_
  obtain ⟨v38, T38, L38, X38, hQ38, st38⟩ := own_callV X37 hx hZ (y := own_y16) (z := own_y16) (W := 1) (a := a1) hown (own_h hw 134 rfl) (own_h hw 135 rfl) (notFace_of_selects (args := #[]) (mvT hZ (own_h hw 137 rfl))) (own_h hw 137 rfl) (own_h hw 136 rfl) (own_h hw 2 rfl) (own_h hw 138 rfl) (by decide) (own_rmgl2_0 l Z a0 hw [] a1 d kd z v0 v1 v2 v3 sn (.ref sv) v6 v7 v8 v9 v10 v11 v12 T15.heap n0 Z15 f17 f18 f19 hz4) (by decide) (by decide) f16 (g := (mkF m 99 #[rv a1, iv 2, iv 0, iv p4, iv p5, iv p6, iv p7, rv za1, rv za15] [(.int 2), (.ref a1), (.ref za1)])) rfl (by rw [hml]; rfl) (argsL := [(.int 2)]) (rest := [(.ref za1)]) rfl (lenOf own_pd9 rfl) rfl (by show 2 * 0 + _ ≤ _; exact Nat.le_of_eq rfl) (hb hby od_m_5_99) e37 (by decide) (by decide)
  obtain ⟨rfl, Nq38, e38⟩ := hQ38
  have N38 := Fr.app N37 Nq38
  refine own_s T38 (mkF m 102 #[rv a1, iv 2, iv 0, iv p4, iv p5, iv p6, iv p7, rv za1, rv za15] [(.ref sn), (.ref za1)]) st38 ?_
  obtain ⟨v39, T39, L39, X39, hQ39, st39⟩ := own_callV X38 hx hZ (y := own_y6) (z := own_y6) (W := 0) (a := za1) hown (own_h hw 120 rfl) (own_h hw 108 rfl) (notFace_of_selects (args := #[]) (mvT hZ (own_h hw 110 rfl))) (own_h hw 110 rfl) (own_h hw 109 rfl) (own_h hw 9 rfl) (own_h hw 111 rfl) (by decide) (own_rmeqD l Z a0 hw [] za1 sn zb1 zk1 (own_by (own_chr p4 (2 : Int32))) bn kn gC T15.heap n0 Z15 f29 f30 f31 f32 f20 f21 f22 f23 f28 hG (Ne.symm (own_nl pr4.lt sq_za1))) (by decide) (by decide) f29 (g := (mkF m 102 #[rv a1, iv 2, iv 0, iv p4, iv p5, iv p6, iv p7, rv za1, rv za15] [(.ref sn), (.ref za1)])) rfl (by rw [hml]; rfl) (argsL := [(.ref sn)]) (rest := []) rfl (lenOf own_pd8 rfl) rfl (by show 2 * 0 + _ ≤ _; exact Nat.le_of_eq rfl) (hb hby od_m_5_102) e38 (by decide) (by decide)
  obtain ⟨rfl, Nq39, e39⟩ := hQ39
  have N39 := Fr.app N38 Nq39
  refine own_s T39 (mkF m 105 #[rv a1, iv 2, iv 0, iv p4, iv p5, iv p6, iv p7, rv za1, rv za15] [(.int 1)]) st39 ?_
  refine own_s T39 (mkF m 113 #[rv a1, iv 2, iv 0, iv p4, iv p5, iv p6, iv p7, rv za1, rv za15] [(.int 1)]) (fun _ k => XS.ifNo X39.here hx rfl (hb hby od_m_5_105) rfl ((if0 _ _).trans (feq (by decide : ¬ ((1 : Int32) = (0 : Int32)))).1) (XS.iconst X39.here hx rfl (hb hby od_m_5_108) (XS.goto X39.here hx rfl (pc0 := 109) (pc' := 113) rfl (hb hby od_m_5_109) (by decide) (by decide) k))) ?_
  exact own_finZ X39 hx (t := .boolean) hret (by simp) (z' := (1 : Int32)) rfl (hb hby od_m_5_113) (own_end (Qv := (own_Qchk2_0 Z a1 p4 p5 p6 p7 d kd z v0 v1 v2 v3 sn sv v6 v7 v8 v9 v10 v11 v12 bn kn bv kv gC h0 n0)) X39 (own_some hret) hlk (by decide) (by decide) e39 ⟨rfl, N39, K15⟩)
abbrev own_y18 : MethodName := ⟨"java/util/AbstractCollection", "<init>", "()V"⟩
theorem own_pn4 : plainName "java/util/AbstractCollection" = true := by first | (simp [plainName, overriddenIn]; done) | decide +kernel
theorem od_jdk_22_m_1_0 : decode jdk_22_method_1_code 0 = .ok (.aload_n 0, 1) := by decide +kernel
theorem od_jdk_22_m_1_1 : decode jdk_22_method_1_code 1 = .ok (.invokespecial 1, 3) := by decide +kernel
theorem od_jdk_22_m_1_4 : decode jdk_22_method_1_code 4 = .ok (.return_, 1) := by decide +kernel
theorem own_efabc (m : MethodId) (x0 : Addr) : entryFrame m #[(.ref x0)] 1 = mkF m 0 #[rv x0] [] := by first | (simp [entryFrame, mkF, argsToLocals, Value.category]; done) | rfl
def own_Qabc (Z : State) (a1 : Addr) (h0 : Heap) (n0 : Nat) : Option Value → Heap → List Loc → Prop := fun v h L => v = none ∧ Fr n0 L ∧ h = h0
def own_Rabc : Room := { frames := 1, cells := 0, slots := 0, locals := 12 }
set_option maxRecDepth 65536 in
set_option maxHeartbeats 40000000 in
theorem own_rmabc (l : Launch) (Z : State) (a0 : Array Value) (hw : ∀ d ∈ tables_1, d.before a0 Z = true) (ws : List Jvm.Cond) (a1 : Addr) (h0 : Heap) (n0 : Nat) (Z0 : n0 ≤ h0.size) :
    own_Met l Z own_y18 jdk_22_method_1_code 1 none ws own_Rabc h0 #[(.ref a1)] (own_Qabc Z a1 h0 n0) own_Rabc.cells own_Rabc.slots := by
  refine own_start (plainFor_of_name own_pn4) ?_
  intro p e s m below meth c s₁ X0 hx hZ hby hml hret hlk hown hnm e0
  have hown : s.vm.findClass "java/util/AbstractCollection" = some m.cls := hown
  have hml : c.maxLocals = 1 := hml
  have N0 := Fr.nil n0
  refine own_cast (own_efabc m a1) ?_
  refine own_s s₁ (mkF m 1 #[rv a1] [(.ref a1)]) (fun _ k => XS.aloadN X0.here hx rfl (hb hby od_jdk_22_m_1_0) rfl rfl k) ?_
  obtain ⟨T1, X1, e1, st1⟩ := initO X0 hx hZ hown (own_h hw 34 rfl) (own_h hw 35 rfl) (own_h hw 36 rfl) e0 (g := (mkF m 1 #[rv a1] [(.ref a1)])) rfl (by rw [hml]; rfl) rfl (hb hby od_jdk_22_m_1_1) (by decide) (W := 0) (by show 2 * 0 + _ ≤ _; exact Nat.le_of_eq rfl) (by decide)
  refine own_s T1 (mkF m 4 #[rv a1] []) st1 ?_
  exact own_finV X1 hx hret (hb hby od_jdk_22_m_1_4) (own_end (Qv := (own_Qabc Z a1 h0 n0)) X1 (fun _ => rfl) hlk (by decide) (by decide) e1 ⟨rfl, N0, rfl⟩)
theorem own_pd10 : parseMethodDescriptor "()V" = some ⟨[], none⟩ := by decide +kernel
abbrev own_y19 : MethodName := ⟨"java/util/AbstractList", "<init>", "()V"⟩
theorem own_pn5 : plainName "java/util/AbstractList" = true := by first | (simp [plainName, overriddenIn]; done) | decide +kernel
theorem od_jdk_39_m_1_0 : decode jdk_39_method_1_code 0 = .ok (.aload_n 0, 1) := by decide +kernel
theorem od_jdk_39_m_1_1 : decode jdk_39_method_1_code 1 = .ok (.invokespecial 1, 3) := by decide +kernel
theorem od_jdk_39_m_1_4 : decode jdk_39_method_1_code 4 = .ok (.aload_n 0, 1) := by decide +kernel
theorem od_jdk_39_m_1_5 : decode jdk_39_method_1_code 5 = .ok (.iconst 0, 1) := by decide +kernel
theorem od_jdk_39_m_1_6 : decode jdk_39_method_1_code 6 = .ok (.putfield 7, 3) := by decide +kernel
theorem od_jdk_39_m_1_9 : decode jdk_39_method_1_code 9 = .ok (.return_, 1) := by decide +kernel
theorem own_efabl (m : MethodId) (x0 : Addr) : entryFrame m #[(.ref x0)] 1 = mkF m 0 #[rv x0] [] := by first | (simp [entryFrame, mkF, argsToLocals, Value.category]; done) | rfl
def own_Qabl (Z : State) (a1 : Addr) (h0 : Heap) (n0 : Nat) : Option Value → Heap → List Loc → Prop := fun v h L => v = none ∧ Fr n0 L ∧ Keep h0 h [a1] ∧ Exa Z h a1 "java/util/ArrayList" ∧ Fld Z h a1 "java/util/AbstractList" "modCount" "I" (.int 0) ∧ Fld Z h a1 "java/util/ArrayList" "elementData" "[Ljava/lang/Object;" .null
def own_Rabl : Room := { frames := 2, cells := 0, slots := 0, locals := 24 }
set_option maxRecDepth 65536 in
set_option maxHeartbeats 40000000 in
theorem own_rmabl (l : Launch) (Z : State) (a0 : Array Value) (hw : ∀ d ∈ tables_1, d.before a0 Z = true) (ws : List Jvm.Cond) (a1 : Addr) (h0 : Heap) (n0 : Nat) (Z0 : n0 ≤ h0.size) (g_a1 : n0 ≤ a1) (pr1 : Exa Z h0 a1 "java/util/ArrayList") (pr2 : Fld Z h0 a1 "java/util/AbstractList" "modCount" "I" (.int 0)) (pr3 : Fld Z h0 a1 "java/util/ArrayList" "elementData" "[Ljava/lang/Object;" .null) :
    own_Met l Z own_y19 jdk_39_method_1_code 1 none ws own_Rabl h0 #[(.ref a1)] (own_Qabl Z a1 h0 n0) own_Rabl.cells own_Rabl.slots := by
  refine own_start (plainFor_of_name own_pn5) ?_
  intro p e s m below meth c s₁ X0 hx hZ hby hml hret hlk hown hnm e0
  have hown : s.vm.findClass "java/util/AbstractList" = some m.cls := hown
  have hml : c.maxLocals = 1 := hml
  have N0 := Fr.nil n0
  refine own_cast (own_efabl m a1) ?_
  refine own_s s₁ (mkF m 1 #[rv a1] [(.ref a1)]) (fun _ k => XS.aloadN X0.here hx rfl (hb hby od_jdk_39_m_1_0) rfl rfl k) ?_
  obtain ⟨v1, T1, L1, X1, hQ1, st1⟩ := own_callI X0 hx hZ (y := own_y18) (W := 0) (a := a1) rfl hown (own_h hw 28 rfl) (own_h hw 29 rfl) (own_h hw 32 rfl) (own_h hw 33 rfl) (by decide) (own_rmabc l Z a0 hw [] a1 h0 n0 Z0) (by decide) (by decide) (g := (mkF m 1 #[rv a1] [(.ref a1)])) rfl (by rw [hml]; rfl) (argsL := []) (rest := []) rfl (lenOf own_pd10 rfl) rfl (by show 2 * 0 + _ ≤ _; exact Nat.le_of_eq rfl) (hb hby od_jdk_39_m_1_1) e0 (by decide) (by decide)
  obtain ⟨rfl, Nq1, e1⟩ := hQ1
  have N1 := Fr.app N0 Nq1
  refine own_s T1 (mkF m 4 #[rv a1] []) st1 ?_
  refine own_s T1 (mkF m 6 #[rv a1] [(.int 0), (.ref a1)]) (fun _ k => XS.aloadN X1.here hx rfl (hb hby od_jdk_39_m_1_4) rfl rfl (XS.iconst X1.here hx rfl (hb hby od_jdk_39_m_1_5) k)) ?_
  obtain ⟨T2, h2, X2, e2, W2, st2⟩ := putF X1 hx hZ hown (host := "") (Or.inl (own_h hw 37 rfl)) Via.refl e1 pr2 pr1 (Or.inl (own_h hw 38 rfl)) (own_h hw 17 rfl) (ty := .int) (by decide) rfl rfl (g := (mkF m 6 #[rv a1] [(.int 0), (.ref a1)])) rfl rfl (hb hby od_jdk_39_m_1_6)
  have Fw2 := Fld.same W2 pr2
  have f3 := Exa.wr W2 pr1
  have f4 := Fld.other W2 pr3 (Or.inr (slot_ne (Or.inl (own_h hw 41 rfl)) (Or.inl (own_h hw 38 rfl)) (by decide) (t := (.array (.object "java/lang/Object"))) (t' := .int) (by decide) (by decide)))
  have K2 : Keep h0 h2 [a1] := (Keep.refl h0 [a1]).wr W2 (Or.inl (List.mem_of_getElem? (i := 0) rfl))
  have Z2 := Nat.le_trans Z0 (Nat.le_of_eq W2.size.symm)
  have N2 := Fr.snoc X2 N1 g_a1
  refine own_s T2 (mkF m 9 #[rv a1] []) st2 ?_
  exact own_finV X2 hx hret (hb hby od_jdk_39_m_1_9) (own_end (Qv := (own_Qabl Z a1 h0 n0)) X2 (fun _ => rfl) hlk (by decide) (by decide) e2 ⟨rfl, N2, K2, f3, Fw2, f4⟩)
abbrev own_y20 : MethodName := ⟨"java/util/ArrayList", "<init>", "()V"⟩
theorem own_pn6 : plainName "java/util/ArrayList" = true := by first | (simp [plainName, overriddenIn]; done) | decide +kernel
theorem od_jdk_38_m_2_0 : decode jdk_38_method_2_code 0 = .ok (.aload_n 0, 1) := by decide +kernel
theorem od_jdk_38_m_2_1 : decode jdk_38_method_2_code 1 = .ok (.invokespecial 1, 3) := by decide +kernel
theorem od_jdk_38_m_2_4 : decode jdk_38_method_2_code 4 = .ok (.aload_n 0, 1) := by decide +kernel
theorem od_jdk_38_m_2_5 : decode jdk_38_method_2_code 5 = .ok (.getstatic 39, 3) := by decide +kernel
theorem od_jdk_38_m_2_8 : decode jdk_38_method_2_code 8 = .ok (.putfield 9, 3) := by decide +kernel
theorem od_jdk_38_m_2_11 : decode jdk_38_method_2_code 11 = .ok (.return_, 1) := by decide +kernel
theorem own_efal (m : MethodId) (x0 : Addr) : entryFrame m #[(.ref x0)] 1 = mkF m 0 #[rv x0] [] := by first | (simp [entryFrame, mkF, argsToLocals, Value.category]; done) | rfl
def own_Qal (Z : State) (a1 : Addr) (oD : Addr) (h0 : Heap) (n0 : Nat) : Option Value → Heap → List Loc → Prop := fun v h L => v = none ∧ Fr n0 L ∧ Keep h0 h [a1] ∧ Exa Z h a1 "java/util/ArrayList"
def own_Ral : Room := { frames := 3, cells := 0, slots := 0, locals := 36 }
set_option maxRecDepth 65536 in
set_option maxHeartbeats 40000000 in
theorem own_rmal (l : Launch) (Z : State) (a0 : Array Value) (hw : ∀ d ∈ tables_1, d.before a0 Z = true) (ws : List Jvm.Cond) (a1 : Addr) (oD : Addr) (h0 : Heap) (n0 : Nat) (Z0 : n0 ≤ h0.size) (g_a1 : n0 ≤ a1) (pr1 : Sta Z h0 "java/util/ArrayList" "DEFAULTCAPACITY_EMPTY_ELEMENTDATA" "[Ljava/lang/Object;" (.ref oD)) (pr2 : Exa Z h0 a1 "java/util/ArrayList") (pr3 : Fld Z h0 a1 "java/util/AbstractList" "modCount" "I" (.int 0)) (pr4 : Fld Z h0 a1 "java/util/ArrayList" "elementData" "[Ljava/lang/Object;" .null) :
    own_Met l Z own_y20 jdk_38_method_2_code 1 none ws own_Ral h0 #[(.ref a1)] (own_Qal Z a1 oD h0 n0) own_Ral.cells own_Ral.slots := by
  refine own_start (plainFor_of_name own_pn6) ?_
  intro p e s m below meth c s₁ X0 hx hZ hby hml hret hlk hown hnm e0
  have hown : s.vm.findClass "java/util/ArrayList" = some m.cls := hown
  have hml : c.maxLocals = 1 := hml
  have N0 := Fr.nil n0
  refine own_cast (own_efal m a1) ?_
  refine own_s s₁ (mkF m 1 #[rv a1] [(.ref a1)]) (fun _ k => XS.aloadN X0.here hx rfl (hb hby od_jdk_38_m_2_0) rfl rfl k) ?_
  obtain ⟨v1, T1, L1, X1, hQ1, st1⟩ := own_callI X0 hx hZ (y := own_y19) (W := 0) (a := a1) rfl hown (own_h hw 22 rfl) (own_h hw 23 rfl) (own_h hw 26 rfl) (own_h hw 27 rfl) (by decide) (own_rmabl l Z a0 hw [] a1 h0 n0 Z0 g_a1 pr2 pr3 pr4) (by decide) (by decide) (g := (mkF m 1 #[rv a1] [(.ref a1)])) rfl (by rw [hml]; rfl) (argsL := []) (rest := []) rfl (lenOf own_pd10 rfl) rfl (by show 2 * 0 + _ ≤ _; exact Nat.le_of_eq rfl) (hb hby od_jdk_38_m_2_1) e0 (by decide) (by decide)
  obtain ⟨rfl, Nq1, Kq1, q1_0, q1_1, q1_2⟩ := hQ1
  have N1 := Fr.app N0 Nq1
  have f2 := own_staKeepW pr1 Kq1 (allS pr2.nostat all0)
  have f3 := pr2.keep Kq1
  have K1 : Keep h0 T1.heap [a1] := (Keep.refl h0 [a1]).trans Kq1 (allS (Or.inl (List.mem_of_getElem? (i := 0) rfl)) all0)
  have Z1 := Nat.le_trans Z0 Kq1.1
  refine own_s T1 (mkF m 4 #[rv a1] []) st1 ?_
  refine own_s T1 (mkF m 5 #[rv a1] [(.ref a1)]) (fun _ k => XS.aloadN X1.here hx rfl (hb hby od_jdk_38_m_2_4) rfl rfl k) ?_
  obtain ⟨T4, X4, e4, st4⟩ := getS2 X1 hx hZ hown (host := "") (Or.inl (own_h hw 39 rfl)) Via.refl rfl f2 (g := (mkF m 5 #[rv a1] [(.ref a1)])) rfl (hb hby od_jdk_38_m_2_5)
  refine own_s T4 (mkF m 8 #[rv a1] [(.ref oD), (.ref a1)]) st4 ?_
  obtain ⟨T5, h5, X5, e5, W5, st5⟩ := putF X4 hx hZ hown (host := "") (Or.inl (own_h hw 40 rfl)) Via.refl e4 q1_2 q1_0 (Or.inl (own_h hw 41 rfl)) (own_h hw 17 rfl) (ty := (.array (.object "java/lang/Object"))) (by decide) rfl rfl (g := (mkF m 8 #[rv a1] [(.ref oD), (.ref a1)])) rfl rfl (hb hby od_jdk_38_m_2_8)
  have Fw5 := Fld.same W5 q1_2
  have f6 := Sta.wr W5 f2
  have f7 := Exa.wr W5 q1_0
  have f8 := Fld.other W5 q1_1 (Or.inr (slot_ne (Or.inl (own_h hw 38 rfl)) (Or.inl (own_h hw 41 rfl)) (by decide) (t := .int) (t' := (.array (.object "java/lang/Object"))) (by decide) (by decide)))
  have K5 : Keep h0 h5 [a1] := K1.wr W5 (Or.inl (List.mem_of_getElem? (i := 0) rfl))
  have Z5 := Nat.le_trans Z1 (Nat.le_of_eq W5.size.symm)
  have N5 := Fr.snoc X5 N1 g_a1
  refine own_s T5 (mkF m 11 #[rv a1] []) st5 ?_
  exact own_finV X5 hx hret (hb hby od_jdk_38_m_2_11) (own_end (Qv := (own_Qal Z a1 oD h0 n0)) X5 (fun _ => rfl) hlk (by decide) (by decide) e5 ⟨rfl, N5, K5, f7⟩)
theorem own_pd11 : parseMethodDescriptor "(IZ)[Ljava/lang/String;" = some ⟨[.int, .boolean], some (.array (.object "java/lang/String"))⟩ := by decide +kernel
theorem own_pd12 : parseMethodDescriptor "(Ljava/lang/String;Ljava/lang/String;Ljava/lang/String;Ljava/util/List;[Ljava/lang/String;Lcom/example/tagwright/tagwright/Location;Lcom/example/tagwright/tagwright/XmlElement;)V" = some ⟨[(.object "java/lang/String"), (.object "java/lang/String"), (.object "java/lang/String"), (.object "java/util/List"), (.array (.object "java/lang/String")), (.object "com/example/tagwright/tagwright/Location"), (.object "com/example/tagwright/tagwright/XmlElement")], none⟩ := by decide +kernel
theorem own_pd13 : parseMethodDescriptor "()I" = some ⟨[], some .int⟩ := by decide +kernel
theorem own_pd14 : parseMethodDescriptor "([Ljava/lang/String;IZIIII)V" = some ⟨[(.array (.object "java/lang/String")), .int, .boolean, .int, .int, .int, .int], none⟩ := by decide +kernel
theorem own_pd15 : parseMethodDescriptor "(Lcom/example/tagwright/tagwright/XmlElement;IZIIII)Z" = some ⟨[(.object "com/example/tagwright/tagwright/XmlElement"), .int, .boolean, .int, .int, .int, .int], some .boolean⟩ := by decide +kernel
theorem own_ef0 (m : MethodId) (x0 : Int32) (x1 : Int32) (x2 : Int32) (x3 : Int32) (x4 : Int32) : entryFrame m #[(.int x0), (.int x1), (.int x2), (.int x3), (.int x4)] maxLocals = mkF m 0 #[iv x0, iv x1, iv x2, iv x3, iv x4, u_, u_, u_, u_, u_, u_] [] := by first | (simp [entryFrame, mkF, argsToLocals, Value.category, maxLocals]; done) | rfl
def own_Q0 (Z : State) (p1 : Int32) (p2 : Int32) (p3 : Int32) (p4 : Int32) (p5 : Int32) (gC : Int32) (oN : Addr) (oA : Addr) (kA : ClassId) (oD : Addr) (h0 : Heap) (n0 : Nat) : Option Value → Heap → Vm → List Loc → Prop := fun v h vm L => v = some (.int 1) ∧ Fr n0 L
set_option maxRecDepth 65536 in
set_option maxHeartbeats 40000000 in
theorem own_rm0 (l : Launch) (Z : State) (a0 : Array Value) (hw : ∀ d ∈ tables_1, d.before a0 Z = true) (ws : List Jvm.Cond) (p1 : Int32) (p2 : Int32) (p3 : Int32) (p4 : Int32) (p5 : Int32) (gC : Int32) (oN : Addr) (oA : Addr) (kA : ClassId) (oD : Addr) (h0 : Heap) (n0 : Nat) (Z0 : n0 ≤ h0.size) (pr0 : Sta Z h0 "java/lang/String" "COMPACT_STRINGS" "Z" (.int gC)) (pr1 : Sta Z h0 "com/example/tagwright/tagwright/XmlElement" "NO_CHILDREN" "Ljava/util/List;" (.ref oN)) (pr2 : Sta Z h0 "com/example/tagwright/tagwright/XmlElement" "NO_ATTRIBUTES" "[Ljava/lang/String;" (.ref oA)) (pr3 : Arv Z h0 oA kA (.object "java/lang/String") (0 : Int32) [] .null) (pr4 : Sta Z h0 "java/util/ArrayList" "DEFAULTCAPACITY_EMPTY_ELEMENTDATA" "[Ljava/lang/Object;" (.ref oD)) (hG : ¬ gC = (0 : Int32)) :
    own_MetW l Z x code maxLocals ret ws room_1 h0 (fun _ => True) #[(.int p1), (.int p2), (.int p3), (.int p4), (.int p5)] (own_Q0 Z p1 p2 p3 p4 p5 gC oN oA kA oD h0 n0) 112 1408 := by
  refine own_startW (plainFor_of_name own_pn2) ?_
  intro p e s m below meth c s₁ X0 hx hZ hby hml hret hlk hown hnm e0 hS hs0 hJ
  have hk0 : 0 ≤ h0.size := Nat.zero_le _
  have hown : s.vm.findClass "com/example/tagwright/tagwright/XmlElementNewAttributesPinLaw" = some m.cls := hown
  have hml : c.maxLocals = 11 := hml
  have N0 := Fr.nil n0
  refine own_cast (own_ef0 m p1 p2 p3 p4 p5) ?_
  refine own_s s₁ (mkF m 5 #[iv p1, iv p2, iv p3, iv p4, iv p5, iv (p1 &&& (3 : Int32)), u_, u_, u_, u_, u_] []) (fun _ k => XS.iloadN X0.here hx rfl (hb hby at_0) rfl  (XS.iconst X0.here hx rfl (hb hby at_1) (XS.iand X0.here hx rfl (hb hby at_2) rfl (XS.istore X0.here hx rfl (hb hby at_3) rfl (l' := #[iv p1, iv p2, iv p3, iv p4, iv p5, iv (p1 &&& (3 : Int32)), u_, u_, u_, u_, u_]) rfl k)))) ?_
  rcases own_and3 p1 with hn | hn | hn | hn
  · refine own_cast (g' := (mkF m 5 #[iv p1, iv p2, iv p3, iv p4, iv p5, iv 0, u_, u_, u_, u_, u_] [])) (by rw [hn]) ?_
    refine own_s s₁ (mkF m 10 #[iv p1, iv p2, iv p3, iv p4, iv p5, iv 0, u_, u_, u_, u_, u_] [(.int (((p1.toUInt32 >>> ((2 : Int32) &&& 31).toUInt32).toInt32) &&& (1 : Int32)))]) (fun _ k => XS.iloadN X0.here hx rfl (hb hby at_5) rfl  (XS.iconst X0.here hx rfl (hb hby at_6) (XS.iushr X0.here hx rfl (hb hby at_7) rfl (XS.iconst X0.here hx rfl (hb hby at_8) (XS.iand X0.here hx rfl (hb hby at_9) rfl k))))) ?_
    by_cases c10 : (((p1.toUInt32 >>> ((2 : Int32) &&& 31).toUInt32).toInt32) &&& (1 : Int32)) = (0 : Int32)
    · refine own_s s₁ (mkF m 24 #[iv p1, iv p2, iv p3, iv p4, iv p5, iv 0, iv 0, u_, u_, u_, u_] [(.int 0), (.int 0)]) (fun _ k => XS.ifYes X0.here hx rfl (pc0 := 10) (pc' := 17) rfl (hb hby at_10) rfl ((if0 _ _).trans (teq c10).1) (by decide) (by decide) (XS.iconst X0.here hx rfl (hb hby at_17) (XS.istore X0.here hx rfl (hb hby at_18) rfl (l' := #[iv p1, iv p2, iv p3, iv p4, iv p5, iv 0, iv 0, u_, u_, u_, u_]) rfl (XS.iload X0.here hx rfl (hb hby at_20) rfl  (XS.iload X0.here hx rfl (hb hby at_22) rfl  k))))) ?_
      obtain ⟨v1, T1, L1, X1, hQ1, st1⟩ := own_callS X0 hx hZ (y := own_y8) (W := 0) hown (own_h hw 0 rfl) (own_h hw 1 rfl) (own_h hw 2 rfl) (own_h hw 3 rfl) (by decide) (own_rmna0_0 l Z a0 hw []  h0 n0 Z0) (by decide) (by decide) (g := (mkF m 24 #[iv p1, iv p2, iv p3, iv p4, iv p5, iv 0, iv 0, u_, u_, u_, u_] [(.int 0), (.int 0)])) rfl (by rw [hml]; rfl) (argsL := [(.int 0), (.int 0)]) (rest := []) rfl (lenOf own_pd11 rfl) rfl (by show 2 * 0 + _ ≤ _; exact Nat.le_of_eq rfl) (hb hby at_24) e0 (by decide) (by decide)
      obtain ⟨zd1, zkd1, rfl, Nq1, Kq1, g_zd1, sq_zd1, q1_0, q1_1⟩ := hQ1
      have N1 := Fr.app N0 Nq1
      have f2 := own_staKeep pr0 Kq1
      have f3 := own_staKeep pr1 Kq1
      have f4 := own_staKeep pr2 Kq1
      have f5 := pr3.keep Kq1 nin0
      have f6 := own_staKeep pr4 Kq1
      have Z1 := Nat.le_trans Z0 Kq1.1
      have hk1 := Nat.le_trans hk0 Kq1.1
      refine own_s T1 (mkF m 27 #[iv p1, iv p2, iv p3, iv p4, iv p5, iv 0, iv 0, u_, u_, u_, u_] [(.ref zd1)]) st1 ?_
      refine own_s T1 (mkF m 56 #[iv p1, iv p2, iv p3, iv p4, iv p5, iv 0, iv 0, rv zd1, iv 0, u_, u_] [(.ref zd1)]) (fun _ k => XS.astore X1.here hx rfl (hb hby at_27) rfl rfl (l' := #[iv p1, iv p2, iv p3, iv p4, iv p5, iv 0, iv 0, rv zd1, u_, u_, u_]) rfl (XS.iload X1.here hx rfl (hb hby at_29) rfl  (XS.ifYes X1.here hx rfl (pc0 := 31) (pc' := 48) rfl (hb hby at_31) rfl ((if0 _ _).trans (teq (by decide : ((0 : Int32) = (0 : Int32)))).1) (by decide) (by decide) (XS.iconst X1.here hx rfl (hb hby at_48) (XS.iload X1.here hx rfl (hb hby at_49) rfl  (XS.imul X1.here hx rfl (hb hby at_51) rfl (XS.istore X1.here hx rfl (hb hby at_52) rfl (l' := #[iv p1, iv p2, iv p3, iv p4, iv p5, iv 0, iv 0, rv zd1, iv 0, u_, u_]) rfl (XS.aload X1.here hx rfl (hb hby at_54) rfl rfl k)))))))) ?_
      obtain ⟨cl7, Ar7, q7, S7, Nn7, H7, G7⟩ := id q1_0
      refine own_s T1 (mkF m 101 #[iv p1, iv p2, iv p3, iv p4, iv p5, iv 0, iv 0, rv zd1, iv 0, u_, u_] []) (fun _ k => own_len X1 hx hZ rfl Ar7 S7 Nn7 (g := (mkF m 56 #[iv p1, iv p2, iv p3, iv p4, iv p5, iv 0, iv 0, rv zd1, iv 0, u_, u_] [(.ref zd1)])) rfl rfl (hb hby at_56) (XS.iload X1.here hx rfl (hb hby at_57) rfl  (XS.icmpYes X1.here hx rfl (pc0 := 59) (pc' := 64) rfl (hb hby at_59) rfl (teq (by decide : ((0 : Int32) = (0 : Int32)))).1 (by decide) (by decide) (XS.iload X1.here hx rfl (hb hby at_64) rfl  (XS.ifYes X1.here hx rfl (pc0 := 66) (pc' := 82) rfl (hb hby at_66) rfl ((if0 _ _).trans (flt (by decide : ¬ ((0 : Int32) < (0 : Int32)))).2.2.2) (by decide) (by decide) (XS.iload X1.here hx rfl (hb hby at_82) rfl  (XS.iconst X1.here hx rfl (hb hby at_84) (XS.icmpYes X1.here hx rfl (pc0 := 85) (pc' := 101) rfl (hb hby at_85) rfl (flt (by decide : ¬ ((1 : Int32) < (0 : Int32)))).2.2.2 (by decide) (by decide) k)))))))) ?_
      refine own_s T1 (mkF m 140 #[iv p1, iv p2, iv p3, iv p4, iv p5, iv 0, iv 0, rv zd1, iv 0, u_, u_] []) (fun _ k => XS.iload X1.here hx rfl (hb hby at_101) rfl  (XS.iconst X1.here hx rfl (hb hby at_103) (XS.icmpYes X1.here hx rfl (pc0 := 104) (pc' := 120) rfl (hb hby at_104) rfl (flt (by decide : ¬ ((2 : Int32) < (0 : Int32)))).2.2.2 (by decide) (by decide) (XS.iload X1.here hx rfl (hb hby at_120) rfl  (XS.iconst X1.here hx rfl (hb hby at_122) (iremM X1 hx rfl (hb hby at_123) rfl (by decide) (XS.iconst X1.here hx rfl (hb hby at_124) (XS.icmpYes X1.here hx rfl (pc0 := 125) (pc' := 140) rfl (hb hby at_125) rfl (feq (by decide)).2 (by decide) (by decide) k)))))))) ?_
      obtain ⟨T8, h8, X8, e8, E8, A8, D8, -, st8⟩ := newO X1 hx hZ hown (own_h hw 6 rfl) (own_h hw 7 rfl) (own_h hw 2 rfl) rfl (g := (mkF m 140 #[iv p1, iv p2, iv p3, iv p4, iv p5, iv 0, iv 0, rv zd1, iv 0, u_, u_] [])) rfl (hb hby at_140) (by decide) (by decide)
      obtain ⟨b8, g8⟩ : ∃ z, z = T1.heap.size := ⟨_, rfl⟩
      have g_b8 : n0 ≤ b8 := Nat.le_trans Z1 (Nat.le_of_eq g8.symm)
      rw [← g8] at A8 D8 st8
      have f9 := Sta.ext E8 f2
      have f10 := Sta.ext E8 f3
      have f11 := Sta.ext E8 f4
      have f12 := f5.ext E8
      have f13 := Sta.ext E8 f6
      have f14 := q1_0.ext E8
      have Z8 := Nat.le_trans Z1 E8.1
      have hk8 := Nat.le_trans hk1 E8.1
      have f15 : Fld Z h8 b8 "com/example/tagwright/tagwright/XmlElement" "children" "Ljava/util/List;" .null := D8 (Or.inl (own_h hw 49 rfl)) (ty := (.object "java/util/List")) (by decide)
      have f16 : Fld Z h8 b8 "com/example/tagwright/tagwright/XmlElement" "namespace" "Ljava/lang/String;" .null := D8 (Or.inr (own_h hw 51 rfl)) (ty := (.object "java/lang/String")) (by decide)
      have f17 : Fld Z h8 b8 "com/example/tagwright/tagwright/XmlElement" "localName" "Ljava/lang/String;" .null := D8 (Or.inr (own_h hw 53 rfl)) (ty := (.object "java/lang/String")) (by decide)
      have f18 : Fld Z h8 b8 "com/example/tagwright/tagwright/XmlElement" "tagName" "Ljava/lang/String;" .null := D8 (Or.inr (own_h hw 55 rfl)) (ty := (.object "java/lang/String")) (by decide)
      have f19 : Fld Z h8 b8 "com/example/tagwright/tagwright/XmlElement" "declarations" "Ljava/util/List;" .null := D8 (Or.inr (own_h hw 57 rfl)) (ty := (.object "java/util/List")) (by decide)
      have f20 : Fld Z h8 b8 "com/example/tagwright/tagwright/XmlElement" "attributes" "[Ljava/lang/String;" .null := D8 (Or.inr (own_h hw 61 rfl)) (ty := (.array (.object "java/lang/String"))) (by decide)
      have f21 : Fld Z h8 b8 "com/example/tagwright/tagwright/XmlElement" "stride" "B" (.int 0) := D8 (Or.inr (own_h hw 66 rfl)) (ty := .byte) (by decide)
      have f22 : Fld Z h8 b8 "com/example/tagwright/tagwright/XmlElement" "location" "Lcom/example/tagwright/tagwright/Location;" .null := D8 (Or.inr (own_h hw 68 rfl)) (ty := (.object "com/example/tagwright/tagwright/Location")) (by decide)
      have f23 : Fld Z h8 b8 "com/example/tagwright/tagwright/XmlElement" "parent" "Lcom/example/tagwright/tagwright/XmlElement;" .null := D8 (Or.inr (own_h hw 70 rfl)) (ty := (.object "com/example/tagwright/tagwright/XmlElement")) (by decide)
      have f24 : Fld Z h8 b8 "com/example/tagwright/tagwright/XmlElement" "index" "I" (.int 0) := D8 (Or.inr (own_h hw 72 rfl)) (ty := .int) (by decide)
      refine own_s T8 (mkF m 143 #[iv p1, iv p2, iv p3, iv p4, iv p5, iv 0, iv 0, rv zd1, iv 0, u_, u_] [(.ref b8)]) st8 ?_
      refine own_s T8 (mkF m 145 #[iv p1, iv p2, iv p3, iv p4, iv p5, iv 0, iv 0, rv zd1, iv 0, u_, u_] [.null, (.ref b8), (.ref b8)]) (fun _ k => XS.dup X8.here hx rfl (hb hby at_143) rfl rfl (XS.aconstNull X8.here hx rfl (hb hby at_144) k)) ?_
      obtain ⟨sl25, T25, h25, kk25, X25, e25, E25, hS, hk25, hZ, hown, st25⟩ := ldcS (s := s) X8 hx hZ hown (own_h hw 8 rfl) (own_wS hw) e8 hS hk8 (g := (mkF m 145 #[iv p1, iv p2, iv p3, iv p4, iv p5, iv 0, iv 0, rv zd1, iv 0, u_, u_] [.null, (.ref b8), (.ref b8)])) rfl (hb hby at_145) (n := 4) (by decide) (by decide) (by decide) (by decide)
      have f26 := Sta.ext E25 f9
      have f27 := Sta.ext E25 f10
      have f28 := Sta.ext E25 f11
      have f29 := f12.ext E25
      have f30 := Sta.ext E25 f13
      have f31 := f14.ext E25
      have f32 := Exa.ext E25 A8
      have f33 := Fld.ext E25 f15
      have f34 := Fld.ext E25 f16
      have f35 := Fld.ext E25 f17
      have f36 := Fld.ext E25 f18
      have f37 := Fld.ext E25 f19
      have f38 := Fld.ext E25 f20
      have f39 := Fld.ext E25 f21
      have f40 := Fld.ext E25 f22
      have f41 := Fld.ext E25 f23
      have f42 := Fld.ext E25 f24
      have Z25 := Nat.le_trans Z8 E25.1
      refine own_s T25 (mkF m 147 #[iv p1, iv p2, iv p3, iv p4, iv p5, iv 0, iv 0, rv zd1, iv 0, u_, u_] [(.ref sl25), .null, (.ref b8), (.ref b8)]) st25 ?_
      obtain ⟨sl43, T43, h43, kk43, X43, e43, E43, hS, hk43, hZ, hown, st43⟩ := ldcS (s := s) X25 hx hZ hown (own_h hw 8 rfl) (own_wS hw) e25 hS hk25 (g := (mkF m 147 #[iv p1, iv p2, iv p3, iv p4, iv p5, iv 0, iv 0, rv zd1, iv 0, u_, u_] [(.ref sl25), .null, (.ref b8), (.ref b8)])) rfl (hb hby at_147) (n := 4) (by decide) (by decide) (by decide) (by decide)
      have f44 := Sta.ext E43 f26
      have f45 := Sta.ext E43 f27
      have f46 := Sta.ext E43 f28
      have f47 := f29.ext E43
      have f48 := Sta.ext E43 f30
      have f49 := f31.ext E43
      have f50 := Exa.ext E43 f32
      have f51 := Fld.ext E43 f33
      have f52 := Fld.ext E43 f34
      have f53 := Fld.ext E43 f35
      have f54 := Fld.ext E43 f36
      have f55 := Fld.ext E43 f37
      have f56 := Fld.ext E43 f38
      have f57 := Fld.ext E43 f39
      have f58 := Fld.ext E43 f40
      have f59 := Fld.ext E43 f41
      have f60 := Fld.ext E43 f42
      have Z43 := Nat.le_trans Z25 E43.1
      refine own_s T43 (mkF m 149 #[iv p1, iv p2, iv p3, iv p4, iv p5, iv 0, iv 0, rv zd1, iv 0, u_, u_] [(.ref sl43), (.ref sl25), .null, (.ref b8), (.ref b8)]) st43 ?_
      obtain ⟨T61, h61, X61, e61, E61, A61, D61, -, st61⟩ := newO X43 hx hZ hown (own_h hw 16 rfl) (own_h hw 17 rfl) (own_h hw 18 rfl) e43 (g := (mkF m 149 #[iv p1, iv p2, iv p3, iv p4, iv p5, iv 0, iv 0, rv zd1, iv 0, u_, u_] [(.ref sl43), (.ref sl25), .null, (.ref b8), (.ref b8)])) rfl (hb hby at_149) (by decide) (by decide)
      obtain ⟨b61, g61⟩ : ∃ z, z = h43.size := ⟨_, rfl⟩
      have g_b61 : n0 ≤ b61 := Nat.le_trans Z43 (Nat.le_of_eq g61.symm)
      rw [← g61] at A61 D61 st61
      have f62 := Sta.ext E61 f44
      have f63 := Sta.ext E61 f45
      have f64 := Sta.ext E61 f46
      have f65 := f47.ext E61
      have f66 := Sta.ext E61 f48
      have f67 := f49.ext E61
      have f68 := Exa.ext E61 f50
      have f69 := Fld.ext E61 f51
      have f70 := Fld.ext E61 f52
      have f71 := Fld.ext E61 f53
      have f72 := Fld.ext E61 f54
      have f73 := Fld.ext E61 f55
      have f74 := Fld.ext E61 f56
      have f75 := Fld.ext E61 f57
      have f76 := Fld.ext E61 f58
      have f77 := Fld.ext E61 f59
      have f78 := Fld.ext E61 f60
      have Z61 := Nat.le_trans Z43 E61.1
      have hk61 := Nat.le_trans hk43 E61.1
      have f79 : Fld Z h61 b61 "java/util/AbstractList" "modCount" "I" (.int 0) := D61 (Or.inl (own_h hw 38 rfl)) (ty := .int) (by decide)
      have f80 : Fld Z h61 b61 "java/util/ArrayList" "elementData" "[Ljava/lang/Object;" .null := D61 (Or.inl (own_h hw 41 rfl)) (ty := (.array (.object "java/lang/Object"))) (by decide)
      refine own_s T61 (mkF m 152 #[iv p1, iv p2, iv p3, iv p4, iv p5, iv 0, iv 0, rv zd1, iv 0, u_, u_] [(.ref b61), (.ref sl43), (.ref sl25), .null, (.ref b8), (.ref b8)]) st61 ?_
      refine own_s T61 (mkF m 153 #[iv p1, iv p2, iv p3, iv p4, iv p5, iv 0, iv 0, rv zd1, iv 0, u_, u_] [(.ref b61), (.ref b61), (.ref sl43), (.ref sl25), .null, (.ref b8), (.ref b8)]) (fun _ k => XS.dup X61.here hx rfl (hb hby at_152) rfl rfl k) ?_
      obtain ⟨v81, T81, L81, X81, hQ81, st81⟩ := own_callI X61 hx hZ (y := own_y20) (W := 6) (a := b61) rfl hown (own_h hw 19 rfl) (own_h hw 20 rfl) (own_h hw 18 rfl) (own_h hw 21 rfl) (by decide) (own_rmal l Z a0 hw [] b61 oD h61 n0 Z61 g_b61 f66 A61 f79 f80) (by decide) (by decide) (g := (mkF m 153 #[iv p1, iv p2, iv p3, iv p4, iv p5, iv 0, iv 0, rv zd1, iv 0, u_, u_] [(.ref b61), (.ref b61), (.ref sl43), (.ref sl25), .null, (.ref b8), (.ref b8)])) rfl (by rw [hml]; rfl) (argsL := []) (rest := [(.ref b61), (.ref sl43), (.ref sl25), .null, (.ref b8), (.ref b8)]) rfl (lenOf own_pd10 rfl) rfl (by show 2 * 0 + _ ≤ _; exact Nat.le_of_eq rfl) (hb hby at_153) e61 (by decide) (by decide)
      obtain ⟨rfl, Nq81, Kq81, q81_0⟩ := hQ81
      have N81 := Fr.app N1 Nq81
      have f82 := own_staKeepW f62 Kq81 (allS A61.nostat all0)
      have f83 := own_staKeepW f63 Kq81 (allS A61.nostat all0)
      have f84 := own_staKeepW f64 Kq81 (allS A61.nostat all0)
      have f85 := f65.keep Kq81 (ninS (own_nf f47.lt g61) nin0)
      have f86 := own_staKeepW f66 Kq81 (allS A61.nostat all0)
      have f87 := f67.keep Kq81 (ninS (own_nf f49.lt g61) nin0)
      have f88 := f68.keep Kq81
      have f89 := f69.keep Kq81 (ninS (own_nf f50.lt g61) nin0)
      have f90 := f70.keep Kq81 (ninS (own_nf f50.lt g61) nin0)
      have f91 := f71.keep Kq81 (ninS (own_nf f50.lt g61) nin0)
      have f92 := f72.keep Kq81 (ninS (own_nf f50.lt g61) nin0)
      have f93 := f73.keep Kq81 (ninS (own_nf f50.lt g61) nin0)
      have f94 := f74.keep Kq81 (ninS (own_nf f50.lt g61) nin0)
      have f95 := f75.keep Kq81 (ninS (own_nf f50.lt g61) nin0)
      have f96 := f76.keep Kq81 (ninS (own_nf f50.lt g61) nin0)
      have f97 := f77.keep Kq81 (ninS (own_nf f50.lt g61) nin0)
      have f98 := f78.keep Kq81 (ninS (own_nf f50.lt g61) nin0)
      have f99 := A61.keep Kq81
      have Z81 := Nat.le_trans Z61 Kq81.1
      have hk81 := Nat.le_trans hk61 Kq81.1
      refine own_s T81 (mkF m 156 #[iv p1, iv p2, iv p3, iv p4, iv p5, iv 0, iv 0, rv zd1, iv 0, u_, u_] [(.ref b61), (.ref sl43), (.ref sl25), .null, (.ref b8), (.ref b8)]) st81 ?_
      refine own_s T81 (mkF m 160 #[iv p1, iv p2, iv p3, iv p4, iv p5, iv 0, iv 0, rv zd1, iv 0, u_, u_] [.null, .null, (.ref zd1), (.ref b61), (.ref sl43), (.ref sl25), .null, (.ref b8), (.ref b8)]) (fun _ k => XS.aload X81.here hx rfl (hb hby at_156) rfl rfl (XS.aconstNull X81.here hx rfl (hb hby at_158) (XS.aconstNull X81.here hx rfl (hb hby at_159) k))) ?_
      obtain ⟨v100, T100, L100, X100, hQ100, st100⟩ := own_callI X81 hx hZ (y := own_y11) (W := 1) (a := b8) rfl hown (own_h hw 42 rfl) (own_h hw 43 rfl) (own_h hw 2 rfl) (own_h hw 44 rfl) (by decide) (own_rmxi_z l Z a0 hw [] b8 sl25 sl43 b61 zd1 oN oA zkd1 [.null, .null, .null, .null, .null, .null, .null, .null, .null, .null, .null, .null, .null] T81.heap n0 Z81 g_b8 f88 f89 f90 f91 f92 f93 f94 f95 f96 f97 f98 f83 f84 f87 (Ne.symm (own_nf q1_0.lt g8))) (by decide) (by decide) (g := (mkF m 160 #[iv p1, iv p2, iv p3, iv p4, iv p5, iv 0, iv 0, rv zd1, iv 0, u_, u_] [.null, .null, (.ref zd1), (.ref b61), (.ref sl43), (.ref sl25), .null, (.ref b8), (.ref b8)])) rfl (by rw [hml]; rfl) (argsL := [.null, (.ref sl25), (.ref sl43), (.ref b61), (.ref zd1), .null, .null]) (rest := [(.ref b8)]) rfl (lenOf own_pd12 rfl) rfl (by show 2 * 0 + _ ≤ _; exact Nat.le_of_eq rfl) (hb hby at_160) rfl (by decide) (by decide)
      obtain ⟨rfl, Nq100, Kq100, q100_0, q100_1, q100_2⟩ := hQ100
      have N100 := Fr.app N81 Nq100
      have f101 := own_staKeepW f82 Kq100 (allS f88.nostat all0)
      have f102 := own_staKeepW f83 Kq100 (allS f88.nostat all0)
      have f103 := own_staKeepW f84 Kq100 (allS f88.nostat all0)
      have f104 := f85.keep Kq100 (ninS (own_nf f5.lt g8) nin0)
      have f105 := own_staKeepW f86 Kq100 (allS f88.nostat all0)
      have f106 := f87.keep Kq100 (ninS (own_nf q1_0.lt g8) nin0)
      have f107 := f88.keep Kq100
      have f108 := q81_0.keep Kq100
      have Z100 := Nat.le_trans Z81 Kq100.1
      have hk100 := Nat.le_trans hk81 Kq100.1
      refine own_s T100 (mkF m 163 #[iv p1, iv p2, iv p3, iv p4, iv p5, iv 0, iv 0, rv zd1, iv 0, u_, u_] [(.ref b8)]) st100 ?_
      refine own_s T100 (mkF m 167 #[iv p1, iv p2, iv p3, iv p4, iv p5, iv 0, iv 0, rv zd1, iv 0, rv b8, u_] [(.ref b8)]) (fun _ k => XS.astore X100.here hx rfl (hb hby at_163) rfl rfl (l' := #[iv p1, iv p2, iv p3, iv p4, iv p5, iv 0, iv 0, rv zd1, iv 0, rv b8, u_]) rfl (XS.aload X100.here hx rfl (hb hby at_165) rfl rfl k)) ?_
      obtain ⟨v109, T109, L109, X109, hQ109, st109⟩ := own_callV X100 hx hZ (y := own_y12) (z := own_y12) (W := 0) (a := b8) hown (own_h hw 73 rfl) (own_h hw 74 rfl) (notFace_of_selects (args := #[]) (mvT hZ (own_h hw 76 rfl))) (own_h hw 76 rfl) (own_h hw 75 rfl) (own_h hw 2 rfl) (own_h hw 77 rfl) (by decide) (own_rmcnt2 l Z a0 hw [] b8 oA kA [] (0 : Int32) T100.heap n0 Z100 q100_1 q100_2 f104) (by decide) (by decide) q100_0 (g := (mkF m 167 #[iv p1, iv p2, iv p3, iv p4, iv p5, iv 0, iv 0, rv zd1, iv 0, rv b8, u_] [(.ref b8)])) rfl (by rw [hml]; rfl) (argsL := []) (rest := []) rfl (lenOf own_pd13 rfl) rfl (by show 2 * 0 + _ ≤ _; exact Nat.le_of_eq rfl) (hb hby at_167) rfl (by decide) (by decide)
      obtain ⟨rfl, Nq109, e109⟩ := hQ109
      have N109 := Fr.app N100 Nq109
      refine own_s T109 (mkF m 170 #[iv p1, iv p2, iv p3, iv p4, iv p5, iv 0, iv 0, rv zd1, iv 0, rv b8, u_] [(.int ((0 : Int32) / (2 : Int32)))]) st109 ?_
      refine own_s T109 (mkF m 216 #[iv p1, iv p2, iv p3, iv p4, iv p5, iv 0, iv 0, rv zd1, iv 0, rv b8, iv 1] [(.int 1), (.int 0)]) (fun _ k => XS.iload X109.here hx rfl (hb hby at_170) rfl  (XS.icmpYes X109.here hx rfl (pc0 := 172) (pc' := 177) rfl (hb hby at_172) rfl (teq (by decide)).1 (by decide) (by decide) (XS.iconst X109.here hx rfl (hb hby at_177) (XS.istore X109.here hx rfl (hb hby at_178) rfl (l' := #[iv p1, iv p2, iv p3, iv p4, iv p5, iv 0, iv 0, rv zd1, iv 0, rv b8, iv 1]) rfl (XS.iload X109.here hx rfl (hb hby at_180) rfl  (XS.ifYes X109.here hx rfl (pc0 := 182) (pc' := 213) rfl (hb hby at_182) rfl ((if0 _ _).trans (flt (by decide : ¬ ((0 : Int32) < (0 : Int32)))).2.2.2) (by decide) (by decide) (XS.iload X109.here hx rfl (hb hby at_213) rfl  (XS.iconst X109.here hx rfl (hb hby at_215) k)))))))) ?_
      refine own_s T109 (mkF m 283 #[iv p1, iv p2, iv p3, iv p4, iv p5, iv 0, iv 0, rv zd1, iv 0, rv b8, iv 1] [(.int 1)]) (fun _ k => XS.icmpYes X109.here hx rfl (pc0 := 216) (pc' := 247) rfl (hb hby at_216) rfl (flt (by decide : ¬ ((1 : Int32) < (0 : Int32)))).2.2.2 (by decide) (by decide) (XS.iload X109.here hx rfl (hb hby at_247) rfl  (XS.iconst X109.here hx rfl (hb hby at_249) (XS.icmpYes X109.here hx rfl (pc0 := 250) (pc' := 281) rfl (hb hby at_250) rfl (flt (by decide : ¬ ((2 : Int32) < (0 : Int32)))).2.2.2 (by decide) (by decide) (XS.iload X109.here hx rfl (hb hby at_281) rfl  k))))) ?_
      exact own_finZ X109 hx (t := .boolean) hret (by simp) (z' := (1 : Int32)) rfl (hb hby at_283) (own_endW (Qv := (own_Q0 Z p1 p2 p3 p4 p5 gC oN oA kA oD h0 n0)) X109 hS (own_some hret) hlk (by decide) (by decide) e109 hk100 (fun vm' hv' => ⟨rfl, N109⟩))
    · refine own_s s₁ (mkF m 24 #[iv p1, iv p2, iv p3, iv p4, iv p5, iv 0, iv 1, u_, u_, u_, u_] [(.int 1), (.int 0)]) (fun _ k => XS.ifNo X0.here hx rfl (hb hby at_10) rfl ((if0 _ _).trans (feq c10).1) (XS.iconst X0.here hx rfl (hb hby at_13) (XS.goto X0.here hx rfl (pc0 := 14) (pc' := 18) rfl (hb hby at_14) (by decide) (by decide) (XS.istore X0.here hx rfl (hb hby at_18) rfl (l' := #[iv p1, iv p2, iv p3, iv p4, iv p5, iv 0, iv 1, u_, u_, u_, u_]) rfl (XS.iload X0.here hx rfl (hb hby at_20) rfl  (XS.iload X0.here hx rfl (hb hby at_22) rfl  k)))))) ?_
      obtain ⟨v110, T110, L110, X110, hQ110, st110⟩ := own_callS X0 hx hZ (y := own_y8) (W := 0) hown (own_h hw 0 rfl) (own_h hw 1 rfl) (own_h hw 2 rfl) (own_h hw 3 rfl) (by decide) (own_rmna0_1 l Z a0 hw []  h0 n0 Z0) (by decide) (by decide) (g := (mkF m 24 #[iv p1, iv p2, iv p3, iv p4, iv p5, iv 0, iv 1, u_, u_, u_, u_] [(.int 1), (.int 0)])) rfl (by rw [hml]; rfl) (argsL := [(.int 0), (.int 1)]) (rest := []) rfl (lenOf own_pd11 rfl) rfl (by show 2 * 0 + _ ≤ _; exact Nat.le_of_eq rfl) (hb hby at_24) e0 (by decide) (by decide)
      obtain ⟨zd110, zkd110, rfl, Nq110, Kq110, g_zd110, sq_zd110, q110_0, q110_1⟩ := hQ110
      have N110 := Fr.app N0 Nq110
      have f111 := own_staKeep pr0 Kq110
      have f112 := own_staKeep pr1 Kq110
      have f113 := own_staKeep pr2 Kq110
      have f114 := pr3.keep Kq110 nin0
      have f115 := own_staKeep pr4 Kq110
      have Z110 := Nat.le_trans Z0 Kq110.1
      have hk110 := Nat.le_trans hk0 Kq110.1
      refine own_s T110 (mkF m 27 #[iv p1, iv p2, iv p3, iv p4, iv p5, iv 0, iv 1, u_, u_, u_, u_] [(.ref zd110)]) st110 ?_
      refine own_s T110 (mkF m 52 #[iv p1, iv p2, iv p3, iv p4, iv p5, iv 0, iv 1, rv zd110, u_, u_, u_] [(.int 0)]) (fun _ k => XS.astore X110.here hx rfl (hb hby at_27) rfl rfl (l' := #[iv p1, iv p2, iv p3, iv p4, iv p5, iv 0, iv 1, rv zd110, u_, u_, u_]) rfl (XS.iload X110.here hx rfl (hb hby at_29) rfl  (XS.ifNo X110.here hx rfl (hb hby at_31) rfl ((if0 _ _).trans (feq (by decide : ¬ ((1 : Int32) = (0 : Int32)))).1) (XS.iload X110.here hx rfl (hb hby at_34) rfl  (XS.ifYes X110.here hx rfl (pc0 := 36) (pc' := 48) rfl (hb hby at_36) rfl ((if0 _ _).trans (flt (by decide : ¬ ((0 : Int32) < (0 : Int32)))).2.2.2) (by decide) (by decide) (XS.iconst X110.here hx rfl (hb hby at_48) (XS.iload X110.here hx rfl (hb hby at_49) rfl  (XS.imul X110.here hx rfl (hb hby at_51) rfl k)))))))) ?_
      refine own_s T110 (mkF m 56 #[iv p1, iv p2, iv p3, iv p4, iv p5, iv 0, iv 1, rv zd110, iv 0, u_, u_] [(.ref zd110)]) (fun _ k => XS.istore X110.here hx rfl (hb hby at_52) rfl (l' := #[iv p1, iv p2, iv p3, iv p4, iv p5, iv 0, iv 1, rv zd110, iv 0, u_, u_]) rfl (XS.aload X110.here hx rfl (hb hby at_54) rfl rfl k)) ?_
      obtain ⟨cl116, Ar116, q116, S116, Nn116, H116, G116⟩ := id q110_0
      refine own_s T110 (mkF m 101 #[iv p1, iv p2, iv p3, iv p4, iv p5, iv 0, iv 1, rv zd110, iv 0, u_, u_] []) (fun _ k => own_len X110 hx hZ rfl Ar116 S116 Nn116 (g := (mkF m 56 #[iv p1, iv p2, iv p3, iv p4, iv p5, iv 0, iv 1, rv zd110, iv 0, u_, u_] [(.ref zd110)])) rfl rfl (hb hby at_56) (XS.iload X110.here hx rfl (hb hby at_57) rfl  (XS.icmpYes X110.here hx rfl (pc0 := 59) (pc' := 64) rfl (hb hby at_59) rfl (teq (by decide : ((0 : Int32) = (0 : Int32)))).1 (by decide) (by decide) (XS.iload X110.here hx rfl (hb hby at_64) rfl  (XS.ifYes X110.here hx rfl (pc0 := 66) (pc' := 82) rfl (hb hby at_66) rfl ((if0 _ _).trans (flt (by decide : ¬ ((0 : Int32) < (0 : Int32)))).2.2.2) (by decide) (by decide) (XS.iload X110.here hx rfl (hb hby at_82) rfl  (XS.iconst X110.here hx rfl (hb hby at_84) (XS.icmpYes X110.here hx rfl (pc0 := 85) (pc' := 101) rfl (hb hby at_85) rfl (flt (by decide : ¬ ((1 : Int32) < (0 : Int32)))).2.2.2 (by decide) (by decide) k)))))))) ?_
      refine own_s T110 (mkF m 140 #[iv p1, iv p2, iv p3, iv p4, iv p5, iv 0, iv 1, rv zd110, iv 0, u_, u_] []) (fun _ k => XS.iload X110.here hx rfl (hb hby at_101) rfl  (XS.iconst X110.here hx rfl (hb hby at_103) (XS.icmpYes X110.here hx rfl (pc0 := 104) (pc' := 120) rfl (hb hby at_104) rfl (flt (by decide : ¬ ((2 : Int32) < (0 : Int32)))).2.2.2 (by decide) (by decide) (XS.iload X110.here hx rfl (hb hby at_120) rfl  (XS.iconst X110.here hx rfl (hb hby at_122) (iremM X110 hx rfl (hb hby at_123) rfl (by decide) (XS.iconst X110.here hx rfl (hb hby at_124) (XS.icmpYes X110.here hx rfl (pc0 := 125) (pc' := 140) rfl (hb hby at_125) rfl (feq (by decide)).2 (by decide) (by decide) k)))))))) ?_
      obtain ⟨T117, h117, X117, e117, E117, A117, D117, -, st117⟩ := newO X110 hx hZ hown (own_h hw 6 rfl) (own_h hw 7 rfl) (own_h hw 2 rfl) rfl (g := (mkF m 140 #[iv p1, iv p2, iv p3, iv p4, iv p5, iv 0, iv 1, rv zd110, iv 0, u_, u_] [])) rfl (hb hby at_140) (by decide) (by decide)
      obtain ⟨b117, g117⟩ : ∃ z, z = T110.heap.size := ⟨_, rfl⟩
      have g_b117 : n0 ≤ b117 := Nat.le_trans Z110 (Nat.le_of_eq g117.symm)
      rw [← g117] at A117 D117 st117
      have f118 := Sta.ext E117 f111
      have f119 := Sta.ext E117 f112
      have f120 := Sta.ext E117 f113
      have f121 := f114.ext E117
      have f122 := Sta.ext E117 f115
      have f123 := q110_0.ext E117
      have Z117 := Nat.le_trans Z110 E117.1
      have hk117 := Nat.le_trans hk110 E117.1
      have f124 : Fld Z h117 b117 "com/example/tagwright/tagwright/XmlElement" "children" "Ljava/util/List;" .null := D117 (Or.inl (own_h hw 49 rfl)) (ty := (.object "java/util/List")) (by decide)
      have f125 : Fld Z h117 b117 "com/example/tagwright/tagwright/XmlElement" "namespace" "Ljava/lang/String;" .null := D117 (Or.inr (own_h hw 51 rfl)) (ty := (.object "java/lang/String")) (by decide)
      have f126 : Fld Z h117 b117 "com/example/tagwright/tagwright/XmlElement" "localName" "Ljava/lang/String;" .null := D117 (Or.inr (own_h hw 53 rfl)) (ty := (.object "java/lang/String")) (by decide)
      have f127 : Fld Z h117 b117 "com/example/tagwright/tagwright/XmlElement" "tagName" "Ljava/lang/String;" .null := D117 (Or.inr (own_h hw 55 rfl)) (ty := (.object "java/lang/String")) (by decide)
      have f128 : Fld Z h117 b117 "com/example/tagwright/tagwright/XmlElement" "declarations" "Ljava/util/List;" .null := D117 (Or.inr (own_h hw 57 rfl)) (ty := (.object "java/util/List")) (by decide)
      have f129 : Fld Z h117 b117 "com/example/tagwright/tagwright/XmlElement" "attributes" "[Ljava/lang/String;" .null := D117 (Or.inr (own_h hw 61 rfl)) (ty := (.array (.object "java/lang/String"))) (by decide)
      have f130 : Fld Z h117 b117 "com/example/tagwright/tagwright/XmlElement" "stride" "B" (.int 0) := D117 (Or.inr (own_h hw 66 rfl)) (ty := .byte) (by decide)
      have f131 : Fld Z h117 b117 "com/example/tagwright/tagwright/XmlElement" "location" "Lcom/example/tagwright/tagwright/Location;" .null := D117 (Or.inr (own_h hw 68 rfl)) (ty := (.object "com/example/tagwright/tagwright/Location")) (by decide)
      have f132 : Fld Z h117 b117 "com/example/tagwright/tagwright/XmlElement" "parent" "Lcom/example/tagwright/tagwright/XmlElement;" .null := D117 (Or.inr (own_h hw 70 rfl)) (ty := (.object "com/example/tagwright/tagwright/XmlElement")) (by decide)
      have f133 : Fld Z h117 b117 "com/example/tagwright/tagwright/XmlElement" "index" "I" (.int 0) := D117 (Or.inr (own_h hw 72 rfl)) (ty := .int) (by decide)
      refine own_s T117 (mkF m 143 #[iv p1, iv p2, iv p3, iv p4, iv p5, iv 0, iv 1, rv zd110, iv 0, u_, u_] [(.ref b117)]) st117 ?_
      refine own_s T117 (mkF m 145 #[iv p1, iv p2, iv p3, iv p4, iv p5, iv 0, iv 1, rv zd110, iv 0, u_, u_] [.null, (.ref b117), (.ref b117)]) (fun _ k => XS.dup X117.here hx rfl (hb hby at_143) rfl rfl (XS.aconstNull X117.here hx rfl (hb hby at_144) k)) ?_
      obtain ⟨sl134, T134, h134, kk134, X134, e134, E134, hS, hk134, hZ, hown, st134⟩ := ldcS (s := s) X117 hx hZ hown (own_h hw 8 rfl) (own_wS hw) e117 hS hk117 (g := (mkF m 145 #[iv p1, iv p2, iv p3, iv p4, iv p5, iv 0, iv 1, rv zd110, iv 0, u_, u_] [.null, (.ref b117), (.ref b117)])) rfl (hb hby at_145) (n := 4) (by decide) (by decide) (by decide) (by decide)
      have f135 := Sta.ext E134 f118
      have f136 := Sta.ext E134 f119
      have f137 := Sta.ext E134 f120
      have f138 := f121.ext E134
      have f139 := Sta.ext E134 f122
      have f140 := f123.ext E134
      have f141 := Exa.ext E134 A117
      have f142 := Fld.ext E134 f124
      have f143 := Fld.ext E134 f125
      have f144 := Fld.ext E134 f126
      have f145 := Fld.ext E134 f127
      have f146 := Fld.ext E134 f128
      have f147 := Fld.ext E134 f129
      have f148 := Fld.ext E134 f130
      have f149 := Fld.ext E134 f131
      have f150 := Fld.ext E134 f132
      have f151 := Fld.ext E134 f133
      have Z134 := Nat.le_trans Z117 E134.1
      refine own_s T134 (mkF m 147 #[iv p1, iv p2, iv p3, iv p4, iv p5, iv 0, iv 1, rv zd110, iv 0, u_, u_] [(.ref sl134), .null, (.ref b117), (.ref b117)]) st134 ?_
      obtain ⟨sl152, T152, h152, kk152, X152, e152, E152, hS, hk152, hZ, hown, st152⟩ := ldcS (s := s) X134 hx hZ hown (own_h hw 8 rfl) (own_wS hw) e134 hS hk134 (g := (mkF m 147 #[iv p1, iv p2, iv p3, iv p4, iv p5, iv 0, iv 1, rv zd110, iv 0, u_, u_] [(.ref sl134), .null, (.ref b117), (.ref b117)])) rfl (hb hby at_147) (n := 4) (by decide) (by decide) (by decide) (by decide)
      have f153 := Sta.ext E152 f135
      have f154 := Sta.ext E152 f136
      have f155 := Sta.ext E152 f137
      have f156 := f138.ext E152
      have f157 := Sta.ext E152 f139
      have f158 := f140.ext E152
      have f159 := Exa.ext E152 f141
      have f160 := Fld.ext E152 f142
      have f161 := Fld.ext E152 f143
      have f162 := Fld.ext E152 f144
      have f163 := Fld.ext E152 f145
      have f164 := Fld.ext E152 f146
      have f165 := Fld.ext E152 f147
      have f166 := Fld.ext E152 f148
      have f167 := Fld.ext E152 f149
      have f168 := Fld.ext E152 f150
      have f169 := Fld.ext E152 f151
      have Z152 := Nat.le_trans Z134 E152.1
      refine own_s T152 (mkF m 149 #[iv p1, iv p2, iv p3, iv p4, iv p5, iv 0, iv 1, rv zd110, iv 0, u_, u_] [(.ref sl152), (.ref sl134), .null, (.ref b117), (.ref b117)]) st152 ?_
      obtain ⟨T170, h170, X170, e170, E170, A170, D170, -, st170⟩ := newO X152 hx hZ hown (own_h hw 16 rfl) (own_h hw 17 rfl) (own_h hw 18 rfl) e152 (g := (mkF m 149 #[iv p1, iv p2, iv p3, iv p4, iv p5, iv 0, iv 1, rv zd110, iv 0, u_, u_] [(.ref sl152), (.ref sl134), .null, (.ref b117), (.ref b117)])) rfl (hb hby at_149) (by decide) (by decide)
      obtain ⟨b170, g170⟩ : ∃ z, z = h152.size := ⟨_, rfl⟩
      have g_b170 : n0 ≤ b170 := Nat.le_trans Z152 (Nat.le_of_eq g170.symm)
      rw [← g170] at A170 D170 st170
      have f171 := Sta.ext E170 f153
      have f172 := Sta.ext E170 f154
      have f173 := Sta.ext E170 f155
      have f174 := f156.ext E170
      have f175 := Sta.ext E170 f157
      have f176 := f158.ext E170
      have f177 := Exa.ext E170 f159
      have f178 := Fld.ext E170 f160
      have f179 := Fld.ext E170 f161
      have f180 := Fld.ext E170 f162
      have f181 := Fld.ext E170 f163
      have f182 := Fld.ext E170 f164
      have f183 := Fld.ext E170 f165
      have f184 := Fld.ext E170 f166
      have f185 := Fld.ext E170 f167
      have f186 := Fld.ext E170 f168
      have f187 := Fld.ext E170 f169
      have Z170 := Nat.le_trans Z152 E170.1
      have hk170 := Nat.le_trans hk152 E170.1
      have f188 : Fld Z h170 b170 "java/util/AbstractList" "modCount" "I" (.int 0) := D170 (Or.inl (own_h hw 38 rfl)) (ty := .int) (by decide)
      have f189 : Fld Z h170 b170 "java/util/ArrayList" "elementData" "[Ljava/lang/Object;" .null := D170 (Or.inl (own_h hw 41 rfl)) (ty := (.array (.object "java/lang/Object"))) (by decide)
      refine own_s T170 (mkF m 152 #[iv p1, iv p2, iv p3, iv p4, iv p5, iv 0, iv 1, rv zd110, iv 0, u_, u_] [(.ref b170), (.ref sl152), (.ref sl134), .null, (.ref b117), (.ref b117)]) st170 ?_
      refine own_s T170 (mkF m 153 #[iv p1, iv p2, iv p3, iv p4, iv p5, iv 0, iv 1, rv zd110, iv 0, u_, u_] [(.ref b170), (.ref b170), (.ref sl152), (.ref sl134), .null, (.ref b117), (.ref b117)]) (fun _ k => XS.dup X170.here hx rfl (hb hby at_152) rfl rfl k) ?_
      obtain ⟨v190, T190, L190, X190, hQ190, st190⟩ := own_callI X170 hx hZ (y := own_y20) (W := 6) (a := b170) rfl hown (own_h hw 19 rfl) (own_h hw 20 rfl) (own_h hw 18 rfl) (own_h hw 21 rfl) (by decide) (own_rmal l Z a0 hw [] b170 oD h170 n0 Z170 g_b170 f175 A170 f188 f189) (by decide) (by decide) (g := (mkF m 153 #[iv p1, iv p2, iv p3, iv p4, iv p5, iv 0, iv 1, rv zd110, iv 0, u_, u_] [(.ref b170), (.ref b170), (.ref sl152), (.ref sl134), .null, (.ref b117), (.ref b117)])) rfl (by rw [hml]; rfl) (argsL := []) (rest := [(.ref b170), (.ref sl152), (.ref sl134), .null, (.ref b117), (.ref b117)]) rfl (lenOf own_pd10 rfl) rfl (by show 2 * 0 + _ ≤ _; exact Nat.le_of_eq rfl) (hb hby at_153) e170 (by decide) (by decide)
      obtain ⟨rfl, Nq190, Kq190, q190_0⟩ := hQ190
      have N190 := Fr.app N110 Nq190
      have f191 := own_staKeepW f171 Kq190 (allS A170.nostat all0)
      have f192 := own_staKeepW f172 Kq190 (allS A170.nostat all0)
      have f193 := own_staKeepW f173 Kq190 (allS A170.nostat all0)
      have f194 := f174.keep Kq190 (ninS (own_nf f156.lt g170) nin0)
      have f195 := own_staKeepW f175 Kq190 (allS A170.nostat all0)
      have f196 := f176.keep Kq190 (ninS (own_nf f158.lt g170) nin0)
      have f197 := f177.keep Kq190
      have f198 := f178.keep Kq190 (ninS (own_nf f159.lt g170) nin0)
      have f199 := f179.keep Kq190 (ninS (own_nf f159.lt g170) nin0)
      have f200 := f180.keep Kq190 (ninS (own_nf f159.lt g170) nin0)
      have f201 := f181.keep Kq190 (ninS (own_nf f159.lt g170) nin0)
      have f202 := f182.keep Kq190 (ninS (own_nf f159.lt g170) nin0)
      have f203 := f183.keep Kq190 (ninS (own_nf f159.lt g170) nin0)
      have f204 := f184.keep Kq190 (ninS (own_nf f159.lt g170) nin0)
      have f205 := f185.keep Kq190 (ninS (own_nf f159.lt g170) nin0)
      have f206 := f186.keep Kq190 (ninS (own_nf f159.lt g170) nin0)
      have f207 := f187.keep Kq190 (ninS (own_nf f159.lt g170) nin0)
      have f208 := A170.keep Kq190
      have Z190 := Nat.le_trans Z170 Kq190.1
      have hk190 := Nat.le_trans hk170 Kq190.1
      refine own_s T190 (mkF m 156 #[iv p1, iv p2, iv p3, iv p4, iv p5, iv 0, iv 1, rv zd110, iv 0, u_, u_] [(.ref b170), (.ref sl152), (.ref sl134), .null, (.ref b117), (.ref b117)]) st190 ?_
      refine own_s T190 (mkF m 160 #[iv p1, iv p2, iv p3, iv p4, iv p5, iv 0, iv 1, rv zd110, iv 0, u_, u_] [.null, .null, (.ref zd110), (.ref b170), (.ref sl152), (.ref sl134), .null, (.ref b117), (.ref b117)]) (fun _ k => XS.aload X190.here hx rfl (hb hby at_156) rfl rfl (XS.aconstNull X190.here hx rfl (hb hby at_158) (XS.aconstNull X190.here hx rfl (hb hby at_159) k))) ?_
      obtain ⟨v209, T209, L209, X209, hQ209, st209⟩ := own_callI X190 hx hZ (y := own_y11) (W := 1) (a := b117) rfl hown (own_h hw 42 rfl) (own_h hw 43 rfl) (own_h hw 2 rfl) (own_h hw 44 rfl) (by decide) (own_rmxi_z l Z a0 hw [] b117 sl134 sl152 b170 zd110 oN oA zkd110 [.null, .null, .null, .null, .null, .null, .null, .null, .null, .null, .null, .null, .null] T190.heap n0 Z190 g_b117 f197 f198 f199 f200 f201 f202 f203 f204 f205 f206 f207 f192 f193 f196 (Ne.symm (own_nf q110_0.lt g117))) (by decide) (by decide) (g := (mkF m 160 #[iv p1, iv p2, iv p3, iv p4, iv p5, iv 0, iv 1, rv zd110, iv 0, u_, u_] [.null, .null, (.ref zd110), (.ref b170), (.ref sl152), (.ref sl134), .null, (.ref b117), (.ref b117)])) rfl (by rw [hml]; rfl) (argsL := [.null, (.ref sl134), (.ref sl152), (.ref b170), (.ref zd110), .null, .null]) (rest := [(.ref b117)]) rfl (lenOf own_pd12 rfl) rfl (by show 2 * 0 + _ ≤ _; exact Nat.le_of_eq rfl) (hb hby at_160) rfl (by decide) (by decide)
      obtain ⟨rfl, Nq209, Kq209, q209_0, q209_1, q209_2⟩ := hQ209
      have N209 := Fr.app N190 Nq209
      have f210 := own_staKeepW f191 Kq209 (allS f197.nostat all0)
      have f211 := own_staKeepW f192 Kq209 (allS f197.nostat all0)
      have f212 := own_staKeepW f193 Kq209 (allS f197.nostat all0)
      have f213 := f194.keep Kq209 (ninS (own_nf f114.lt g117) nin0)
      have f214 := own_staKeepW f195 Kq209 (allS f197.nostat all0)
      have f215 := f196.keep Kq209 (ninS (own_nf q110_0.lt g117) nin0)
      have f216 := f197.keep Kq209
      have f217 := q190_0.keep Kq209
      have Z209 := Nat.le_trans Z190 Kq209.1
      have hk209 := Nat.le_trans hk190 Kq209.1
      refine own_s T209 (mkF m 163 #[iv p1, iv p2, iv p3, iv p4, iv p5, iv 0, iv 1, rv zd110, iv 0, u_, u_] [(.ref b117)]) st209 ?_
      refine own_s T209 (mkF m 167 #[iv p1, iv p2, iv p3, iv p4, iv p5, iv 0, iv 1, rv zd110, iv 0, rv b117, u_] [(.ref b117)]) (fun _ k => XS.astore X209.here hx rfl (hb hby at_163) rfl rfl (l' := #[iv p1, iv p2, iv p3, iv p4, iv p5, iv 0, iv 1, rv zd110, iv 0, rv b117, u_]) rfl (XS.aload X209.here hx rfl (hb hby at_165) rfl rfl k)) ?_
      obtain ⟨v218, T218, L218, X218, hQ218, st218⟩ := own_callV X209 hx hZ (y := own_y12) (z := own_y12) (W := 0) (a := b117) hown (own_h hw 73 rfl) (own_h hw 74 rfl) (notFace_of_selects (args := #[]) (mvT hZ (own_h hw 76 rfl))) (own_h hw 76 rfl) (own_h hw 75 rfl) (own_h hw 2 rfl) (own_h hw 77 rfl) (by decide) (own_rmcnt2 l Z a0 hw [] b117 oA kA [] (0 : Int32) T209.heap n0 Z209 q209_1 q209_2 f213) (by decide) (by decide) q209_0 (g := (mkF m 167 #[iv p1, iv p2, iv p3, iv p4, iv p5, iv 0, iv 1, rv zd110, iv 0, rv b117, u_] [(.ref b117)])) rfl (by rw [hml]; rfl) (argsL := []) (rest := []) rfl (lenOf own_pd13 rfl) rfl (by show 2 * 0 + _ ≤ _; exact Nat.le_of_eq rfl) (hb hby at_167) rfl (by decide) (by decide)
      obtain ⟨rfl, Nq218, e218⟩ := hQ218
      have N218 := Fr.app N209 Nq218
      refine own_s T218 (mkF m 170 #[iv p1, iv p2, iv p3, iv p4, iv p5, iv 0, iv 1, rv zd110, iv 0, rv b117, u_] [(.int ((0 : Int32) / (2 : Int32)))]) st218 ?_
      refine own_s T218 (mkF m 216 #[iv p1, iv p2, iv p3, iv p4, iv p5, iv 0, iv 1, rv zd110, iv 0, rv b117, iv 1] [(.int 1), (.int 0)]) (fun _ k => XS.iload X218.here hx rfl (hb hby at_170) rfl  (XS.icmpYes X218.here hx rfl (pc0 := 172) (pc' := 177) rfl (hb hby at_172) rfl (teq (by decide)).1 (by decide) (by decide) (XS.iconst X218.here hx rfl (hb hby at_177) (XS.istore X218.here hx rfl (hb hby at_178) rfl (l' := #[iv p1, iv p2, iv p3, iv p4, iv p5, iv 0, iv 1, rv zd110, iv 0, rv b117, iv 1]) rfl (XS.iload X218.here hx rfl (hb hby at_180) rfl  (XS.ifYes X218.here hx rfl (pc0 := 182) (pc' := 213) rfl (hb hby at_182) rfl ((if0 _ _).trans (flt (by decide : ¬ ((0 : Int32) < (0 : Int32)))).2.2.2) (by decide) (by decide) (XS.iload X218.here hx rfl (hb hby at_213) rfl  (XS.iconst X218.here hx rfl (hb hby at_215) k)))))))) ?_
      refine own_s T218 (mkF m 283 #[iv p1, iv p2, iv p3, iv p4, iv p5, iv 0, iv 1, rv zd110, iv 0, rv b117, iv 1] [(.int 1)]) (fun _ k => XS.icmpYes X218.here hx rfl (pc0 := 216) (pc' := 247) rfl (hb hby at_216) rfl (flt (by decide : ¬ ((1 : Int32) < (0 : Int32)))).2.2.2 (by decide) (by decide) (XS.iload X218.here hx rfl (hb hby at_247) rfl  (XS.iconst X218.here hx rfl (hb hby at_249) (XS.icmpYes X218.here hx rfl (pc0 := 250) (pc' := 281) rfl (hb hby at_250) rfl (flt (by decide : ¬ ((2 : Int32) < (0 : Int32)))).2.2.2 (by decide) (by decide) (XS.iload X218.here hx rfl (hb hby at_281) rfl  k))))) ?_
      exact own_finZ X218 hx (t := .boolean) hret (by simp) (z' := (1 : Int32)) rfl (hb hby at_283) (own_endW (Qv := (own_Q0 Z p1 p2 p3 p4 p5 gC oN oA kA oD h0 n0)) X218 hS (own_some hret) hlk (by decide) (by decide) e218 hk209 (fun vm' hv' => ⟨rfl, N218⟩))
  · refine own_cast (g' := (mkF m 5 #[iv p1, iv p2, iv p3, iv p4, iv p5, iv 1, u_, u_, u_, u_, u_] [])) (by rw [hn]) ?_
    refine own_s s₁ (mkF m 10 #[iv p1, iv p2, iv p3, iv p4, iv p5, iv 1, u_, u_, u_, u_, u_] [(.int (((p1.toUInt32 >>> ((2 : Int32) &&& 31).toUInt32).toInt32) &&& (1 : Int32)))]) (fun _ k => XS.iloadN X0.here hx rfl (hb hby at_5) rfl  (XS.iconst X0.here hx rfl (hb hby at_6) (XS.iushr X0.here hx rfl (hb hby at_7) rfl (XS.iconst X0.here hx rfl (hb hby at_8) (XS.iand X0.here hx rfl (hb hby at_9) rfl k))))) ?_
    by_cases c10 : (((p1.toUInt32 >>> ((2 : Int32) &&& 31).toUInt32).toInt32) &&& (1 : Int32)) = (0 : Int32)
    · refine own_s s₁ (mkF m 24 #[iv p1, iv p2, iv p3, iv p4, iv p5, iv 1, iv 0, u_, u_, u_, u_] [(.int 0), (.int 1)]) (fun _ k => XS.ifYes X0.here hx rfl (pc0 := 10) (pc' := 17) rfl (hb hby at_10) rfl ((if0 _ _).trans (teq c10).1) (by decide) (by decide) (XS.iconst X0.here hx rfl (hb hby at_17) (XS.istore X0.here hx rfl (hb hby at_18) rfl (l' := #[iv p1, iv p2, iv p3, iv p4, iv p5, iv 1, iv 0, u_, u_, u_, u_]) rfl (XS.iload X0.here hx rfl (hb hby at_20) rfl  (XS.iload X0.here hx rfl (hb hby at_22) rfl  k))))) ?_
      obtain ⟨v219, T219, L219, X219, hQ219, st219⟩ := own_callS X0 hx hZ (y := own_y8) (W := 0) hown (own_h hw 0 rfl) (own_h hw 1 rfl) (own_h hw 2 rfl) (own_h hw 3 rfl) (by decide) (own_rmna1_0 l Z a0 hw []  h0 n0 Z0) (by decide) (by decide) (g := (mkF m 24 #[iv p1, iv p2, iv p3, iv p4, iv p5, iv 1, iv 0, u_, u_, u_, u_] [(.int 0), (.int 1)])) rfl (by rw [hml]; rfl) (argsL := [(.int 1), (.int 0)]) (rest := []) rfl (lenOf own_pd11 rfl) rfl (by show 2 * 0 + _ ≤ _; exact Nat.le_of_eq rfl) (hb hby at_24) e0 (by decide) (by decide)
      obtain ⟨zd219, zkd219, rfl, Nq219, Kq219, g_zd219, sq_zd219, q219_0, q219_1⟩ := hQ219
      have N219 := Fr.app N0 Nq219
      have f220 := own_staKeep pr0 Kq219
      have f221 := own_staKeep pr1 Kq219
      have f222 := own_staKeep pr2 Kq219
      have f223 := pr3.keep Kq219 nin0
      have f224 := own_staKeep pr4 Kq219
      have Z219 := Nat.le_trans Z0 Kq219.1
      have hk219 := Nat.le_trans hk0 Kq219.1
      refine own_s T219 (mkF m 27 #[iv p1, iv p2, iv p3, iv p4, iv p5, iv 1, iv 0, u_, u_, u_, u_] [(.ref zd219)]) st219 ?_
      refine own_s T219 (mkF m 56 #[iv p1, iv p2, iv p3, iv p4, iv p5, iv 1, iv 0, rv zd219, iv 2, u_, u_] [(.ref zd219)]) (fun _ k => XS.astore X219.here hx rfl (hb hby at_27) rfl rfl (l' := #[iv p1, iv p2, iv p3, iv p4, iv p5, iv 1, iv 0, rv zd219, u_, u_, u_]) rfl (XS.iload X219.here hx rfl (hb hby at_29) rfl  (XS.ifYes X219.here hx rfl (pc0 := 31) (pc' := 48) rfl (hb hby at_31) rfl ((if0 _ _).trans (teq (by decide : ((0 : Int32) = (0 : Int32)))).1) (by decide) (by decide) (XS.iconst X219.here hx rfl (hb hby at_48) (XS.iload X219.here hx rfl (hb hby at_49) rfl  (XS.imul X219.here hx rfl (hb hby at_51) rfl (XS.istore X219.here hx rfl (hb hby at_52) rfl (l' := #[iv p1, iv p2, iv p3, iv p4, iv p5, iv 1, iv 0, rv zd219, iv 2, u_, u_]) rfl (XS.aload X219.here hx rfl (hb hby at_54) rfl rfl k)))))))) ?_
      obtain ⟨cl225, Ar225, q225, S225, Nn225, H225, G225⟩ := id q219_0
      refine own_s T219 (mkF m 74 #[iv p1, iv p2, iv p3, iv p4, iv p5, iv 1, iv 0, rv zd219, iv 2, u_, u_] [(.int 0), (.int 0), (.ref zd219)]) (fun _ k => own_len X219 hx hZ rfl Ar225 S225 Nn225 (g := (mkF m 56 #[iv p1, iv p2, iv p3, iv p4, iv p5, iv 1, iv 0, rv zd219, iv 2, u_, u_] [(.ref zd219)])) rfl rfl (hb hby at_56) (XS.iload X219.here hx rfl (hb hby at_57) rfl  (XS.icmpYes X219.here hx rfl (pc0 := 59) (pc' := 64) rfl (hb hby at_59) rfl (teq (by decide : ((2 : Int32) = (2 : Int32)))).1 (by decide) (by decide) (XS.iload X219.here hx rfl (hb hby at_64) rfl  (XS.ifNo X219.here hx rfl (hb hby at_66) rfl ((if0 _ _).trans (tlt (by decide : ((0 : Int32) < (1 : Int32)))).2.2.2) (XS.aload X219.here hx rfl (hb hby at_69) rfl rfl (XS.iconst X219.here hx rfl (hb hby at_71) (XS.iload X219.here hx rfl (hb hby at_72) rfl  k)))))))) ?_
      refine own_s T219 (mkF m 79 #[iv p1, iv p2, iv p3, iv p4, iv p5, iv 1, iv 0, rv zd219, iv 2, u_, u_] [(.int p5), (.int p4), (.int p3), (.int p2), (.int 0), (.int 0), (.ref zd219)]) (fun _ k => XS.iloadN X219.here hx rfl (hb hby at_74) rfl  (XS.iloadN X219.here hx rfl (hb hby at_75) rfl  (XS.iloadN X219.here hx rfl (hb hby at_76) rfl  (XS.iload X219.here hx rfl (hb hby at_77) rfl  k)))) ?_
      obtain ⟨v226, T226, L226, X226, hQ226, st226⟩ := own_callS X219 hx hZ (y := own_y10) (W := 0) hown (own_h hw 78 rfl) (own_h hw 79 rfl) (own_h hw 80 rfl) (own_h hw 81 rfl) (by decide) (own_rmput0_0 l Z a0 hw [] zd219 p2 p3 p4 p5 zkd219 (2 : Int32) .null .null .null .null .null .null .null .null .null .null .null .null .null gC T219.heap n0 Z219 g_zd219 q219_0 q219_1 f220 hG (by decide) (by decide) (by decide)) (by decide) (by decide) (g := (mkF m 79 #[iv p1, iv p2, iv p3, iv p4, iv p5, iv 1, iv 0, rv zd219, iv 2, u_, u_] [(.int p5), (.int p4), (.int p3), (.int p2), (.int 0), (.int 0), (.ref zd219)])) rfl (by rw [hml]; rfl) (argsL := [(.ref zd219), (.int 0), (.int 0), (.int p2), (.int p3), (.int p4), (.int p5)]) (rest := []) rfl (lenOf own_pd14 rfl) rfl (by show 2 * 0 + _ ≤ _; exact Nat.le_of_eq rfl) (hb hby at_79) rfl (by decide) (by decide)
      obtain ⟨zsn226, zbn226, zkn226, zsv226, zbv226, zkv226, rfl, Nq226, Kq226, g_zsn226, sq_zsn226, g_zbn226, sq_zbn226, g_zsv226, sq_zsv226, g_zbv226, sq_zbv226, q226_0, q226_1, q226_2, q226_3, q226_4, q226_5, q226_6, q226_7, q226_8⟩ := hQ226
      have N226 := Fr.app N219 Nq226
      have f227 := own_staKeepW f220 Kq226 (allS q219_0.nostat all0)
      have f228 := own_staKeepW f221 Kq226 (allS q219_0.nostat all0)
      have f229 := own_staKeepW f222 Kq226 (allS q219_0.nostat all0)
      have f230 := f223.keep Kq226 (ninS (own_nl pr3.lt sq_zd219) nin0)
      have f231 := own_staKeepW f224 Kq226 (allS q219_0.nostat all0)
      have Z226 := Nat.le_trans Z219 Kq226.1
      have hk226 := Nat.le_trans hk219 Kq226.1
      refine own_s T226 (mkF m 82 #[iv p1, iv p2, iv p3, iv p4, iv p5, iv 1, iv 0, rv zd219, iv 2, u_, u_] []) st226 ?_
      refine own_s T226 (mkF m 123 #[iv p1, iv p2, iv p3, iv p4, iv p5, iv 1, iv 0, rv zd219, iv 2, u_, u_] [(.int 2), (.int 2)]) (fun _ k => XS.iload X226.here hx rfl (hb hby at_82) rfl  (XS.iconst X226.here hx rfl (hb hby at_84) (XS.icmpYes X226.here hx rfl (pc0 := 85) (pc' := 101) rfl (hb hby at_85) rfl (flt (by decide : ¬ ((1 : Int32) < (1 : Int32)))).2.2.2 (by decide) (by decide) (XS.iload X226.here hx rfl (hb hby at_101) rfl  (XS.iconst X226.here hx rfl (hb hby at_103) (XS.icmpYes X226.here hx rfl (pc0 := 104) (pc' := 120) rfl (hb hby at_104) rfl (flt (by decide : ¬ ((2 : Int32) < (1 : Int32)))).2.2.2 (by decide) (by decide) (XS.iload X226.here hx rfl (hb hby at_120) rfl  (XS.iconst X226.here hx rfl (hb hby at_122) k)))))))) ?_
      refine own_s T226 (mkF m 140 #[iv p1, iv p2, iv p3, iv p4, iv p5, iv 1, iv 0, rv zd219, iv 2, u_, u_] []) (fun _ k => iremM X226 hx rfl (hb hby at_123) rfl (by decide) (XS.iconst X226.here hx rfl (hb hby at_124) (XS.icmpYes X226.here hx rfl (pc0 := 125) (pc' := 140) rfl (hb hby at_125) rfl (feq (by decide)).2 (by decide) (by decide) k))) ?_
      obtain ⟨T232, h232, X232, e232, E232, A232, D232, -, st232⟩ := newO X226 hx hZ hown (own_h hw 6 rfl) (own_h hw 7 rfl) (own_h hw 2 rfl) rfl (g := (mkF m 140 #[iv p1, iv p2, iv p3, iv p4, iv p5, iv 1, iv 0, rv zd219, iv 2, u_, u_] [])) rfl (hb hby at_140) (by decide) (by decide)
      obtain ⟨b232, g232⟩ : ∃ z, z = T226.heap.size := ⟨_, rfl⟩
      have g_b232 : n0 ≤ b232 := Nat.le_trans Z226 (Nat.le_of_eq g232.symm)
      rw [← g232] at A232 D232 st232
      have f233 := Sta.ext E232 f227
      have f234 := Sta.ext E232 f228
      have f235 := Sta.ext E232 f229
      have f236 := f230.ext E232
      have f237 := Sta.ext E232 f231
      have f238 := q226_0.ext E232
      have f239 := Exa.ext E232 q226_1
      have f240 := Fld.ext E232 q226_2
      have f241 := Fld.ext E232 q226_3
      have f242 := q226_4.ext E232
      have f243 := Exa.ext E232 q226_5
      have f244 := Fld.ext E232 q226_6
      have f245 := Fld.ext E232 q226_7
      have f246 := q226_8.ext E232
      have Z232 := Nat.le_trans Z226 E232.1
      have hk232 := Nat.le_trans hk226 E232.1
      have f247 : Fld Z h232 b232 "com/example/tagwright/tagwright/XmlElement" "children" "Ljava/util/List;" .null := D232 (Or.inl (own_h hw 49 rfl)) (ty := (.object "java/util/List")) (by decide)
      have f248 : Fld Z h232 b232 "com/example/tagwright/tagwright/XmlElement" "namespace" "Ljava/lang/String;" .null := D232 (Or.inr (own_h hw 51 rfl)) (ty := (.object "java/lang/String")) (by decide)
      have f249 : Fld Z h232 b232 "com/example/tagwright/tagwright/XmlElement" "localName" "Ljava/lang/String;" .null := D232 (Or.inr (own_h hw 53 rfl)) (ty := (.object "java/lang/String")) (by decide)
      have f250 : Fld Z h232 b232 "com/example/tagwright/tagwright/XmlElement" "tagName" "Ljava/lang/String;" .null := D232 (Or.inr (own_h hw 55 rfl)) (ty := (.object "java/lang/String")) (by decide)
      have f251 : Fld Z h232 b232 "com/example/tagwright/tagwright/XmlElement" "declarations" "Ljava/util/List;" .null := D232 (Or.inr (own_h hw 57 rfl)) (ty := (.object "java/util/List")) (by decide)
      have f252 : Fld Z h232 b232 "com/example/tagwright/tagwright/XmlElement" "attributes" "[Ljava/lang/String;" .null := D232 (Or.inr (own_h hw 61 rfl)) (ty := (.array (.object "java/lang/String"))) (by decide)
      have f253 : Fld Z h232 b232 "com/example/tagwright/tagwright/XmlElement" "stride" "B" (.int 0) := D232 (Or.inr (own_h hw 66 rfl)) (ty := .byte) (by decide)
      have f254 : Fld Z h232 b232 "com/example/tagwright/tagwright/XmlElement" "location" "Lcom/example/tagwright/tagwright/Location;" .null := D232 (Or.inr (own_h hw 68 rfl)) (ty := (.object "com/example/tagwright/tagwright/Location")) (by decide)
      have f255 : Fld Z h232 b232 "com/example/tagwright/tagwright/XmlElement" "parent" "Lcom/example/tagwright/tagwright/XmlElement;" .null := D232 (Or.inr (own_h hw 70 rfl)) (ty := (.object "com/example/tagwright/tagwright/XmlElement")) (by decide)
      have f256 : Fld Z h232 b232 "com/example/tagwright/tagwright/XmlElement" "index" "I" (.int 0) := D232 (Or.inr (own_h hw 72 rfl)) (ty := .int) (by decide)
      refine own_s T232 (mkF m 143 #[iv p1, iv p2, iv p3, iv p4, iv p5, iv 1, iv 0, rv zd219, iv 2, u_, u_] [(.ref b232)]) st232 ?_
      refine own_s T232 (mkF m 145 #[iv p1, iv p2, iv p3, iv p4, iv p5, iv 1, iv 0, rv zd219, iv 2, u_, u_] [.null, (.ref b232), (.ref b232)]) (fun _ k => XS.dup X232.here hx rfl (hb hby at_143) rfl rfl (XS.aconstNull X232.here hx rfl (hb hby at_144) k)) ?_
      obtain ⟨sl257, T257, h257, kk257, X257, e257, E257, hS, hk257, hZ, hown, st257⟩ := ldcS (s := s) X232 hx hZ hown (own_h hw 8 rfl) (own_wS hw) e232 hS hk232 (g := (mkF m 145 #[iv p1, iv p2, iv p3, iv p4, iv p5, iv 1, iv 0, rv zd219, iv 2, u_, u_] [.null, (.ref b232), (.ref b232)])) rfl (hb hby at_145) (n := 4) (by decide) (by decide) (by decide) (by decide)
      have f258 := Sta.ext E257 f233
      have f259 := Sta.ext E257 f234
      have f260 := Sta.ext E257 f235
      have f261 := f236.ext E257
      have f262 := Sta.ext E257 f237
      have f263 := f238.ext E257
      have f264 := Exa.ext E257 f239
      have f265 := Fld.ext E257 f240
      have f266 := Fld.ext E257 f241
      have f267 := f242.ext E257
      have f268 := Exa.ext E257 f243
      have f269 := Fld.ext E257 f244
      have f270 := Fld.ext E257 f245
      have f271 := f246.ext E257
      have f272 := Exa.ext E257 A232
      have f273 := Fld.ext E257 f247
      have f274 := Fld.ext E257 f248
      have f275 := Fld.ext E257 f249
      have f276 := Fld.ext E257 f250
      have f277 := Fld.ext E257 f251
      have f278 := Fld.ext E257 f252
      have f279 := Fld.ext E257 f253
      have f280 := Fld.ext E257 f254
      have f281 := Fld.ext E257 f255
      have f282 := Fld.ext E257 f256
      have Z257 := Nat.le_trans Z232 E257.1
      refine own_s T257 (mkF m 147 #[iv p1, iv p2, iv p3, iv p4, iv p5, iv 1, iv 0, rv zd219, iv 2, u_, u_] [(.ref sl257), .null, (.ref b232), (.ref b232)]) st257 ?_
      obtain ⟨sl283, T283, h283, kk283, X283, e283, E283, hS, hk283, hZ, hown, st283⟩ := ldcS (s := s) X257 hx hZ hown (own_h hw 8 rfl) (own_wS hw) e257 hS hk257 (g := (mkF m 147 #[iv p1, iv p2, iv p3, iv p4, iv p5, iv 1, iv 0, rv zd219, iv 2, u_, u_] [(.ref sl257), .null, (.ref b232), (.ref b232)])) rfl (hb hby at_147) (n := 4) (by decide) (by decide) (by decide) (by decide)
      have f284 := Sta.ext E283 f258
      have f285 := Sta.ext E283 f259
      have f286 := Sta.ext E283 f260
      have f287 := f261.ext E283
      have f288 := Sta.ext E283 f262
      have f289 := f263.ext E283
      have f290 := Exa.ext E283 f264
      have f291 := Fld.ext E283 f265
      have f292 := Fld.ext E283 f266
      have f293 := f267.ext E283
      have f294 := Exa.ext E283 f268
      have f295 := Fld.ext E283 f269
      have f296 := Fld.ext E283 f270
      have f297 := f271.ext E283
      have f298 := Exa.ext E283 f272
      have f299 := Fld.ext E283 f273
      have f300 := Fld.ext E283 f274
      have f301 := Fld.ext E283 f275
      have f302 := Fld.ext E283 f276
      have f303 := Fld.ext E283 f277
      have f304 := Fld.ext E283 f278
      have f305 := Fld.ext E283 f279
      have f306 := Fld.ext E283 f280
      have f307 := Fld.ext E283 f281
      have f308 := Fld.ext E283 f282
      have Z283 := Nat.le_trans Z257 E283.1
      refine own_s T283 (mkF m 149 #[iv p1, iv p2, iv p3, iv p4, iv p5, iv 1, iv 0, rv zd219, iv 2, u_, u_] [(.ref sl283), (.ref sl257), .null, (.ref b232), (.ref b232)]) st283 ?_
      obtain ⟨T309, h309, X309, e309, E309, A309, D309, -, st309⟩ := newO X283 hx hZ hown (own_h hw 16 rfl) (own_h hw 17 rfl) (own_h hw 18 rfl) e283 (g := (mkF m 149 #[iv p1, iv p2, iv p3, iv p4, iv p5, iv 1, iv 0, rv zd219, iv 2, u_, u_] [(.ref sl283), (.ref sl257), .null, (.ref b232), (.ref b232)])) rfl (hb hby at_149) (by decide) (by decide)
      obtain ⟨b309, g309⟩ : ∃ z, z = h283.size := ⟨_, rfl⟩
      have g_b309 : n0 ≤ b309 := Nat.le_trans Z283 (Nat.le_of_eq g309.symm)
      rw [← g309] at A309 D309 st309
      have f310 := Sta.ext E309 f284
      have f311 := Sta.ext E309 f285
      have f312 := Sta.ext E309 f286
      have f313 := f287.ext E309
      have f314 := Sta.ext E309 f288
      have f315 := f289.ext E309
      have f316 := Exa.ext E309 f290
      have f317 := Fld.ext E309 f291
      have f318 := Fld.ext E309 f292
      have f319 := f293.ext E309
      have f320 := Exa.ext E309 f294
      have f321 := Fld.ext E309 f295
      have f322 := Fld.ext E309 f296
      have f323 := f297.ext E309
      have f324 := Exa.ext E309 f298
      have f325 := Fld.ext E309 f299
      have f326 := Fld.ext E309 f300
      have f327 := Fld.ext E309 f301
      have f328 := Fld.ext E309 f302
      have f329 := Fld.ext E309 f303
      have f330 := Fld.ext E309 f304
      have f331 := Fld.ext E309 f305
      have f332 := Fld.ext E309 f306
      have f333 := Fld.ext E309 f307
      have f334 := Fld.ext E309 f308
      have Z309 := Nat.le_trans Z283 E309.1
      have hk309 := Nat.le_trans hk283 E309.1
      have f335 : Fld Z h309 b309 "java/util/AbstractList" "modCount" "I" (.int 0) := D309 (Or.inl (own_h hw 38 rfl)) (ty := .int) (by decide)
      have f336 : Fld Z h309 b309 "java/util/ArrayList" "elementData" "[Ljava/lang/Object;" .null := D309 (Or.inl (own_h hw 41 rfl)) (ty := (.array (.object "java/lang/Object"))) (by decide)
      refine own_s T309 (mkF m 152 #[iv p1, iv p2, iv p3, iv p4, iv p5, iv 1, iv 0, rv zd219, iv 2, u_, u_] [(.ref b309), (.ref sl283), (.ref sl257), .null, (.ref b232), (.ref b232)]) st309 ?_
      refine own_s T309 (mkF m 153 #[iv p1, iv p2, iv p3, iv p4, iv p5, iv 1, iv 0, rv zd219, iv 2, u_, u_] [(.ref b309), (.ref b309), (.ref sl283), (.ref sl257), .null, (.ref b232), (.ref b232)]) (fun _ k => XS.dup X309.here hx rfl (hb hby at_152) rfl rfl k) ?_
      obtain ⟨v337, T337, L337, X337, hQ337, st337⟩ := own_callI X309 hx hZ (y := own_y20) (W := 6) (a := b309) rfl hown (own_h hw 19 rfl) (own_h hw 20 rfl) (own_h hw 18 rfl) (own_h hw 21 rfl) (by decide) (own_rmal l Z a0 hw [] b309 oD h309 n0 Z309 g_b309 f314 A309 f335 f336) (by decide) (by decide) (g := (mkF m 153 #[iv p1, iv p2, iv p3, iv p4, iv p5, iv 1, iv 0, rv zd219, iv 2, u_, u_] [(.ref b309), (.ref b309), (.ref sl283), (.ref sl257), .null, (.ref b232), (.ref b232)])) rfl (by rw [hml]; rfl) (argsL := []) (rest := [(.ref b309), (.ref sl283), (.ref sl257), .null, (.ref b232), (.ref b232)]) rfl (lenOf own_pd10 rfl) rfl (by show 2 * 0 + _ ≤ _; exact Nat.le_of_eq rfl) (hb hby at_153) e309 (by decide) (by decide)
      obtain ⟨rfl, Nq337, Kq337, q337_0⟩ := hQ337
      have N337 := Fr.app N226 Nq337
      have f338 := own_staKeepW f310 Kq337 (allS A309.nostat all0)
      have f339 := own_staKeepW f311 Kq337 (allS A309.nostat all0)
      have f340 := own_staKeepW f312 Kq337 (allS A309.nostat all0)
      have f341 := f313.keep Kq337 (ninS (own_nf f287.lt g309) nin0)
      have f342 := own_staKeepW f314 Kq337 (allS A309.nostat all0)
      have f343 := f315.keep Kq337 (ninS (own_nf f289.lt g309) nin0)
      have f344 := f316.keep Kq337
      have f345 := f317.keep Kq337 (ninS (own_nf f290.lt g309) nin0)
      have f346 := f318.keep Kq337 (ninS (own_nf f290.lt g309) nin0)
      have f347 := f319.keep Kq337 (ninS (own_nf f293.lt g309) nin0)
      have f348 := f320.keep Kq337
      have f349 := f321.keep Kq337 (ninS (own_nf f294.lt g309) nin0)
      have f350 := f322.keep Kq337 (ninS (own_nf f294.lt g309) nin0)
      have f351 := f323.keep Kq337 (ninS (own_nf f297.lt g309) nin0)
      have f352 := f324.keep Kq337
      have f353 := f325.keep Kq337 (ninS (own_nf f298.lt g309) nin0)
      have f354 := f326.keep Kq337 (ninS (own_nf f298.lt g309) nin0)
      have f355 := f327.keep Kq337 (ninS (own_nf f298.lt g309) nin0)
      have f356 := f328.keep Kq337 (ninS (own_nf f298.lt g309) nin0)
      have f357 := f329.keep Kq337 (ninS (own_nf f298.lt g309) nin0)
      have f358 := f330.keep Kq337 (ninS (own_nf f298.lt g309) nin0)
      have f359 := f331.keep Kq337 (ninS (own_nf f298.lt g309) nin0)
      have f360 := f332.keep Kq337 (ninS (own_nf f298.lt g309) nin0)
      have f361 := f333.keep Kq337 (ninS (own_nf f298.lt g309) nin0)
      have f362 := f334.keep Kq337 (ninS (own_nf f298.lt g309) nin0)
      have f363 := A309.keep Kq337
      have Z337 := Nat.le_trans Z309 Kq337.1
      have hk337 := Nat.le_trans hk309 Kq337.1
      refine own_s T337 (mkF m 156 #[iv p1, iv p2, iv p3, iv p4, iv p5, iv 1, iv 0, rv zd219, iv 2, u_, u_] [(.ref b309), (.ref sl283), (.ref sl257), .null, (.ref b232), (.ref b232)]) st337 ?_
      refine own_s T337 (mkF m 160 #[iv p1, iv p2, iv p3, iv p4, iv p5, iv 1, iv 0, rv zd219, iv 2, u_, u_] [.null, .null, (.ref zd219), (.ref b309), (.ref sl283), (.ref sl257), .null, (.ref b232), (.ref b232)]) (fun _ k => XS.aload X337.here hx rfl (hb hby at_156) rfl rfl (XS.aconstNull X337.here hx rfl (hb hby at_158) (XS.aconstNull X337.here hx rfl (hb hby at_159) k))) ?_
      obtain ⟨v364, T364, L364, X364, hQ364, st364⟩ := own_callI X337 hx hZ (y := own_y11) (W := 1) (a := b232) rfl hown (own_h hw 42 rfl) (own_h hw 43 rfl) (own_h hw 2 rfl) (own_h hw 44 rfl) (by decide) (own_rmxi_e l Z a0 hw [] b232 sl257 sl283 b309 zd219 oN oA zkd219 [(.ref zsn226), (.ref zsv226), .null, .null, .null, .null, .null, .null, .null, .null, .null, .null, .null] (2 : Int32) T337.heap n0 Z337 g_b232 f352 f353 f354 f355 f356 f357 f358 f359 f360 f361 f362 f339 f340 f343 (Ne.symm (own_nf q226_0.lt g232)) (by decide) (by decide)) (by decide) (by decide) (g := (mkF m 160 #[iv p1, iv p2, iv p3, iv p4, iv p5, iv 1, iv 0, rv zd219, iv 2, u_, u_] [.null, .null, (.ref zd219), (.ref b309), (.ref sl283), (.ref sl257), .null, (.ref b232), (.ref b232)])) rfl (by rw [hml]; rfl) (argsL := [.null, (.ref sl257), (.ref sl283), (.ref b309), (.ref zd219), .null, .null]) (rest := [(.ref b232)]) rfl (lenOf own_pd12 rfl) rfl (by show 2 * 0 + _ ≤ _; exact Nat.le_of_eq rfl) (hb hby at_160) rfl (by decide) (by decide)
      obtain ⟨rfl, Nq364, Kq364, q364_0, q364_1, q364_2⟩ := hQ364
      have N364 := Fr.app N337 Nq364
      have f365 := own_staKeepW f338 Kq364 (allS f352.nostat all0)
      have f366 := own_staKeepW f339 Kq364 (allS f352.nostat all0)
      have f367 := own_staKeepW f340 Kq364 (allS f352.nostat all0)
      have f368 := f341.keep Kq364 (ninS (own_nf f230.lt g232) nin0)
      have f369 := own_staKeepW f342 Kq364 (allS f352.nostat all0)
      have f370 := f343.keep Kq364 (ninS (own_nf q226_0.lt g232) nin0)
      have f371 := f344.keep Kq364
      have f372 := f345.keep Kq364 (ninS (own_nf q226_1.lt g232) nin0)
      have f373 := f346.keep Kq364 (ninS (own_nf q226_1.lt g232) nin0)
      have f374 := f347.keep Kq364 (ninS (own_nf q226_4.lt g232) nin0)
      have f375 := f348.keep Kq364
      have f376 := f349.keep Kq364 (ninS (own_nf q226_5.lt g232) nin0)
      have f377 := f350.keep Kq364 (ninS (own_nf q226_5.lt g232) nin0)
      have f378 := f351.keep Kq364 (ninS (own_nf q226_8.lt g232) nin0)
      have f379 := f352.keep Kq364
      have f380 := q337_0.keep Kq364
      have Z364 := Nat.le_trans Z337 Kq364.1
      have hk364 := Nat.le_trans hk337 Kq364.1
      refine own_s T364 (mkF m 163 #[iv p1, iv p2, iv p3, iv p4, iv p5, iv 1, iv 0, rv zd219, iv 2, u_, u_] [(.ref b232)]) st364 ?_
      refine own_s T364 (mkF m 167 #[iv p1, iv p2, iv p3, iv p4, iv p5, iv 1, iv 0, rv zd219, iv 2, rv b232, u_] [(.ref b232)]) (fun _ k => XS.astore X364.here hx rfl (hb hby at_163) rfl rfl (l' := #[iv p1, iv p2, iv p3, iv p4, iv p5, iv 1, iv 0, rv zd219, iv 2, rv b232, u_]) rfl (XS.aload X364.here hx rfl (hb hby at_165) rfl rfl k)) ?_
      obtain ⟨v381, T381, L381, X381, hQ381, st381⟩ := own_callV X364 hx hZ (y := own_y12) (z := own_y12) (W := 0) (a := b232) hown (own_h hw 73 rfl) (own_h hw 74 rfl) (notFace_of_selects (args := #[]) (mvT hZ (own_h hw 76 rfl))) (own_h hw 76 rfl) (own_h hw 75 rfl) (own_h hw 2 rfl) (own_h hw 77 rfl) (by decide) (own_rmcnt2 l Z a0 hw [] b232 zd219 zkd219 [(.ref zsn226), (.ref zsv226), .null, .null, .null, .null, .null, .null, .null, .null, .null, .null, .null] (2 : Int32) T364.heap n0 Z364 q364_1 q364_2 f370) (by decide) (by decide) q364_0 (g := (mkF m 167 #[iv p1, iv p2, iv p3, iv p4, iv p5, iv 1, iv 0, rv zd219, iv 2, rv b232, u_] [(.ref b232)])) rfl (by rw [hml]; rfl) (argsL := []) (rest := []) rfl (lenOf own_pd13 rfl) rfl (by show 2 * 0 + _ ≤ _; exact Nat.le_of_eq rfl) (hb hby at_167) rfl (by decide) (by decide)
      obtain ⟨rfl, Nq381, e381⟩ := hQ381
      have N381 := Fr.app N364 Nq381
      refine own_s T381 (mkF m 170 #[iv p1, iv p2, iv p3, iv p4, iv p5, iv 1, iv 0, rv zd219, iv 2, rv b232, u_] [(.int ((2 : Int32) / (2 : Int32)))]) st381 ?_
      refine own_s T381 (mkF m 190 #[iv p1, iv p2, iv p3, iv p4, iv p5, iv 1, iv 0, rv zd219, iv 2, rv b232, iv 1] []) (fun _ k => XS.iload X381.here hx rfl (hb hby at_170) rfl  (XS.icmpYes X381.here hx rfl (pc0 := 172) (pc' := 177) rfl (hb hby at_172) rfl (teq (by decide)).1 (by decide) (by decide) (XS.iconst X381.here hx rfl (hb hby at_177) (XS.istore X381.here hx rfl (hb hby at_178) rfl (l' := #[iv p1, iv p2, iv p3, iv p4, iv p5, iv 1, iv 0, rv zd219, iv 2, rv b232, iv 1]) rfl (XS.iload X381.here hx rfl (hb hby at_180) rfl  (XS.ifNo X381.here hx rfl (hb hby at_182) rfl ((if0 _ _).trans (tlt (by decide : ((0 : Int32) < (1 : Int32)))).2.2.2) (XS.iload X381.here hx rfl (hb hby at_185) rfl  (XS.ifNo X381.here hx rfl (hb hby at_187) rfl ((if0 _ _).trans (feq (by decide : ¬ ((1 : Int32) = (0 : Int32)))).1) k)))))))) ?_
      refine own_s T381 (mkF m 200 #[iv p1, iv p2, iv p3, iv p4, iv p5, iv 1, iv 0, rv zd219, iv 2, rv b232, iv 1] [(.int p5), (.int p4), (.int p3), (.int p2), (.int 0), (.int 0), (.ref b232)]) (fun _ k => XS.aload X381.here hx rfl (hb hby at_190) rfl rfl (XS.iconst X381.here hx rfl (hb hby at_192) (XS.iload X381.here hx rfl (hb hby at_193) rfl  (XS.iloadN X381.here hx rfl (hb hby at_195) rfl  (XS.iloadN X381.here hx rfl (hb hby at_196) rfl  (XS.iloadN X381.here hx rfl (hb hby at_197) rfl  (XS.iload X381.here hx rfl (hb hby at_198) rfl  k))))))) ?_
      obtain ⟨v382, T382, L382, X382, hQ382, st382⟩ := own_callS X381 hx hZ (y := own_y17) (W := 0) hown (own_h hw 112 rfl) (own_h hw 113 rfl) (own_h hw 80 rfl) (own_h hw 114 rfl) (by decide) (own_rmchk0_0 l Z a0 hw [] b232 p2 p3 p4 p5 zd219 zkd219 (2 : Int32) zsn226 zsv226 .null .null .null .null .null .null .null .null .null .null .null zbn226 zkn226 zbv226 zkv226 gC T364.heap n0 Z364 q364_0 q364_1 q364_2 f370 f371 f372 f373 f374 f375 f376 f377 f378 f365 hG (by decide) (by decide)) (by decide) (by decide) (g := (mkF m 200 #[iv p1, iv p2, iv p3, iv p4, iv p5, iv 1, iv 0, rv zd219, iv 2, rv b232, iv 1] [(.int p5), (.int p4), (.int p3), (.int p2), (.int 0), (.int 0), (.ref b232)])) rfl (by rw [hml]; rfl) (argsL := [(.ref b232), (.int 0), (.int 0), (.int p2), (.int p3), (.int p4), (.int p5)]) (rest := []) rfl (lenOf own_pd15 rfl) rfl (by show 2 * 0 + _ ≤ _; exact Nat.le_of_eq rfl) (hb hby at_200) e381 (by decide) (by decide)
      obtain ⟨rfl, Nq382, Kq382⟩ := hQ382
      have N382 := Fr.app N381 Nq382
      have f383 := own_staKeep f365 Kq382
      have f384 := own_staKeep f366 Kq382
      have f385 := own_staKeep f367 Kq382
      have f386 := f368.keep Kq382 nin0
      have f387 := own_staKeep f369 Kq382
      have f388 := f370.keep Kq382 nin0
      have f389 := f371.keep Kq382
      have f390 := f372.keep Kq382 nin0
      have f391 := f373.keep Kq382 nin0
      have f392 := f374.keep Kq382 nin0
      have f393 := f375.keep Kq382
      have f394 := f376.keep Kq382 nin0
      have f395 := f377.keep Kq382 nin0
      have f396 := f378.keep Kq382 nin0
      have f397 := q364_0.keep Kq382
      have f398 := f380.keep Kq382
      have f399 := q364_1.keep Kq382 nin0
      have f400 := q364_2.keep Kq382 nin0
      have Z382 := Nat.le_trans Z364 Kq382.1
      have hk382 := Nat.le_trans hk364 Kq382.1
      refine own_s T382 (mkF m 203 #[iv p1, iv p2, iv p3, iv p4, iv p5, iv 1, iv 0, rv zd219, iv 2, rv b232, iv 1] [(.int 1)]) st382 ?_
      refine own_s T382 (mkF m 249 #[iv p1, iv p2, iv p3, iv p4, iv p5, iv 1, iv 0, rv zd219, iv 2, rv b232, iv 1] [(.int 1)]) (fun _ k => XS.ifNo X382.here hx rfl (hb hby at_203) rfl ((if0 _ _).trans (feq (by decide : ¬ ((1 : Int32) = (0 : Int32)))).1) (XS.iconst X382.here hx rfl (hb hby at_206) (XS.goto X382.here hx rfl (pc0 := 207) (pc' := 211) rfl (hb hby at_207) (by decide) (by decide) (XS.istore X382.here hx rfl (hb hby at_211) rfl (l' := #[iv p1, iv p2, iv p3, iv p4, iv p5, iv 1, iv 0, rv zd219, iv 2, rv b232, iv 1]) rfl (XS.iload X382.here hx rfl (hb hby at_213) rfl  (XS.iconst X382.here hx rfl (hb hby at_215) (XS.icmpYes X382.here hx rfl (pc0 := 216) (pc' := 247) rfl (hb hby at_216) rfl (flt (by decide : ¬ ((1 : Int32) < (1 : Int32)))).2.2.2 (by decide) (by decide) (XS.iload X382.here hx rfl (hb hby at_247) rfl  k)))))))) ?_
      refine own_s T382 (mkF m 283 #[iv p1, iv p2, iv p3, iv p4, iv p5, iv 1, iv 0, rv zd219, iv 2, rv b232, iv 1] [(.int 1)]) (fun _ k => XS.iconst X382.here hx rfl (hb hby at_249) (XS.icmpYes X382.here hx rfl (pc0 := 250) (pc' := 281) rfl (hb hby at_250) rfl (flt (by decide : ¬ ((2 : Int32) < (1 : Int32)))).2.2.2 (by decide) (by decide) (XS.iload X382.here hx rfl (hb hby at_281) rfl  k))) ?_
      exact own_finZ X382 hx (t := .boolean) hret (by simp) (z' := (1 : Int32)) rfl (hb hby at_283) (own_endW (Qv := (own_Q0 Z p1 p2 p3 p4 p5 gC oN oA kA oD h0 n0)) X382 hS (own_some hret) hlk (by decide) (by decide) rfl hk382 (fun vm' hv' => ⟨rfl, N382⟩))
    · refine own_s s₁ (mkF m 24 #[iv p1, iv p2, iv p3, iv p4, iv p5, iv 1, iv 1, u_, u_, u_, u_] [(.int 1), (.int 1)]) (fun _ k => XS.ifNo X0.here hx rfl (hb hby at_10) rfl ((if0 _ _).trans (feq c10).1) (XS.iconst X0.here hx rfl (hb hby at_13) (XS.goto X0.here hx rfl (pc0 := 14) (pc' := 18) rfl (hb hby at_14) (by decide) (by decide) (XS.istore X0.here hx rfl (hb hby at_18) rfl (l' := #[iv p1, iv p2, iv p3, iv p4, iv p5, iv 1, iv 1, u_, u_, u_, u_]) rfl (XS.iload X0.here hx rfl (hb hby at_20) rfl  (XS.iload X0.here hx rfl (hb hby at_22) rfl  k)))))) ?_
      obtain ⟨v401, T401, L401, X401, hQ401, st401⟩ := own_callS X0 hx hZ (y := own_y8) (W := 0) hown (own_h hw 0 rfl) (own_h hw 1 rfl) (own_h hw 2 rfl) (own_h hw 3 rfl) (by decide) (own_rmna1_1 l Z a0 hw []  h0 n0 Z0) (by decide) (by decide) (g := (mkF m 24 #[iv p1, iv p2, iv p3, iv p4, iv p5, iv 1, iv 1, u_, u_, u_, u_] [(.int 1), (.int 1)])) rfl (by rw [hml]; rfl) (argsL := [(.int 1), (.int 1)]) (rest := []) rfl (lenOf own_pd11 rfl) rfl (by show 2 * 0 + _ ≤ _; exact Nat.le_of_eq rfl) (hb hby at_24) e0 (by decide) (by decide)
      obtain ⟨zd401, zkd401, rfl, Nq401, Kq401, g_zd401, sq_zd401, q401_0, q401_1⟩ := hQ401
      have N401 := Fr.app N0 Nq401
      have f402 := own_staKeep pr0 Kq401
      have f403 := own_staKeep pr1 Kq401
      have f404 := own_staKeep pr2 Kq401
      have f405 := pr3.keep Kq401 nin0
      have f406 := own_staKeep pr4 Kq401
      have Z401 := Nat.le_trans Z0 Kq401.1
      have hk401 := Nat.le_trans hk0 Kq401.1
      refine own_s T401 (mkF m 27 #[iv p1, iv p2, iv p3, iv p4, iv p5, iv 1, iv 1, u_, u_, u_, u_] [(.ref zd401)]) st401 ?_
      refine own_s T401 (mkF m 43 #[iv p1, iv p2, iv p3, iv p4, iv p5, iv 1, iv 1, rv zd401, u_, u_, u_] [(.int 4)]) (fun _ k => XS.astore X401.here hx rfl (hb hby at_27) rfl rfl (l' := #[iv p1, iv p2, iv p3, iv p4, iv p5, iv 1, iv 1, rv zd401, u_, u_, u_]) rfl (XS.iload X401.here hx rfl (hb hby at_29) rfl  (XS.ifNo X401.here hx rfl (hb hby at_31) rfl ((if0 _ _).trans (feq (by decide : ¬ ((1 : Int32) = (0 : Int32)))).1) (XS.iload X401.here hx rfl (hb hby at_34) rfl  (XS.ifNo X401.here hx rfl (hb hby at_36) rfl ((if0 _ _).trans (tlt (by decide : ((0 : Int32) < (1 : Int32)))).2.2.2) (XS.iconst X401.here hx rfl (hb hby at_39) (XS.iload X401.here hx rfl (hb hby at_40) rfl  (XS.imul X401.here hx rfl (hb hby at_42) rfl k)))))))) ?_
      refine own_s T401 (mkF m 56 #[iv p1, iv p2, iv p3, iv p4, iv p5, iv 1, iv 1, rv zd401, iv 5, u_, u_] [(.ref zd401)]) (fun _ k => XS.iconst X401.here hx rfl (hb hby at_43) (XS.iadd X401.here hx rfl (hb hby at_44) rfl (XS.goto X401.here hx rfl (pc0 := 45) (pc' := 52) rfl (hb hby at_45) (by decide) (by decide) (XS.istore X401.here hx rfl (hb hby at_52) rfl (l' := #[iv p1, iv p2, iv p3, iv p4, iv p5, iv 1, iv 1, rv zd401, iv 5, u_, u_]) rfl (XS.aload X401.here hx rfl (hb hby at_54) rfl rfl k))))) ?_
      obtain ⟨cl407, Ar407, q407, S407, Nn407, H407, G407⟩ := id q401_0
      refine own_s T401 (mkF m 74 #[iv p1, iv p2, iv p3, iv p4, iv p5, iv 1, iv 1, rv zd401, iv 5, u_, u_] [(.int 1), (.int 0), (.ref zd401)]) (fun _ k => own_len X401 hx hZ rfl Ar407 S407 Nn407 (g := (mkF m 56 #[iv p1, iv p2, iv p3, iv p4, iv p5, iv 1, iv 1, rv zd401, iv 5, u_, u_] [(.ref zd401)])) rfl rfl (hb hby at_56) (XS.iload X401.here hx rfl (hb hby at_57) rfl  (XS.icmpYes X401.here hx rfl (pc0 := 59) (pc' := 64) rfl (hb hby at_59) rfl (teq (by decide : ((5 : Int32) = (5 : Int32)))).1 (by decide) (by decide) (XS.iload X401.here hx rfl (hb hby at_64) rfl  (XS.ifNo X401.here hx rfl (hb hby at_66) rfl ((if0 _ _).trans (tlt (by decide : ((0 : Int32) < (1 : Int32)))).2.2.2) (XS.aload X401.here hx rfl (hb hby at_69) rfl rfl (XS.iconst X401.here hx rfl (hb hby at_71) (XS.iload X401.here hx rfl (hb hby at_72) rfl  k)))))))) ?_
      refine own_s T401 (mkF m 79 #[iv p1, iv p2, iv p3, iv p4, iv p5, iv 1, iv 1, rv zd401, iv 5, u_, u_] [(.int p5), (.int p4), (.int p3), (.int p2), (.int 1), (.int 0), (.ref zd401)]) (fun _ k => XS.iloadN X401.here hx rfl (hb hby at_74) rfl  (XS.iloadN X401.here hx rfl (hb hby at_75) rfl  (XS.iloadN X401.here hx rfl (hb hby at_76) rfl  (XS.iload X401.here hx rfl (hb hby at_77) rfl  k)))) ?_
      obtain ⟨v408, T408, L408, X408, hQ408, st408⟩ := own_callS X401 hx hZ (y := own_y10) (W := 0) hown (own_h hw 78 rfl) (own_h hw 79 rfl) (own_h hw 80 rfl) (own_h hw 81 rfl) (by decide) (own_rmput0_1 l Z a0 hw [] zd401 p2 p3 p4 p5 zkd401 (5 : Int32) .null .null .null .null .null .null .null .null .null .null .null .null .null gC T401.heap n0 Z401 g_zd401 q401_0 q401_1 f402 hG (by decide) (by decide) (by decide) (by decide) (by decide)) (by decide) (by decide) (g := (mkF m 79 #[iv p1, iv p2, iv p3, iv p4, iv p5, iv 1, iv 1, rv zd401, iv 5, u_, u_] [(.int p5), (.int p4), (.int p3), (.int p2), (.int 1), (.int 0), (.ref zd401)])) rfl (by rw [hml]; rfl) (argsL := [(.ref zd401), (.int 0), (.int 1), (.int p2), (.int p3), (.int p4), (.int p5)]) (rest := []) rfl (lenOf own_pd14 rfl) rfl (by show 2 * 0 + _ ≤ _; exact Nat.le_of_eq rfl) (hb hby at_79) rfl (by decide) (by decide)
      obtain ⟨zsn408, zbn408, zkn408, zsv408, zbv408, zkv408, zss408, zbs408, zks408, zsl408, zbl408, zkl408, rfl, Nq408, Kq408, g_zsn408, sq_zsn408, g_zbn408, sq_zbn408, g_zsv408, sq_zsv408, g_zbv408, sq_zbv408, g_zss408, sq_zss408, g_zbs408, sq_zbs408, g_zsl408, sq_zsl408, g_zbl408, sq_zbl408, q408_0, q408_1, q408_2, q408_3, q408_4, q408_5, q408_6, q408_7, q408_8, q408_9, q408_10, q408_11, q408_12, q408_13, q408_14, q408_15, q408_16⟩ := hQ408
      have N408 := Fr.app N401 Nq408
      have f409 := own_staKeepW f402 Kq408 (allS q401_0.nostat all0)
      have f410 := own_staKeepW f403 Kq408 (allS q401_0.nostat all0)
      have f411 := own_staKeepW f404 Kq408 (allS q401_0.nostat all0)
      have f412 := f405.keep Kq408 (ninS (own_nl pr3.lt sq_zd401) nin0)
      have f413 := own_staKeepW f406 Kq408 (allS q401_0.nostat all0)
      have Z408 := Nat.le_trans Z401 Kq408.1
      have hk408 := Nat.le_trans hk401 Kq408.1
      refine own_s T408 (mkF m 82 #[iv p1, iv p2, iv p3, iv p4, iv p5, iv 1, iv 1, rv zd401, iv 5, u_, u_] []) st408 ?_
      refine own_s T408 (mkF m 123 #[iv p1, iv p2, iv p3, iv p4, iv p5, iv 1, iv 1, rv zd401, iv 5, u_, u_] [(.int 2), (.int 5)]) (fun _ k => XS.iload X408.here hx rfl (hb hby at_82) rfl  (XS.iconst X408.here hx rfl (hb hby at_84) (XS.icmpYes X408.here hx rfl (pc0 := 85) (pc' := 101) rfl (hb hby at_85) rfl (flt (by decide : ¬ ((1 : Int32) < (1 : Int32)))).2.2.2 (by decide) (by decide) (XS.iload X408.here hx rfl (hb hby at_101) rfl  (XS.iconst X408.here hx rfl (hb hby at_103) (XS.icmpYes X408.here hx rfl (pc0 := 104) (pc' := 120) rfl (hb hby at_104) rfl (flt (by decide : ¬ ((2 : Int32) < (1 : Int32)))).2.2.2 (by decide) (by decide) (XS.iload X408.here hx rfl (hb hby at_120) rfl  (XS.iconst X408.here hx rfl (hb hby at_122) k)))))))) ?_
      refine own_s T408 (mkF m 134 #[iv p1, iv p2, iv p3, iv p4, iv p5, iv 1, iv 1, rv zd401, iv 5, u_, u_] [(.int 4), (.ref zd401)]) (fun _ k => iremM X408 hx rfl (hb hby at_123) rfl (by decide) (XS.iconst X408.here hx rfl (hb hby at_124) (XS.icmpNo X408.here hx rfl (hb hby at_125) rfl (teq (by decide)).2 (XS.aload X408.here hx rfl (hb hby at_128) rfl rfl (XS.iload X408.here hx rfl (hb hby at_130) rfl  (XS.iconst X408.here hx rfl (hb hby at_132) (XS.isub X408.here hx rfl (hb hby at_133) rfl k))))))) ?_
      obtain ⟨cl414, Ar414, q414, S414, Nn414, H414, G414⟩ := id q408_0
      have hin414 : ¬ ((4 : Int32) < 0 ∨ cl414.slots.size ≤ ((4 : Int32)).toNatClampNeg) := (inb_of S414 ⟨by decide, by decide⟩)
      refine own_s T408 (mkF m 140 #[iv p1, iv p2, iv p3, iv p4, iv p5, iv 1, iv 1, rv zd401, iv 5, u_, u_] []) (fun _ k => X408.aaload hx (j := (4 : Int32)) (v := .null) (own_at rfl Ar414.1) (State.isArrayOf_alike hZ.alike Ar414.2.1) rfl Ar414.2.2 hin414 (Has.at H414 hin414 rfl) (g := (mkF m 134 #[iv p1, iv p2, iv p3, iv p4, iv p5, iv 1, iv 1, rv zd401, iv 5, u_, u_] [(.int 4), (.ref zd401)])) rfl rfl (hb hby at_134) _ (XS.ifnullYes X408.here hx rfl (pc0 := 135) (pc' := 140) rfl (hb hby at_135) rfl (by decide) (by decide) k)) ?_
      obtain ⟨T415, h415, X415, e415, E415, A415, D415, -, st415⟩ := newO X408 hx hZ hown (own_h hw 6 rfl) (own_h hw 7 rfl) (own_h hw 2 rfl) rfl (g := (mkF m 140 #[iv p1, iv p2, iv p3, iv p4, iv p5, iv 1, iv 1, rv zd401, iv 5, u_, u_] [])) rfl (hb hby at_140) (by decide) (by decide)
      obtain ⟨b415, g415⟩ : ∃ z, z = T408.heap.size := ⟨_, rfl⟩
      have g_b415 : n0 ≤ b415 := Nat.le_trans Z408 (Nat.le_of_eq g415.symm)
      rw [← g415] at A415 D415 st415
      have f416 := Sta.ext E415 f409
      have f417 := Sta.ext E415 f410
      have f418 := Sta.ext E415 f411
      have f419 := f412.ext E415
      have f420 := Sta.ext E415 f413
      have f421 := q408_0.ext E415
      have f422 := Exa.ext E415 q408_1
      have f423 := Fld.ext E415 q408_2
      have f424 := Fld.ext E415 q408_3
      have f425 := q408_4.ext E415
      have f426 := Exa.ext E415 q408_5
      have f427 := Fld.ext E415 q408_6
      have f428 := Fld.ext E415 q408_7
      have f429 := q408_8.ext E415
      have f430 := Exa.ext E415 q408_9
      have f431 := Fld.ext E415 q408_10
      have f432 := Fld.ext E415 q408_11
      have f433 := q408_12.ext E415
      have f434 := Exa.ext E415 q408_13
      have f435 := Fld.ext E415 q408_14
      have f436 := Fld.ext E415 q408_15
      have f437 := q408_16.ext E415
      have Z415 := Nat.le_trans Z408 E415.1
      have hk415 := Nat.le_trans hk408 E415.1
      have f438 : Fld Z h415 b415 "com/example/tagwright/tagwright/XmlElement" "children" "Ljava/util/List;" .null := D415 (Or.inl (own_h hw 49 rfl)) (ty := (.object "java/util/List")) (by decide)
      have f439 : Fld Z h415 b415 "com/example/tagwright/tagwright/XmlElement" "namespace" "Ljava/lang/String;" .null := D415 (Or.inr (own_h hw 51 rfl)) (ty := (.object "java/lang/String")) (by decide)
      have f440 : Fld Z h415 b415 "com/example/tagwright/tagwright/XmlElement" "localName" "Ljava/lang/String;" .null := D415 (Or.inr (own_h hw 53 rfl)) (ty := (.object "java/lang/String")) (by decide)
      have f441 : Fld Z h415 b415 "com/example/tagwright/tagwright/XmlElement" "tagName" "Ljava/lang/String;" .null := D415 (Or.inr (own_h hw 55 rfl)) (ty := (.object "java/lang/String")) (by decide)
      have f442 : Fld Z h415 b415 "com/example/tagwright/tagwright/XmlElement" "declarations" "Ljava/util/List;" .null := D415 (Or.inr (own_h hw 57 rfl)) (ty := (.object "java/util/List")) (by decide)
      have f443 : Fld Z h415 b415 "com/example/tagwright/tagwright/XmlElement" "attributes" "[Ljava/lang/String;" .null := D415 (Or.inr (own_h hw 61 rfl)) (ty := (.array (.object "java/lang/String"))) (by decide)
      have f444 : Fld Z h415 b415 "com/example/tagwright/tagwright/XmlElement" "stride" "B" (.int 0) := D415 (Or.inr (own_h hw 66 rfl)) (ty := .byte) (by decide)
      have f445 : Fld Z h415 b415 "com/example/tagwright/tagwright/XmlElement" "location" "Lcom/example/tagwright/tagwright/Location;" .null := D415 (Or.inr (own_h hw 68 rfl)) (ty := (.object "com/example/tagwright/tagwright/Location")) (by decide)
      have f446 : Fld Z h415 b415 "com/example/tagwright/tagwright/XmlElement" "parent" "Lcom/example/tagwright/tagwright/XmlElement;" .null := D415 (Or.inr (own_h hw 70 rfl)) (ty := (.object "com/example/tagwright/tagwright/XmlElement")) (by decide)
      have f447 : Fld Z h415 b415 "com/example/tagwright/tagwright/XmlElement" "index" "I" (.int 0) := D415 (Or.inr (own_h hw 72 rfl)) (ty := .int) (by decide)
      refine own_s T415 (mkF m 143 #[iv p1, iv p2, iv p3, iv p4, iv p5, iv 1, iv 1, rv zd401, iv 5, u_, u_] [(.ref b415)]) st415 ?_
      refine own_s T415 (mkF m 145 #[iv p1, iv p2, iv p3, iv p4, iv p5, iv 1, iv 1, rv zd401, iv 5, u_, u_] [.null, (.ref b415), (.ref b415)]) (fun _ k => XS.dup X415.here hx rfl (hb hby at_143) rfl rfl (XS.aconstNull X415.here hx rfl (hb hby at_144) k)) ?_
      obtain ⟨sl448, T448, h448, kk448, X448, e448, E448, hS, hk448, hZ, hown, st448⟩ := ldcS (s := s) X415 hx hZ hown (own_h hw 8 rfl) (own_wS hw) e415 hS hk415 (g := (mkF m 145 #[iv p1, iv p2, iv p3, iv p4, iv p5, iv 1, iv 1, rv zd401, iv 5, u_, u_] [.null, (.ref b415), (.ref b415)])) rfl (hb hby at_145) (n := 4) (by decide) (by decide) (by decide) (by decide)
      have f449 := Sta.ext E448 f416
      have f450 := Sta.ext E448 f417
      have f451 := Sta.ext E448 f418
      have f452 := f419.ext E448
      have f453 := Sta.ext E448 f420
      have f454 := f421.ext E448
      have f455 := Exa.ext E448 f422
      have f456 := Fld.ext E448 f423
      have f457 := Fld.ext E448 f424
      have f458 := f425.ext E448
      have f459 := Exa.ext E448 f426
      have f460 := Fld.ext E448 f427
      have f461 := Fld.ext E448 f428
      have f462 := f429.ext E448
      have f463 := Exa.ext E448 f430
      have f464 := Fld.ext E448 f431
      have f465 := Fld.ext E448 f432
      have f466 := f433.ext E448
      have f467 := Exa.ext E448 f434
      have f468 := Fld.ext E448 f435
      have f469 := Fld.ext E448 f436
      have f470 := f437.ext E448
      have f471 := Exa.ext E448 A415
      have f472 := Fld.ext E448 f438
      have f473 := Fld.ext E448 f439
      have f474 := Fld.ext E448 f440
      have f475 := Fld.ext E448 f441
      have f476 := Fld.ext E448 f442
      have f477 := Fld.ext E448 f443
      have f478 := Fld.ext E448 f444
      have f479 := Fld.ext E448 f445
      have f480 := Fld.ext E448 f446
      have f481 := Fld.ext E448 f447
      have Z448 := Nat.le_trans Z415 E448.1
      refine own_s T448 (mkF m 147 #[iv p1, iv p2, iv p3, iv p4, iv p5, iv 1, iv 1, rv zd401, iv 5, u_, u_] [(.ref sl448), .null, (.ref b415), (.ref b415)]) st448 ?_
      obtain ⟨sl482, T482, h482, kk482, X482, e482, E482, hS, hk482, hZ, hown, st482⟩ := ldcS (s := s) X448 hx hZ hown (own_h hw 8 rfl) (own_wS hw) e448 hS hk448 (g := (mkF m 147 #[iv p1, iv p2, iv p3, iv p4, iv p5, iv 1, iv 1, rv zd401, iv 5, u_, u_] [(.ref sl448), .null, (.ref b415), (.ref b415)])) rfl (hb hby at_147) (n := 4) (by decide) (by decide) (by decide) (by decide)
      have f483 := Sta.ext E482 f449
      have f484 := Sta.ext E482 f450
      have f485 := Sta.ext E482 f451
      have f486 := f452.ext E482
      have f487 := Sta.ext E482 f453
      have f488 := f454.ext E482
      have f489 := Exa.ext E482 f455
      have f490 := Fld.ext E482 f456
      have f491 := Fld.ext E482 f457
      have f492 := f458.ext E482
      have f493 := Exa.ext E482 f459
      have f494 := Fld.ext E482 f460
      have f495 := Fld.ext E482 f461
      have f496 := f462.ext E482
      have f497 := Exa.ext E482 f463
      have f498 := Fld.ext E482 f464
      have f499 := Fld.ext E482 f465
      have f500 := f466.ext E482
      have f501 := Exa.ext E482 f467
      have f502 := Fld.ext E482 f468
      have f503 := Fld.ext E482 f469
      have f504 := f470.ext E482
      have f505 := Exa.ext E482 f471
      have f506 := Fld.ext E482 f472
      have f507 := Fld.ext E482 f473
      have f508 := Fld.ext E482 f474
      have f509 := Fld.ext E482 f475
      have f510 := Fld.ext E482 f476
      have f511 := Fld.ext E482 f477
      have f512 := Fld.ext E482 f478
      have f513 := Fld.ext E482 f479
      have f514 := Fld.ext E482 f480
      have f515 := Fld.ext E482 f481
      have Z482 := Nat.le_trans Z448 E482.1
      refine own_s T482 (mkF m 149 #[iv p1, iv p2, iv p3, iv p4, iv p5, iv 1, iv 1, rv zd401, iv 5, u_, u_] [(.ref sl482), (.ref sl448), .null, (.ref b415), (.ref b415)]) st482 ?_
      obtain ⟨T516, h516, X516, e516, E516, A516, D516, -, st516⟩ := newO X482 hx hZ hown (own_h hw 16 rfl) (own_h hw 17 rfl) (own_h hw 18 rfl) e482 (g := (mkF m 149 #[iv p1, iv p2, iv p3, iv p4, iv p5, iv 1, iv 1, rv zd401, iv 5, u_, u_] [(.ref sl482), (.ref sl448), .null, (.ref b415), (.ref b415)])) rfl (hb hby at_149) (by decide) (by decide)
      obtain ⟨b516, g516⟩ : ∃ z, z = h482.size := ⟨_, rfl⟩
      have g_b516 : n0 ≤ b516 := Nat.le_trans Z482 (Nat.le_of_eq g516.symm)
      rw [← g516] at A516 D516 st516
      have f517 := Sta.ext E516 f483
      have f518 := Sta.ext E516 f484
      have f519 := Sta.ext E516 f485
      have f520 := f486.ext E516
      have f521 := Sta.ext E516 f487
      have f522 := f488.ext E516
      have f523 := Exa.ext E516 f489
      have f524 := Fld.ext E516 f490
      have f525 := Fld.ext E516 f491
      have f526 := f492.ext E516
      have f527 := Exa.ext E516 f493
      have f528 := Fld.ext E516 f494
      have f529 := Fld.ext E516 f495
      have f530 := f496.ext E516
      have f531 := Exa.ext E516 f497
      have f532 := Fld.ext E516 f498
      have f533 := Fld.ext E516 f499
      have f534 := f500.ext E516
      have f535 := Exa.ext E516 f501
      have f536 := Fld.ext E516 f502
      have f537 := Fld.ext E516 f503
      have f538 := f504.ext E516
      have f539 := Exa.ext E516 f505
      have f540 := Fld.ext E516 f506
      have f541 := Fld.ext E516 f507
      have f542 := Fld.ext E516 f508
      have f543 := Fld.ext E516 f509
      have f544 := Fld.ext E516 f510
      have f545 := Fld.ext E516 f511
      have f546 := Fld.ext E516 f512
      have f547 := Fld.ext E516 f513
      have f548 := Fld.ext E516 f514
      have f549 := Fld.ext E516 f515
      have Z516 := Nat.le_trans Z482 E516.1
      have hk516 := Nat.le_trans hk482 E516.1
      have f550 : Fld Z h516 b516 "java/util/AbstractList" "modCount" "I" (.int 0) := D516 (Or.inl (own_h hw 38 rfl)) (ty := .int) (by decide)
      have f551 : Fld Z h516 b516 "java/util/ArrayList" "elementData" "[Ljava/lang/Object;" .null := D516 (Or.inl (own_h hw 41 rfl)) (ty := (.array (.object "java/lang/Object"))) (by decide)
      refine own_s T516 (mkF m 152 #[iv p1, iv p2, iv p3, iv p4, iv p5, iv 1, iv 1, rv zd401, iv 5, u_, u_] [(.ref b516), (.ref sl482), (.ref sl448), .null, (.ref b415), (.ref b415)]) st516 ?_
      refine own_s T516 (mkF m 153 #[iv p1, iv p2, iv p3, iv p4, iv p5, iv 1, iv 1, rv zd401, iv 5, u_, u_] [(.ref b516), (.ref b516), (.ref sl482), (.ref sl448), .null, (.ref b415), (.ref b415)]) (fun _ k => XS.dup X516.here hx rfl (hb hby at_152) rfl rfl k) ?_
      obtain ⟨v552, T552, L552, X552, hQ552, st552⟩ := own_callI X516 hx hZ (y := own_y20) (W := 6) (a := b516) rfl hown (own_h hw 19 rfl) (own_h hw 20 rfl) (own_h hw 18 rfl) (own_h hw 21 rfl) (by decide) (own_rmal l Z a0 hw [] b516 oD h516 n0 Z516 g_b516 f521 A516 f550 f551) (by decide) (by decide) (g := (mkF m 153 #[iv p1, iv p2, iv p3, iv p4, iv p5, iv 1, iv 1, rv zd401, iv 5, u_, u_] [(.ref b516), (.ref b516), (.ref sl482), (.ref sl448), .null, (.ref b415), (.ref b415)])) rfl (by rw [hml]; rfl) (argsL := []) (rest := [(.ref b516), (.ref sl482), (.ref sl448), .null, (.ref b415), (.ref b415)]) rfl (lenOf own_pd10 rfl) rfl (by show 2 * 0 + _ ≤ _; exact Nat.le_of_eq rfl) (hb hby at_153) e516 (by decide) (by decide)
      obtain ⟨rfl, Nq552, Kq552, q552_0⟩ := hQ552
      have N552 := Fr.app N408 Nq552
      have f553 := own_staKeepW f517 Kq552 (allS A516.nostat all0)
      have f554 := own_staKeepW f518 Kq552 (allS A516.nostat all0)
      have f555 := own_staKeepW f519 Kq552 (allS A516.nostat all0)
      have f556 := f520.keep Kq552 (ninS (own_nf f486.lt g516) nin0)
      have f557 := own_staKeepW f521 Kq552 (allS A516.nostat all0)
      have f558 := f522.keep Kq552 (ninS (own_nf f488.lt g516) nin0)
      have f559 := f523.keep Kq552
      have f560 := f524.keep Kq552 (ninS (own_nf f489.lt g516) nin0)
      have f561 := f525.keep Kq552 (ninS (own_nf f489.lt g516) nin0)
      have f562 := f526.keep Kq552 (ninS (own_nf f492.lt g516) nin0)
      have f563 := f527.keep Kq552
      have f564 := f528.keep Kq552 (ninS (own_nf f493.lt g516) nin0)
      have f565 := f529.keep Kq552 (ninS (own_nf f493.lt g516) nin0)
      have f566 := f530.keep Kq552 (ninS (own_nf f496.lt g516) nin0)
      have f567 := f531.keep Kq552
      have f568 := f532.keep Kq552 (ninS (own_nf f497.lt g516) nin0)
      have f569 := f533.keep Kq552 (ninS (own_nf f497.lt g516) nin0)
      have f570 := f534.keep Kq552 (ninS (own_nf f500.lt g516) nin0)
      have f571 := f535.keep Kq552
      have f572 := f536.keep Kq552 (ninS (own_nf f501.lt g516) nin0)
      have f573 := f537.keep Kq552 (ninS (own_nf f501.lt g516) nin0)
      have f574 := f538.keep Kq552 (ninS (own_nf f504.lt g516) nin0)
      have f575 := f539.keep Kq552
      have f576 := f540.keep Kq552 (ninS (own_nf f505.lt g516) nin0)
      have f577 := f541.keep Kq552 (ninS (own_nf f505.lt g516) nin0)
      have f578 := f542.keep Kq552 (ninS (own_nf f505.lt g516) nin0)
      have f579 := f543.keep Kq552 (ninS (own_nf f505.lt g516) nin0)
      have f580 := f544.keep Kq552 (ninS (own_nf f505.lt g516) nin0)
      have f581 := f545.keep Kq552 (ninS (own_nf f505.lt g516) nin0)
      have f582 := f546.keep Kq552 (ninS (own_nf f505.lt g516) nin0)
      have f583 := f547.keep Kq552 (ninS (own_nf f505.lt g516) nin0)
      have f584 := f548.keep Kq552 (ninS (own_nf f505.lt g516) nin0)
      have f585 := f549.keep Kq552 (ninS (own_nf f505.lt g516) nin0)
      have f586 := A516.keep Kq552
      have Z552 := Nat.le_trans Z516 Kq552.1
      have hk552 := Nat.le_trans hk516 Kq552.1
      refine own_s T552 (mkF m 156 #[iv p1, iv p2, iv p3, iv p4, iv p5, iv 1, iv 1, rv zd401, iv 5, u_, u_] [(.ref b516), (.ref sl482), (.ref sl448), .null, (.ref b415), (.ref b415)]) st552 ?_
      refine own_s T552 (mkF m 160 #[iv p1, iv p2, iv p3, iv p4, iv p5, iv 1, iv 1, rv zd401, iv 5, u_, u_] [.null, .null, (.ref zd401), (.ref b516), (.ref sl482), (.ref sl448), .null, (.ref b415), (.ref b415)]) (fun _ k => XS.aload X552.here hx rfl (hb hby at_156) rfl rfl (XS.aconstNull X552.here hx rfl (hb hby at_158) (XS.aconstNull X552.here hx rfl (hb hby at_159) k))) ?_
      obtain ⟨v587, T587, L587, X587, hQ587, st587⟩ := own_callI X552 hx hZ (y := own_y11) (W := 1) (a := b415) rfl hown (own_h hw 42 rfl) (own_h hw 43 rfl) (own_h hw 2 rfl) (own_h hw 44 rfl) (by decide) (own_rmxi_o l Z a0 hw [] b415 sl448 sl482 b516 zd401 oN oA zkd401 [(.ref zsn408), (.ref zsv408), (.ref zss408), (.ref zsl408), .null, .null, .null, .null, .null, .null, .null, .null, .null] (5 : Int32) T552.heap n0 Z552 g_b415 f575 f576 f577 f578 f579 f580 f581 f582 f583 f584 f585 f554 f555 f558 (Ne.symm (own_nf q408_0.lt g415)) (by decide) (by decide)) (by decide) (by decide) (g := (mkF m 160 #[iv p1, iv p2, iv p3, iv p4, iv p5, iv 1, iv 1, rv zd401, iv 5, u_, u_] [.null, .null, (.ref zd401), (.ref b516), (.ref sl482), (.ref sl448), .null, (.ref b415), (.ref b415)])) rfl (by rw [hml]; rfl) (argsL := [.null, (.ref sl448), (.ref sl482), (.ref b516), (.ref zd401), .null, .null]) (rest := [(.ref b415)]) rfl (lenOf own_pd12 rfl) rfl (by show 2 * 0 + _ ≤ _; exact Nat.le_of_eq rfl) (hb hby at_160) rfl (by decide) (by decide)
      obtain ⟨rfl, Nq587, Kq587, q587_0, q587_1, q587_2⟩ := hQ587
      have N587 := Fr.app N552 Nq587
      have f588 := own_staKeepW f553 Kq587 (allS f575.nostat all0)
      have f589 := own_staKeepW f554 Kq587 (allS f575.nostat all0)
      have f590 := own_staKeepW f555 Kq587 (allS f575.nostat all0)
      have f591 := f556.keep Kq587 (ninS (own_nf f412.lt g415) nin0)
      have f592 := own_staKeepW f557 Kq587 (allS f575.nostat all0)
      have f593 := f558.keep Kq587 (ninS (own_nf q408_0.lt g415) nin0)
      have f594 := f559.keep Kq587
      have f595 := f560.keep Kq587 (ninS (own_nf q408_1.lt g415) nin0)
      have f596 := f561.keep Kq587 (ninS (own_nf q408_1.lt g415) nin0)
      have f597 := f562.keep Kq587 (ninS (own_nf q408_4.lt g415) nin0)
      have f598 := f563.keep Kq587
      have f599 := f564.keep Kq587 (ninS (own_nf q408_5.lt g415) nin0)
      have f600 := f565.keep Kq587 (ninS (own_nf q408_5.lt g415) nin0)
      have f601 := f566.keep Kq587 (ninS (own_nf q408_8.lt g415) nin0)
      have f602 := f567.keep Kq587
      have f603 := f568.keep Kq587 (ninS (own_nf q408_9.lt g415) nin0)
      have f604 := f569.keep Kq587 (ninS (own_nf q408_9.lt g415) nin0)
      have f605 := f570.keep Kq587 (ninS (own_nf q408_12.lt g415) nin0)
      have f606 := f571.keep Kq587
      have f607 := f572.keep Kq587 (ninS (own_nf q408_13.lt g415) nin0)
      have f608 := f573.keep Kq587 (ninS (own_nf q408_13.lt g415) nin0)
      have f609 := f574.keep Kq587 (ninS (own_nf q408_16.lt g415) nin0)
      have f610 := f575.keep Kq587
      have f611 := q552_0.keep Kq587
      have Z587 := Nat.le_trans Z552 Kq587.1
      have hk587 := Nat.le_trans hk552 Kq587.1
      refine own_s T587 (mkF m 163 #[iv p1, iv p2, iv p3, iv p4, iv p5, iv 1, iv 1, rv zd401, iv 5, u_, u_] [(.ref b415)]) st587 ?_
      refine own_s T587 (mkF m 167 #[iv p1, iv p2, iv p3, iv p4, iv p5, iv 1, iv 1, rv zd401, iv 5, rv b415, u_] [(.ref b415)]) (fun _ k => XS.astore X587.here hx rfl (hb hby at_163) rfl rfl (l' := #[iv p1, iv p2, iv p3, iv p4, iv p5, iv 1, iv 1, rv zd401, iv 5, rv b415, u_]) rfl (XS.aload X587.here hx rfl (hb hby at_165) rfl rfl k)) ?_
      obtain ⟨v612, T612, L612, X612, hQ612, st612⟩ := own_callV X587 hx hZ (y := own_y12) (z := own_y12) (W := 0) (a := b415) hown (own_h hw 73 rfl) (own_h hw 74 rfl) (notFace_of_selects (args := #[]) (mvT hZ (own_h hw 76 rfl))) (own_h hw 76 rfl) (own_h hw 75 rfl) (own_h hw 2 rfl) (own_h hw 77 rfl) (by decide) (own_rmcnt4 l Z a0 hw [] b415 zd401 zkd401 [(.ref zsn408), (.ref zsv408), (.ref zss408), (.ref zsl408), .null, .null, .null, .null, .null, .null, .null, .null, .null] (5 : Int32) T587.heap n0 Z587 q587_1 q587_2 f593) (by decide) (by decide) q587_0 (g := (mkF m 167 #[iv p1, iv p2, iv p3, iv p4, iv p5, iv 1, iv 1, rv zd401, iv 5, rv b415, u_] [(.ref b415)])) rfl (by rw [hml]; rfl) (argsL := []) (rest := []) rfl (lenOf own_pd13 rfl) rfl (by show 2 * 0 + _ ≤ _; exact Nat.le_of_eq rfl) (hb hby at_167) rfl (by decide) (by decide)
      obtain ⟨rfl, Nq612, e612⟩ := hQ612
      have N612 := Fr.app N587 Nq612
      refine own_s T612 (mkF m 170 #[iv p1, iv p2, iv p3, iv p4, iv p5, iv 1, iv 1, rv zd401, iv 5, rv b415, u_] [(.int ((5 : Int32) / (4 : Int32)))]) st612 ?_
      refine own_s T612 (mkF m 190 #[iv p1, iv p2, iv p3, iv p4, iv p5, iv 1, iv 1, rv zd401, iv 5, rv b415, iv 1] []) (fun _ k => XS.iload X612.here hx rfl (hb hby at_170) rfl  (XS.icmpYes X612.here hx rfl (pc0 := 172) (pc' := 177) rfl (hb hby at_172) rfl (teq (by decide)).1 (by decide) (by decide) (XS.iconst X612.here hx rfl (hb hby at_177) (XS.istore X612.here hx rfl (hb hby at_178) rfl (l' := #[iv p1, iv p2, iv p3, iv p4, iv p5, iv 1, iv 1, rv zd401, iv 5, rv b415, iv 1]) rfl (XS.iload X612.here hx rfl (hb hby at_180) rfl  (XS.ifNo X612.here hx rfl (hb hby at_182) rfl ((if0 _ _).trans (tlt (by decide : ((0 : Int32) < (1 : Int32)))).2.2.2) (XS.iload X612.here hx rfl (hb hby at_185) rfl  (XS.ifNo X612.here hx rfl (hb hby at_187) rfl ((if0 _ _).trans (feq (by decide : ¬ ((1 : Int32) = (0 : Int32)))).1) k)))))))) ?_
      refine own_s T612 (mkF m 200 #[iv p1, iv p2, iv p3, iv p4, iv p5, iv 1, iv 1, rv zd401, iv 5, rv b415, iv 1] [(.int p5), (.int p4), (.int p3), (.int p2), (.int 1), (.int 0), (.ref b415)]) (fun _ k => XS.aload X612.here hx rfl (hb hby at_190) rfl rfl (XS.iconst X612.here hx rfl (hb hby at_192) (XS.iload X612.here hx rfl (hb hby at_193) rfl  (XS.iloadN X612.here hx rfl (hb hby at_195) rfl  (XS.iloadN X612.here hx rfl (hb hby at_196) rfl  (XS.iloadN X612.here hx rfl (hb hby at_197) rfl  (XS.iload X612.here hx rfl (hb hby at_198) rfl  k))))))) ?_
      obtain ⟨v613, T613, L613, X613, hQ613, st613⟩ := own_callS X612 hx hZ (y := own_y17) (W := 0) hown (own_h hw 112 rfl) (own_h hw 113 rfl) (own_h hw 80 rfl) (own_h hw 114 rfl) (by decide) (own_rmchk0_1 l Z a0 hw [] b415 p2 p3 p4 p5 zd401 zkd401 (5 : Int32) zsn408 zsv408 zss408 zsl408 .null .null .null .null .null .null .null .null .null zbn408 zkn408 zbv408 zkv408 zbs408 zks408 zbl408 zkl408 gC T587.heap n0 Z587 q587_0 q587_1 q587_2 f593 f594 f595 f596 f597 f598 f599 f600 f601 f602 f603 f604 f605 f606 f607 f608 f609 f588 hG (by decide) (by decide) (by decide) (by decide)) (by decide) (by decide) (g := (mkF m 200 #[iv p1, iv p2, iv p3, iv p4, iv p5, iv 1, iv 1, rv zd401, iv 5, rv b415, iv 1] [(.int p5), (.int p4), (.int p3), (.int p2), (.int 1), (.int 0), (.ref b415)])) rfl (by rw [hml]; rfl) (argsL := [(.ref b415), (.int 0), (.int 1), (.int p2), (.int p3), (.int p4), (.int p5)]) (rest := []) rfl (lenOf own_pd15 rfl) rfl (by show 2 * 0 + _ ≤ _; exact Nat.le_of_eq rfl) (hb hby at_200) e612 (by decide) (by decide)
      obtain ⟨rfl, Nq613, Kq613⟩ := hQ613
      have N613 := Fr.app N612 Nq613
      have f614 := own_staKeep f588 Kq613
      have f615 := own_staKeep f589 Kq613
      have f616 := own_staKeep f590 Kq613
      have f617 := f591.keep Kq613 nin0
      have f618 := own_staKeep f592 Kq613
      have f619 := f593.keep Kq613 nin0
      have f620 := f594.keep Kq613
      have f621 := f595.keep Kq613 nin0
      have f622 := f596.keep Kq613 nin0
      have f623 := f597.keep Kq613 nin0
      have f624 := f598.keep Kq613
      have f625 := f599.keep Kq613 nin0
      have f626 := f600.keep Kq613 nin0
      have f627 := f601.keep Kq613 nin0
      have f628 := f602.keep Kq613
      have f629 := f603.keep Kq613 nin0
      have f630 := f604.keep Kq613 nin0
      have f631 := f605.keep Kq613 nin0
      have f632 := f606.keep Kq613
      have f633 := f607.keep Kq613 nin0
      have f634 := f608.keep Kq613 nin0
      have f635 := f609.keep Kq613 nin0
      have f636 := q587_0.keep Kq613
      have f637 := f611.keep Kq613
      have f638 := q587_1.keep Kq613 nin0
      have f639 := q587_2.keep Kq613 nin0
      have Z613 := Nat.le_trans Z587 Kq613.1
      have hk613 := Nat.le_trans hk587 Kq613.1
      refine own_s T613 (mkF m 203 #[iv p1, iv p2, iv p3, iv p4, iv p5, iv 1, iv 1, rv zd401, iv 5, rv b415, iv 1] [(.int 1)]) st613 ?_
      refine own_s T613 (mkF m 249 #[iv p1, iv p2, iv p3, iv p4, iv p5, iv 1, iv 1, rv zd401, iv 5, rv b415, iv 1] [(.int 1)]) (fun _ k => XS.ifNo X613.here hx rfl (hb hby at_203) rfl ((if0 _ _).trans (feq (by decide : ¬ ((1 : Int32) = (0 : Int32)))).1) (XS.iconst X613.here hx rfl (hb hby at_206) (XS.goto X613.here hx rfl (pc0 := 207) (pc' := 211) rfl (hb hby at_207) (by decide) (by decide) (XS.istore X613.here hx rfl (hb hby at_211) rfl (l' := #[iv p1, iv p2, iv p3, iv p4, iv p5, iv 1, iv 1, rv zd401, iv 5, rv b415, iv 1]) rfl (XS.iload X613.here hx rfl (hb hby at_213) rfl  (XS.iconst X613.here hx rfl (hb hby at_215) (XS.icmpYes X613.here hx rfl (pc0 := 216) (pc' := 247) rfl (hb hby at_216) rfl (flt (by decide : ¬ ((1 : Int32) < (1 : Int32)))).2.2.2 (by decide) (by decide) (XS.iload X613.here hx rfl (hb hby at_247) rfl  k)))))))) ?_
      refine own_s T613 (mkF m 283 #[iv p1, iv p2, iv p3, iv p4, iv p5, iv 1, iv 1, rv zd401, iv 5, rv b415, iv 1] [(.int 1)]) (fun _ k => XS.iconst X613.here hx rfl (hb hby at_249) (XS.icmpYes X613.here hx rfl (pc0 := 250) (pc' := 281) rfl (hb hby at_250) rfl (flt (by decide : ¬ ((2 : Int32) < (1 : Int32)))).2.2.2 (by decide) (by decide) (XS.iload X613.here hx rfl (hb hby at_281) rfl  k))) ?_
      exact own_finZ X613 hx (t := .boolean) hret (by simp) (z' := (1 : Int32)) rfl (hb hby at_283) (own_endW (Qv := (own_Q0 Z p1 p2 p3 p4 p5 gC oN oA kA oD h0 n0)) X613 hS (own_some hret) hlk (by decide) (by decide) rfl hk613 (fun vm' hv' => ⟨rfl, N613⟩))
  · refine own_cast (g' := (mkF m 5 #[iv p1, iv p2, iv p3, iv p4, iv p5, iv 2, u_, u_, u_, u_, u_] [])) (by rw [hn]) ?_
    refine own_s s₁ (mkF m 10 #[iv p1, iv p2, iv p3, iv p4, iv p5, iv 2, u_, u_, u_, u_, u_] [(.int (((p1.toUInt32 >>> ((2 : Int32) &&& 31).toUInt32).toInt32) &&& (1 : Int32)))]) (fun _ k => XS.iloadN X0.here hx rfl (hb hby at_5) rfl  (XS.iconst X0.here hx rfl (hb hby at_6) (XS.iushr X0.here hx rfl (hb hby at_7) rfl (XS.iconst X0.here hx rfl (hb hby at_8) (XS.iand X0.here hx rfl (hb hby at_9) rfl k))))) ?_
    by_cases c10 : (((p1.toUInt32 >>> ((2 : Int32) &&& 31).toUInt32).toInt32) &&& (1 : Int32)) = (0 : Int32)
    · refine own_s s₁ (mkF m 24 #[iv p1, iv p2, iv p3, iv p4, iv p5, iv 2, iv 0, u_, u_, u_, u_] [(.int 0), (.int 2)]) (fun _ k => XS.ifYes X0.here hx rfl (pc0 := 10) (pc' := 17) rfl (hb hby at_10) rfl ((if0 _ _).trans (teq c10).1) (by decide) (by decide) (XS.iconst X0.here hx rfl (hb hby at_17) (XS.istore X0.here hx rfl (hb hby at_18) rfl (l' := #[iv p1, iv p2, iv p3, iv p4, iv p5, iv 2, iv 0, u_, u_, u_, u_]) rfl (XS.iload X0.here hx rfl (hb hby at_20) rfl  (XS.iload X0.here hx rfl (hb hby at_22) rfl  k))))) ?_
      obtain ⟨v640, T640, L640, X640, hQ640, st640⟩ := own_callS X0 hx hZ (y := own_y8) (W := 0) hown (own_h hw 0 rfl) (own_h hw 1 rfl) (own_h hw 2 rfl) (own_h hw 3 rfl) (by decide) (own_rmna2_0 l Z a0 hw []  h0 n0 Z0) (by decide) (by decide) (g := (mkF m 24 #[iv p1, iv p2, iv p3, iv p4, iv p5, iv 2, iv 0, u_, u_, u_, u_] [(.int 0), (.int 2)])) rfl (by rw [hml]; rfl) (argsL := [(.int 2), (.int 0)]) (rest := []) rfl (lenOf own_pd11 rfl) rfl (by show 2 * 0 + _ ≤ _; exact Nat.le_of_eq rfl) (hb hby at_24) e0 (by decide) (by decide)
      obtain ⟨zd640, zkd640, rfl, Nq640, Kq640, g_zd640, sq_zd640, q640_0, q640_1⟩ := hQ640
      have N640 := Fr.app N0 Nq640
      have f641 := own_staKeep pr0 Kq640
      have f642 := own_staKeep pr1 Kq640
      have f643 := own_staKeep pr2 Kq640
      have f644 := pr3.keep Kq640 nin0
      have f645 := own_staKeep pr4 Kq640
      have Z640 := Nat.le_trans Z0 Kq640.1
      have hk640 := Nat.le_trans hk0 Kq640.1
      refine own_s T640 (mkF m 27 #[iv p1, iv p2, iv p3, iv p4, iv p5, iv 2, iv 0, u_, u_, u_, u_] [(.ref zd640)]) st640 ?_
      refine own_s T640 (mkF m 56 #[iv p1, iv p2, iv p3, iv p4, iv p5, iv 2, iv 0, rv zd640, iv 4, u_, u_] [(.ref zd640)]) (fun _ k => XS.astore X640.here hx rfl (hb hby at_27) rfl rfl (l' := #[iv p1, iv p2, iv p3, iv p4, iv p5, iv 2, iv 0, rv zd640, u_, u_, u_]) rfl (XS.iload X640.here hx rfl (hb hby at_29) rfl  (XS.ifYes X640.here hx rfl (pc0 := 31) (pc' := 48) rfl (hb hby at_31) rfl ((if0 _ _).trans (teq (by decide : ((0 : Int32) = (0 : Int32)))).1) (by decide) (by decide) (XS.iconst X640.here hx rfl (hb hby at_48) (XS.iload X640.here hx rfl (hb hby at_49) rfl  (XS.imul X640.here hx rfl (hb hby at_51) rfl (XS.istore X640.here hx rfl (hb hby at_52) rfl (l' := #[iv p1, iv p2, iv p3, iv p4, iv p5, iv 2, iv 0, rv zd640, iv 4, u_, u_]) rfl (XS.aload X640.here hx rfl (hb hby at_54) rfl rfl k)))))))) ?_
      obtain ⟨cl646, Ar646, q646, S646, Nn646, H646, G646⟩ := id q640_0
      refine own_s T640 (mkF m 74 #[iv p1, iv p2, iv p3, iv p4, iv p5, iv 2, iv 0, rv zd640, iv 4, u_, u_] [(.int 0), (.int 0), (.ref zd640)]) (fun _ k => own_len X640 hx hZ rfl Ar646 S646 Nn646 (g := (mkF m 56 #[iv p1, iv p2, iv p3, iv p4, iv p5, iv 2, iv 0, rv zd640, iv 4, u_, u_] [(.ref zd640)])) rfl rfl (hb hby at_56) (XS.iload X640.here hx rfl (hb hby at_57) rfl  (XS.icmpYes X640.here hx rfl (pc0 := 59) (pc' := 64) rfl (hb hby at_59) rfl (teq (by decide : ((4 : Int32) = (4 : Int32)))).1 (by decide) (by decide) (XS.iload X640.here hx rfl (hb hby at_64) rfl  (XS.ifNo X640.here hx rfl (hb hby at_66) rfl ((if0 _ _).trans (tlt (by decide : ((0 : Int32) < (2 : Int32)))).2.2.2) (XS.aload X640.here hx rfl (hb hby at_69) rfl rfl (XS.iconst X640.here hx rfl (hb hby at_71) (XS.iload X640.here hx rfl (hb hby at_72) rfl  k)))))))) ?_
      refine own_s T640 (mkF m 79 #[iv p1, iv p2, iv p3, iv p4, iv p5, iv 2, iv 0, rv zd640, iv 4, u_, u_] [(.int p5), (.int p4), (.int p3), (.int p2), (.int 0), (.int 0), (.ref zd640)]) (fun _ k => XS.iloadN X640.here hx rfl (hb hby at_74) rfl  (XS.iloadN X640.here hx rfl (hb hby at_75) rfl  (XS.iloadN X640.here hx rfl (hb hby at_76) rfl  (XS.iload X640.here hx rfl (hb hby at_77) rfl  k)))) ?_
      obtain ⟨v647, T647, L647, X647, hQ647, st647⟩ := own_callS X640 hx hZ (y := own_y10) (W := 0) hown (own_h hw 78 rfl) (own_h hw 79 rfl) (own_h hw 80 rfl) (own_h hw 81 rfl) (by decide) (own_rmput0_0 l Z a0 hw [] zd640 p2 p3 p4 p5 zkd640 (4 : Int32) .null .null .null .null .null .null .null .null .null .null .null .null .null gC T640.heap n0 Z640 g_zd640 q640_0 q640_1 f641 hG (by decide) (by decide) (by decide)) (by decide) (by decide) (g := (mkF m 79 #[iv p1, iv p2, iv p3, iv p4, iv p5, iv 2, iv 0, rv zd640, iv 4, u_, u_] [(.int p5), (.int p4), (.int p3), (.int p2), (.int 0), (.int 0), (.ref zd640)])) rfl (by rw [hml]; rfl) (argsL := [(.ref zd640), (.int 0), (.int 0), (.int p2), (.int p3), (.int p4), (.int p5)]) (rest := []) rfl (lenOf own_pd14 rfl) rfl (by show 2 * 0 + _ ≤ _; exact Nat.le_of_eq rfl) (hb hby at_79) rfl (by decide) (by decide)
      obtain ⟨zsn647, zbn647, zkn647, zsv647, zbv647, zkv647, rfl, Nq647, Kq647, g_zsn647, sq_zsn647, g_zbn647, sq_zbn647, g_zsv647, sq_zsv647, g_zbv647, sq_zbv647, q647_0, q647_1, q647_2, q647_3, q647_4, q647_5, q647_6, q647_7, q647_8⟩ := hQ647
      have N647 := Fr.app N640 Nq647
      have f648 := own_staKeepW f641 Kq647 (allS q640_0.nostat all0)
      have f649 := own_staKeepW f642 Kq647 (allS q640_0.nostat all0)
      have f650 := own_staKeepW f643 Kq647 (allS q640_0.nostat all0)
      have f651 := f644.keep Kq647 (ninS (own_nl pr3.lt sq_zd640) nin0)
      have f652 := own_staKeepW f645 Kq647 (allS q640_0.nostat all0)
      have Z647 := Nat.le_trans Z640 Kq647.1
      have hk647 := Nat.le_trans hk640 Kq647.1
      refine own_s T647 (mkF m 82 #[iv p1, iv p2, iv p3, iv p4, iv p5, iv 2, iv 0, rv zd640, iv 4, u_, u_] []) st647 ?_
      refine own_s T647 (mkF m 95 #[iv p1, iv p2, iv p3, iv p4, iv p5, iv 2, iv 0, rv zd640, iv 4, u_, u_] [(.int p3), (.int p2), (.int 0), (.int 1), (.ref zd640)]) (fun _ k => XS.iload X647.here hx rfl (hb hby at_82) rfl  (XS.iconst X647.here hx rfl (hb hby at_84) (XS.icmpNo X647.here hx rfl (hb hby at_85) rfl (tlt (by decide : ((1 : Int32) < (2 : Int32)))).2.2.2 (XS.aload X647.here hx rfl (hb hby at_88) rfl rfl (XS.iconst X647.here hx rfl (hb hby at_90) (XS.iload X647.here hx rfl (hb hby at_91) rfl  (XS.iloadN X647.here hx rfl (hb hby at_93) rfl  (XS.iloadN X647.here hx rfl (hb hby at_94) rfl  k)))))))) ?_
      refine own_s T647 (mkF m 98 #[iv p1, iv p2, iv p3, iv p4, iv p5, iv 2, iv 0, rv zd640, iv 4, u_, u_] [(.int p5), (.int p4), (.int p3), (.int p2), (.int 0), (.int 1), (.ref zd640)]) (fun _ k => XS.iloadN X647.here hx rfl (hb hby at_95) rfl  (XS.iload X647.here hx rfl (hb hby at_96) rfl  k)) ?_
      obtain ⟨v653, T653, L653, X653, hQ653, st653⟩ := own_callS X647 hx hZ (y := own_y10) (W := 0) hown (own_h hw 78 rfl) (own_h hw 79 rfl) (own_h hw 80 rfl) (own_h hw 81 rfl) (by decide) (own_rmput1_0 l Z a0 hw [] zd640 p2 p3 p4 p5 zkd640 (4 : Int32) (.ref zsn647) (.ref zsv647) .null .null .null .null .null .null .null .null .null .null .null gC T647.heap n0 Z647 g_zd640 q647_0 q640_1 f648 hG (by decide) (by decide) (by decide)) (by decide) (by decide) (g := (mkF m 98 #[iv p1, iv p2, iv p3, iv p4, iv p5, iv 2, iv 0, rv zd640, iv 4, u_, u_] [(.int p5), (.int p4), (.int p3), (.int p2), (.int 0), (.int 1), (.ref zd640)])) rfl (by rw [hml]; rfl) (argsL := [(.ref zd640), (.int 1), (.int 0), (.int p2), (.int p3), (.int p4), (.int p5)]) (rest := []) rfl (lenOf own_pd14 rfl) rfl (by show 2 * 0 + _ ≤ _; exact Nat.le_of_eq rfl) (hb hby at_98) rfl (by decide) (by decide)
      obtain ⟨zsn653, zbn653, zkn653, zsv653, zbv653, zkv653, rfl, Nq653, Kq653, g_zsn653, sq_zsn653, g_zbn653, sq_zbn653, g_zsv653, sq_zsv653, g_zbv653, sq_zbv653, q653_0, q653_1, q653_2, q653_3, q653_4, q653_5, q653_6, q653_7, q653_8⟩ := hQ653
      have N653 := Fr.app N647 Nq653
      have f654 := own_staKeepW f648 Kq653 (allS q647_0.nostat all0)
      have f655 := own_staKeepW f649 Kq653 (allS q647_0.nostat all0)
      have f656 := own_staKeepW f650 Kq653 (allS q647_0.nostat all0)
      have f657 := f651.keep Kq653 (ninS (own_nl pr3.lt sq_zd640) nin0)
      have f658 := own_staKeepW f652 Kq653 (allS q647_0.nostat all0)
      have f659 := q647_1.keep Kq653
      have f660 := q647_2.keep Kq653 (ninS (Ne.symm (own_nl q640_0.lt sq_zsn647)) nin0)
      have f661 := q647_3.keep Kq653 (ninS (Ne.symm (own_nl q640_0.lt sq_zsn647)) nin0)
      have f662 := q647_4.keep Kq653 (ninS (Ne.symm (own_nl q640_0.lt sq_zbn647)) nin0)
      have f663 := q647_5.keep Kq653
      have f664 := q647_6.keep Kq653 (ninS (Ne.symm (own_nl q640_0.lt sq_zsv647)) nin0)
      have f665 := q647_7.keep Kq653 (ninS (Ne.symm (own_nl q640_0.lt sq_zsv647)) nin0)
      have f666 := q647_8.keep Kq653 (ninS (Ne.symm (own_nl q640_0.lt sq_zbv647)) nin0)
      have Z653 := Nat.le_trans Z647 Kq653.1
      have hk653 := Nat.le_trans hk647 Kq653.1
      refine own_s T653 (mkF m 101 #[iv p1, iv p2, iv p3, iv p4, iv p5, iv 2, iv 0, rv zd640, iv 4, u_, u_] []) st653 ?_
      refine own_s T653 (mkF m 140 #[iv p1, iv p2, iv p3, iv p4, iv p5, iv 2, iv 0, rv zd640, iv 4, u_, u_] []) (fun _ k => XS.iload X653.here hx rfl (hb hby at_101) rfl  (XS.iconst X653.here hx rfl (hb hby at_103) (XS.icmpYes X653.here hx rfl (pc0 := 104) (pc' := 120) rfl (hb hby at_104) rfl (flt (by decide : ¬ ((2 : Int32) < (2 : Int32)))).2.2.2 (by decide) (by decide) (XS.iload X653.here hx rfl (hb hby at_120) rfl  (XS.iconst X653.here hx rfl (hb hby at_122) (iremM X653 hx rfl (hb hby at_123) rfl (by decide) (XS.iconst X653.here hx rfl (hb hby at_124) (XS.icmpYes X653.here hx rfl (pc0 := 125) (pc' := 140) rfl (hb hby at_125) rfl (feq (by decide)).2 (by decide) (by decide) k)))))))) ?_
      obtain ⟨T667, h667, X667, e667, E667, A667, D667, -, st667⟩ := newO X653 hx hZ hown (own_h hw 6 rfl) (own_h hw 7 rfl) (own_h hw 2 rfl) rfl (g := (mkF m 140 #[iv p1, iv p2, iv p3, iv p4, iv p5, iv 2, iv 0, rv zd640, iv 4, u_, u_] [])) rfl (hb hby at_140) (by decide) (by decide)
      obtain ⟨b667, g667⟩ : ∃ z, z = T653.heap.size := ⟨_, rfl⟩
      have g_b667 : n0 ≤ b667 := Nat.le_trans Z653 (Nat.le_of_eq g667.symm)
      rw [← g667] at A667 D667 st667
      have f668 := Sta.ext E667 f654
      have f669 := Sta.ext E667 f655
      have f670 := Sta.ext E667 f656
      have f671 := f657.ext E667
      have f672 := Sta.ext E667 f658
      have f673 := Exa.ext E667 f659
      have f674 := Fld.ext E667 f660
      have f675 := Fld.ext E667 f661
      have f676 := f662.ext E667
      have f677 := Exa.ext E667 f663
      have f678 := Fld.ext E667 f664
      have f679 := Fld.ext E667 f665
      have f680 := f666.ext E667
      have f681 := q653_0.ext E667
      have f682 := Exa.ext E667 q653_1
      have f683 := Fld.ext E667 q653_2
      have f684 := Fld.ext E667 q653_3
      have f685 := q653_4.ext E667
      have f686 := Exa.ext E667 q653_5
      have f687 := Fld.ext E667 q653_6
      have f688 := Fld.ext E667 q653_7
      have f689 := q653_8.ext E667
      have Z667 := Nat.le_trans Z653 E667.1
      have hk667 := Nat.le_trans hk653 E667.1
      have f690 : Fld Z h667 b667 "com/example/tagwright/tagwright/XmlElement" "children" "Ljava/util/List;" .null := D667 (Or.inl (own_h hw 49 rfl)) (ty := (.object "java/util/List")) (by decide)
      have f691 : Fld Z h667 b667 "com/example/tagwright/tagwright/XmlElement" "namespace" "Ljava/lang/String;" .null := D667 (Or.inr (own_h hw 51 rfl)) (ty := (.object "java/lang/String")) (by decide)
      have f692 : Fld Z h667 b667 "com/example/tagwright/tagwright/XmlElement" "localName" "Ljava/lang/String;" .null := D667 (Or.inr (own_h hw 53 rfl)) (ty := (.object "java/lang/String")) (by decide)
      have f693 : Fld Z h667 b667 "com/example/tagwright/tagwright/XmlElement" "tagName" "Ljava/lang/String;" .null := D667 (Or.inr (own_h hw 55 rfl)) (ty := (.object "java/lang/String")) (by decide)
      have f694 : Fld Z h667 b667 "com/example/tagwright/tagwright/XmlElement" "declarations" "Ljava/util/List;" .null := D667 (Or.inr (own_h hw 57 rfl)) (ty := (.object "java/util/List")) (by decide)
      have f695 : Fld Z h667 b667 "com/example/tagwright/tagwright/XmlElement" "attributes" "[Ljava/lang/String;" .null := D667 (Or.inr (own_h hw 61 rfl)) (ty := (.array (.object "java/lang/String"))) (by decide)
      have f696 : Fld Z h667 b667 "com/example/tagwright/tagwright/XmlElement" "stride" "B" (.int 0) := D667 (Or.inr (own_h hw 66 rfl)) (ty := .byte) (by decide)
      have f697 : Fld Z h667 b667 "com/example/tagwright/tagwright/XmlElement" "location" "Lcom/example/tagwright/tagwright/Location;" .null := D667 (Or.inr (own_h hw 68 rfl)) (ty := (.object "com/example/tagwright/tagwright/Location")) (by decide)
      have f698 : Fld Z h667 b667 "com/example/tagwright/tagwright/XmlElement" "parent" "Lcom/example/tagwright/tagwright/XmlElement;" .null := D667 (Or.inr (own_h hw 70 rfl)) (ty := (.object "com/example/tagwright/tagwright/XmlElement")) (by decide)
      have f699 : Fld Z h667 b667 "com/example/tagwright/tagwright/XmlElement" "index" "I" (.int 0) := D667 (Or.inr (own_h hw 72 rfl)) (ty := .int) (by decide)
      refine own_s T667 (mkF m 143 #[iv p1, iv p2, iv p3, iv p4, iv p5, iv 2, iv 0, rv zd640, iv 4, u_, u_] [(.ref b667)]) st667 ?_
      refine own_s T667 (mkF m 145 #[iv p1, iv p2, iv p3, iv p4, iv p5, iv 2, iv 0, rv zd640, iv 4, u_, u_] [.null, (.ref b667), (.ref b667)]) (fun _ k => XS.dup X667.here hx rfl (hb hby at_143) rfl rfl (XS.aconstNull X667.here hx rfl (hb hby at_144) k)) ?_
      obtain ⟨sl700, T700, h700, kk700, X700, e700, E700, hS, hk700, hZ, hown, st700⟩ := ldcS (s := s) X667 hx hZ hown (own_h hw 8 rfl) (own_wS hw) e667 hS hk667 (g := (mkF m 145 #[iv p1, iv p2, iv p3, iv p4, iv p5, iv 2, iv 0, rv zd640, iv 4, u_, u_] [.null, (.ref b667), (.ref b667)])) rfl (hb hby at_145) (n := 4) (by decide) (by decide) (by decide) (by decide)
      have f701 := Sta.ext E700 f668
      have f702 := Sta.ext E700 f669
      have f703 := Sta.ext E700 f670
      have f704 := f671.ext E700
      have f705 := Sta.ext E700 f672
      have f706 := Exa.ext E700 f673
      have f707 := Fld.ext E700 f674
      have f708 := Fld.ext E700 f675
      have f709 := f676.ext E700
      have f710 := Exa.ext E700 f677
      have f711 := Fld.ext E700 f678
      have f712 := Fld.ext E700 f679
      have f713 := f680.ext E700
      have f714 := f681.ext E700
      have f715 := Exa.ext E700 f682
      have f716 := Fld.ext E700 f683
      have f717 := Fld.ext E700 f684
      have f718 := f685.ext E700
      have f719 := Exa.ext E700 f686
      have f720 := Fld.ext E700 f687
      have f721 := Fld.ext E700 f688
      have f722 := f689.ext E700
      have f723 := Exa.ext E700 A667
      have f724 := Fld.ext E700 f690
      have f725 := Fld.ext E700 f691
      have f726 := Fld.ext E700 f692
      have f727 := Fld.ext E700 f693
      have f728 := Fld.ext E700 f694
      have f729 := Fld.ext E700 f695
      have f730 := Fld.ext E700 f696
      have f731 := Fld.ext E700 f697
      have f732 := Fld.ext E700 f698
      have f733 := Fld.ext E700 f699
      have Z700 := Nat.le_trans Z667 E700.1
      refine own_s T700 (mkF m 147 #[iv p1, iv p2, iv p3, iv p4, iv p5, iv 2, iv 0, rv zd640, iv 4, u_, u_] [(.ref sl700), .null, (.ref b667), (.ref b667)]) st700 ?_
      obtain ⟨sl734, T734, h734, kk734, X734, e734, E734, hS, hk734, hZ, hown, st734⟩ := ldcS (s := s) X700 hx hZ hown (own_h hw 8 rfl) (own_wS hw) e700 hS hk700 (g := (mkF m 147 #[iv p1, iv p2, iv p3, iv p4, iv p5, iv 2, iv 0, rv zd640, iv 4, u_, u_] [(.ref sl700), .null, (.ref b667), (.ref b667)])) rfl (hb hby at_147) (n := 4) (by decide) (by decide) (by decide) (by decide)
      have f735 := Sta.ext E734 f701
      have f736 := Sta.ext E734 f702
      have f737 := Sta.ext E734 f703
      have f738 := f704.ext E734
      have f739 := Sta.ext E734 f705
      have f740 := Exa.ext E734 f706
      have f741 := Fld.ext E734 f707
      have f742 := Fld.ext E734 f708
      have f743 := f709.ext E734
      have f744 := Exa.ext E734 f710
      have f745 := Fld.ext E734 f711
      have f746 := Fld.ext E734 f712
      have f747 := f713.ext E734
      have f748 := f714.ext E734
      have f749 := Exa.ext E734 f715
      have f750 := Fld.ext E734 f716
      have f751 := Fld.ext E734 f717
      have f752 := f718.ext E734
      have f753 := Exa.ext E734 f719
      have f754 := Fld.ext E734 f720
      have f755 := Fld.ext E734 f721
      have f756 := f722.ext E734
      have f757 := Exa.ext E734 f723
      have f758 := Fld.ext E734 f724
      have f759 := Fld.ext E734 f725
      have f760 := Fld.ext E734 f726
      have f761 := Fld.ext E734 f727
      have f762 := Fld.ext E734 f728
      have f763 := Fld.ext E734 f729
      have f764 := Fld.ext E734 f730
      have f765 := Fld.ext E734 f731
      have f766 := Fld.ext E734 f732
      have f767 := Fld.ext E734 f733
      have Z734 := Nat.le_trans Z700 E734.1
      refine own_s T734 (mkF m 149 #[iv p1, iv p2, iv p3, iv p4, iv p5, iv 2, iv 0, rv zd640, iv 4, u_, u_] [(.ref sl734), (.ref sl700), .null, (.ref b667), (.ref b667)]) st734 ?_
      obtain ⟨T768, h768, X768, e768, E768, A768, D768, -, st768⟩ := newO X734 hx hZ hown (own_h hw 16 rfl) (own_h hw 17 rfl) (own_h hw 18 rfl) e734 (g := (mkF m 149 #[iv p1, iv p2, iv p3, iv p4, iv p5, iv 2, iv 0, rv zd640, iv 4, u_, u_] [(.ref sl734), (.ref sl700), .null, (.ref b667), (.ref b667)])) rfl (hb hby at_149) (by decide) (by decide)
      obtain ⟨b768, g768⟩ : ∃ z, z = h734.size := ⟨_, rfl⟩
      have g_b768 : n0 ≤ b768 := Nat.le_trans Z734 (Nat.le_of_eq g768.symm)
      rw [← g768] at A768 D768 st768
      have f769 := Sta.ext E768 f735
      have f770 := Sta.ext E768 f736
      have f771 := Sta.ext E768 f737
      have f772 := f738.ext E768
      have f773 := Sta.ext E768 f739
      have f774 := Exa.ext E768 f740
      have f775 := Fld.ext E768 f741
      have f776 := Fld.ext E768 f742
      have f777 := f743.ext E768
      have f778 := Exa.ext E768 f744
      have f779 := Fld.ext E768 f745
      have f780 := Fld.ext E768 f746
      have f781 := f747.ext E768
      have f782 := f748.ext E768
      have f783 := Exa.ext E768 f749
      have f784 := Fld.ext E768 f750
      have f785 := Fld.ext E768 f751
      have f786 := f752.ext E768
      have f787 := Exa.ext E768 f753
      have f788 := Fld.ext E768 f754
      have f789 := Fld.ext E768 f755
      have f790 := f756.ext E768
      have f791 := Exa.ext E768 f757
      have f792 := Fld.ext E768 f758
      have f793 := Fld.ext E768 f759
      have f794 := Fld.ext E768 f760
      have f795 := Fld.ext E768 f761
      have f796 := Fld.ext E768 f762
      have f797 := Fld.ext E768 f763
      have f798 := Fld.ext E768 f764
      have f799 := Fld.ext E768 f765
      have f800 := Fld.ext E768 f766
      have f801 := Fld.ext E768 f767
      have Z768 := Nat.le_trans Z734 E768.1
      have hk768 := Nat.le_trans hk734 E768.1
      have f802 : Fld Z h768 b768 "java/util/AbstractList" "modCount" "I" (.int 0) := D768 (Or.inl (own_h hw 38 rfl)) (ty := .int) (by decide)
      have f803 : Fld Z h768 b768 "java/util/ArrayList" "elementData" "[Ljava/lang/Object;" .null := D768 (Or.inl (own_h hw 41 rfl)) (ty := (.array (.object "java/lang/Object"))) (by decide)
      refine own_s T768 (mkF m 152 #[iv p1, iv p2, iv p3, iv p4, iv p5, iv 2, iv 0, rv zd640, iv 4, u_, u_] [(.ref b768), (.ref sl734), (.ref sl700), .null, (.ref b667), (.ref b667)]) st768 ?_
      refine own_s T768 (mkF m 153 #[iv p1, iv p2, iv p3, iv p4, iv p5, iv 2, iv 0, rv zd640, iv 4, u_, u_] [(.ref b768), (.ref b768), (.ref sl734), (.ref sl700), .null, (.ref b667), (.ref b667)]) (fun _ k => XS.dup X768.here hx rfl (hb hby at_152) rfl rfl k) ?_
      obtain ⟨v804, T804, L804, X804, hQ804, st804⟩ := own_callI X768 hx hZ (y := own_y20) (W := 6) (a := b768) rfl hown (own_h hw 19 rfl) (own_h hw 20 rfl) (own_h hw 18 rfl) (own_h hw 21 rfl) (by decide) (own_rmal l Z a0 hw [] b768 oD h768 n0 Z768 g_b768 f773 A768 f802 f803) (by decide) (by decide) (g := (mkF m 153 #[iv p1, iv p2, iv p3, iv p4, iv p5, iv 2, iv 0, rv zd640, iv 4, u_, u_] [(.ref b768), (.ref b768), (.ref sl734), (.ref sl700), .null, (.ref b667), (.ref b667)])) rfl (by rw [hml]; rfl) (argsL := []) (rest := [(.ref b768), (.ref sl734), (.ref sl700), .null, (.ref b667), (.ref b667)]) rfl (lenOf own_pd10 rfl) rfl (by show 2 * 0 + _ ≤ _; exact Nat.le_of_eq rfl) (hb hby at_153) e768 (by decide) (by decide)
      obtain ⟨rfl, Nq804, Kq804, q804_0⟩ := hQ804
      have N804 := Fr.app N653 Nq804
      have f805 := own_staKeepW f769 Kq804 (allS A768.nostat all0)
      have f806 := own_staKeepW f770 Kq804 (allS A768.nostat all0)
      have f807 := own_staKeepW f771 Kq804 (allS A768.nostat all0)
      have f808 := f772.keep Kq804 (ninS (own_nf f738.lt g768) nin0)
      have f809 := own_staKeepW f773 Kq804 (allS A768.nostat all0)
      have f810 := f774.keep Kq804
      have f811 := f775.keep Kq804 (ninS (own_nf f740.lt g768) nin0)
      have f812 := f776.keep Kq804 (ninS (own_nf f740.lt g768) nin0)
      have f813 := f777.keep Kq804 (ninS (own_nf f743.lt g768) nin0)
      have f814 := f778.keep Kq804
      have f815 := f779.keep Kq804 (ninS (own_nf f744.lt g768) nin0)
      have f816 := f780.keep Kq804 (ninS (own_nf f744.lt g768) nin0)
      have f817 := f781.keep Kq804 (ninS (own_nf f747.lt g768) nin0)
      have f818 := f782.keep Kq804 (ninS (own_nf f748.lt g768) nin0)
      have f819 := f783.keep Kq804
      have f820 := f784.keep Kq804 (ninS (own_nf f749.lt g768) nin0)
      have f821 := f785.keep Kq804 (ninS (own_nf f749.lt g768) nin0)
      have f822 := f786.keep Kq804 (ninS (own_nf f752.lt g768) nin0)
      have f823 := f787.keep Kq804
      have f824 := f788.keep Kq804 (ninS (own_nf f753.lt g768) nin0)
      have f825 := f789.keep Kq804 (ninS (own_nf f753.lt g768) nin0)
      have f826 := f790.keep Kq804 (ninS (own_nf f756.lt g768) nin0)
      have f827 := f791.keep Kq804
      have f828 := f792.keep Kq804 (ninS (own_nf f757.lt g768) nin0)
      have f829 := f793.keep Kq804 (ninS (own_nf f757.lt g768) nin0)
      have f830 := f794.keep Kq804 (ninS (own_nf f757.lt g768) nin0)
      have f831 := f795.keep Kq804 (ninS (own_nf f757.lt g768) nin0)
      have f832 := f796.keep Kq804 (ninS (own_nf f757.lt g768) nin0)
      have f833 := f797.keep Kq804 (ninS (own_nf f757.lt g768) nin0)
      have f834 := f798.keep Kq804 (ninS (own_nf f757.lt g768) nin0)
      have f835 := f799.keep Kq804 (ninS (own_nf f757.lt g768) nin0)
      have f836 := f800.keep Kq804 (ninS (own_nf f757.lt g768) nin0)
      have f837 := f801.keep Kq804 (ninS (own_nf f757.lt g768) nin0)
      have f838 := A768.keep Kq804
      have Z804 := Nat.le_trans Z768 Kq804.1
      have hk804 := Nat.le_trans hk768 Kq804.1
      refine own_s T804 (mkF m 156 #[iv p1, iv p2, iv p3, iv p4, iv p5, iv 2, iv 0, rv zd640, iv 4, u_, u_] [(.ref b768), (.ref sl734), (.ref sl700), .null, (.ref b667), (.ref b667)]) st804 ?_
      refine own_s T804 (mkF m 160 #[iv p1, iv p2, iv p3, iv p4, iv p5, iv 2, iv 0, rv zd640, iv 4, u_, u_] [.null, .null, (.ref zd640), (.ref b768), (.ref sl734), (.ref sl700), .null, (.ref b667), (.ref b667)]) (fun _ k => XS.aload X804.here hx rfl (hb hby at_156) rfl rfl (XS.aconstNull X804.here hx rfl (hb hby at_158) (XS.aconstNull X804.here hx rfl (hb hby at_159) k))) ?_
      obtain ⟨v839, T839, L839, X839, hQ839, st839⟩ := own_callI X804 hx hZ (y := own_y11) (W := 1) (a := b667) rfl hown (own_h hw 42 rfl) (own_h hw 43 rfl) (own_h hw 2 rfl) (own_h hw 44 rfl) (by decide) (own_rmxi_e l Z a0 hw [] b667 sl700 sl734 b768 zd640 oN oA zkd640 [(.ref zsn647), (.ref zsv647), (.ref zsn653), (.ref zsv653), .null, .null, .null, .null, .null, .null, .null, .null, .null] (4 : Int32) T804.heap n0 Z804 g_b667 f827 f828 f829 f830 f831 f832 f833 f834 f835 f836 f837 f806 f807 f818 (Ne.symm (own_nf q653_0.lt g667)) (by decide) (by decide)) (by decide) (by decide) (g := (mkF m 160 #[iv p1, iv p2, iv p3, iv p4, iv p5, iv 2, iv 0, rv zd640, iv 4, u_, u_] [.null, .null, (.ref zd640), (.ref b768), (.ref sl734), (.ref sl700), .null, (.ref b667), (.ref b667)])) rfl (by rw [hml]; rfl) (argsL := [.null, (.ref sl700), (.ref sl734), (.ref b768), (.ref zd640), .null, .null]) (rest := [(.ref b667)]) rfl (lenOf own_pd12 rfl) rfl (by show 2 * 0 + _ ≤ _; exact Nat.le_of_eq rfl) (hb hby at_160) rfl (by decide) (by decide)
      obtain ⟨rfl, Nq839, Kq839, q839_0, q839_1, q839_2⟩ := hQ839
      have N839 := Fr.app N804 Nq839
      have f840 := own_staKeepW f805 Kq839 (allS f827.nostat all0)
      have f841 := own_staKeepW f806 Kq839 (allS f827.nostat all0)
      have f842 := own_staKeepW f807 Kq839 (allS f827.nostat all0)
      have f843 := f808.keep Kq839 (ninS (own_nf f657.lt g667) nin0)
      have f844 := own_staKeepW f809 Kq839 (allS f827.nostat all0)
      have f845 := f810.keep Kq839
      have f846 := f811.keep Kq839 (ninS (own_nf f659.lt g667) nin0)
      have f847 := f812.keep Kq839 (ninS (own_nf f659.lt g667) nin0)
      have f848 := f813.keep Kq839 (ninS (own_nf f662.lt g667) nin0)
      have f849 := f814.keep Kq839
      have f850 := f815.keep Kq839 (ninS (own_nf f663.lt g667) nin0)
      have f851 := f816.keep Kq839 (ninS (own_nf f663.lt g667) nin0)
      have f852 := f817.keep Kq839 (ninS (own_nf f666.lt g667) nin0)
      have f853 := f818.keep Kq839 (ninS (own_nf q653_0.lt g667) nin0)
      have f854 := f819.keep Kq839
      have f855 := f820.keep Kq839 (ninS (own_nf q653_1.lt g667) nin0)
      have f856 := f821.keep Kq839 (ninS (own_nf q653_1.lt g667) nin0)
      have f857 := f822.keep Kq839 (ninS (own_nf q653_4.lt g667) nin0)
      have f858 := f823.keep Kq839
      have f859 := f824.keep Kq839 (ninS (own_nf q653_5.lt g667) nin0)
      have f860 := f825.keep Kq839 (ninS (own_nf q653_5.lt g667) nin0)
      have f861 := f826.keep Kq839 (ninS (own_nf q653_8.lt g667) nin0)
      have f862 := f827.keep Kq839
      have f863 := q804_0.keep Kq839
      have Z839 := Nat.le_trans Z804 Kq839.1
      have hk839 := Nat.le_trans hk804 Kq839.1
      refine own_s T839 (mkF m 163 #[iv p1, iv p2, iv p3, iv p4, iv p5, iv 2, iv 0, rv zd640, iv 4, u_, u_] [(.ref b667)]) st839 ?_
      refine own_s T839 (mkF m 167 #[iv p1, iv p2, iv p3, iv p4, iv p5, iv 2, iv 0, rv zd640, iv 4, rv b667, u_] [(.ref b667)]) (fun _ k => XS.astore X839.here hx rfl (hb hby at_163) rfl rfl (l' := #[iv p1, iv p2, iv p3, iv p4, iv p5, iv 2, iv 0, rv zd640, iv 4, rv b667, u_]) rfl (XS.aload X839.here hx rfl (hb hby at_165) rfl rfl k)) ?_
      obtain ⟨v864, T864, L864, X864, hQ864, st864⟩ := own_callV X839 hx hZ (y := own_y12) (z := own_y12) (W := 0) (a := b667) hown (own_h hw 73 rfl) (own_h hw 74 rfl) (notFace_of_selects (args := #[]) (mvT hZ (own_h hw 76 rfl))) (own_h hw 76 rfl) (own_h hw 75 rfl) (own_h hw 2 rfl) (own_h hw 77 rfl) (by decide) (own_rmcnt2 l Z a0 hw [] b667 zd640 zkd640 [(.ref zsn647), (.ref zsv647), (.ref zsn653), (.ref zsv653), .null, .null, .null, .null, .null, .null, .null, .null, .null] (4 : Int32) T839.heap n0 Z839 q839_1 q839_2 f853) (by decide) (by decide) q839_0 (g := (mkF m 167 #[iv p1, iv p2, iv p3, iv p4, iv p5, iv 2, iv 0, rv zd640, iv 4, rv b667, u_] [(.ref b667)])) rfl (by rw [hml]; rfl) (argsL := []) (rest := []) rfl (lenOf own_pd13 rfl) rfl (by show 2 * 0 + _ ≤ _; exact Nat.le_of_eq rfl) (hb hby at_167) rfl (by decide) (by decide)
      obtain ⟨rfl, Nq864, e864⟩ := hQ864
      have N864 := Fr.app N839 Nq864
      refine own_s T864 (mkF m 170 #[iv p1, iv p2, iv p3, iv p4, iv p5, iv 2, iv 0, rv zd640, iv 4, rv b667, u_] [(.int ((4 : Int32) / (2 : Int32)))]) st864 ?_
      refine own_s T864 (mkF m 190 #[iv p1, iv p2, iv p3, iv p4, iv p5, iv 2, iv 0, rv zd640, iv 4, rv b667, iv 1] []) (fun _ k => XS.iload X864.here hx rfl (hb hby at_170) rfl  (XS.icmpYes X864.here hx rfl (pc0 := 172) (pc' := 177) rfl (hb hby at_172) rfl (teq (by decide)).1 (by decide) (by decide) (XS.iconst X864.here hx rfl (hb hby at_177) (XS.istore X864.here hx rfl (hb hby at_178) rfl (l' := #[iv p1, iv p2, iv p3, iv p4, iv p5, iv 2, iv 0, rv zd640, iv 4, rv b667, iv 1]) rfl (XS.iload X864.here hx rfl (hb hby at_180) rfl  (XS.ifNo X864.here hx rfl (hb hby at_182) rfl ((if0 _ _).trans (tlt (by decide : ((0 : Int32) < (2 : Int32)))).2.2.2) (XS.iload X864.here hx rfl (hb hby at_185) rfl  (XS.ifNo X864.here hx rfl (hb hby at_187) rfl ((if0 _ _).trans (feq (by decide : ¬ ((1 : Int32) = (0 : Int32)))).1) k)))))))) ?_
      refine own_s T864 (mkF m 200 #[iv p1, iv p2, iv p3, iv p4, iv p5, iv 2, iv 0, rv zd640, iv 4, rv b667, iv 1] [(.int p5), (.int p4), (.int p3), (.int p2), (.int 0), (.int 0), (.ref b667)]) (fun _ k => XS.aload X864.here hx rfl (hb hby at_190) rfl rfl (XS.iconst X864.here hx rfl (hb hby at_192) (XS.iload X864.here hx rfl (hb hby at_193) rfl  (XS.iloadN X864.here hx rfl (hb hby at_195) rfl  (XS.iloadN X864.here hx rfl (hb hby at_196) rfl  (XS.iloadN X864.here hx rfl (hb hby at_197) rfl  (XS.iload X864.here hx rfl (hb hby at_198) rfl  k))))))) ?_
      obtain ⟨v865, T865, L865, X865, hQ865, st865⟩ := own_callS X864 hx hZ (y := own_y17) (W := 0) hown (own_h hw 112 rfl) (own_h hw 113 rfl) (own_h hw 80 rfl) (own_h hw 114 rfl) (by decide) (own_rmchk0_0 l Z a0 hw [] b667 p2 p3 p4 p5 zd640 zkd640 (4 : Int32) zsn647 zsv647 (.ref zsn653) (.ref zsv653) .null .null .null .null .null .null .null .null .null zbn647 zkn647 zbv647 zkv647 gC T839.heap n0 Z839 q839_0 q839_1 q839_2 f853 f845 f846 f847 f848 f849 f850 f851 f852 f840 hG (by decide) (by decide)) (by decide) (by decide) (g := (mkF m 200 #[iv p1, iv p2, iv p3, iv p4, iv p5, iv 2, iv 0, rv zd640, iv 4, rv b667, iv 1] [(.int p5), (.int p4), (.int p3), (.int p2), (.int 0), (.int 0), (.ref b667)])) rfl (by rw [hml]; rfl) (argsL := [(.ref b667), (.int 0), (.int 0), (.int p2), (.int p3), (.int p4), (.int p5)]) (rest := []) rfl (lenOf own_pd15 rfl) rfl (by show 2 * 0 + _ ≤ _; exact Nat.le_of_eq rfl) (hb hby at_200) e864 (by decide) (by decide)
      obtain ⟨rfl, Nq865, Kq865⟩ := hQ865
      have N865 := Fr.app N864 Nq865
      have f866 := own_staKeep f840 Kq865
      have f867 := own_staKeep f841 Kq865
      have f868 := own_staKeep f842 Kq865
      have f869 := f843.keep Kq865 nin0
      have f870 := own_staKeep f844 Kq865
      have f871 := f845.keep Kq865
      have f872 := f846.keep Kq865 nin0
      have f873 := f847.keep Kq865 nin0
      have f874 := f848.keep Kq865 nin0
      have f875 := f849.keep Kq865
      have f876 := f850.keep Kq865 nin0
      have f877 := f851.keep Kq865 nin0
      have f878 := f852.keep Kq865 nin0
      have f879 := f853.keep Kq865 nin0
      have f880 := f854.keep Kq865
      have f881 := f855.keep Kq865 nin0
      have f882 := f856.keep Kq865 nin0
      have f883 := f857.keep Kq865 nin0
      have f884 := f858.keep Kq865
      have f885 := f859.keep Kq865 nin0
      have f886 := f860.keep Kq865 nin0
      have f887 := f861.keep Kq865 nin0
      have f888 := q839_0.keep Kq865
      have f889 := f863.keep Kq865
      have f890 := q839_1.keep Kq865 nin0
      have f891 := q839_2.keep Kq865 nin0
      have Z865 := Nat.le_trans Z839 Kq865.1
      have hk865 := Nat.le_trans hk839 Kq865.1
      refine own_s T865 (mkF m 203 #[iv p1, iv p2, iv p3, iv p4, iv p5, iv 2, iv 0, rv zd640, iv 4, rv b667, iv 1] [(.int 1)]) st865 ?_
      refine own_s T865 (mkF m 221 #[iv p1, iv p2, iv p3, iv p4, iv p5, iv 2, iv 0, rv zd640, iv 4, rv b667, iv 1] [(.int 1)]) (fun _ k => XS.ifNo X865.here hx rfl (hb hby at_203) rfl ((if0 _ _).trans (feq (by decide : ¬ ((1 : Int32) = (0 : Int32)))).1) (XS.iconst X865.here hx rfl (hb hby at_206) (XS.goto X865.here hx rfl (pc0 := 207) (pc' := 211) rfl (hb hby at_207) (by decide) (by decide) (XS.istore X865.here hx rfl (hb hby at_211) rfl (l' := #[iv p1, iv p2, iv p3, iv p4, iv p5, iv 2, iv 0, rv zd640, iv 4, rv b667, iv 1]) rfl (XS.iload X865.here hx rfl (hb hby at_213) rfl  (XS.iconst X865.here hx rfl (hb hby at_215) (XS.icmpNo X865.here hx rfl (hb hby at_216) rfl (tlt (by decide : ((1 : Int32) < (2 : Int32)))).2.2.2 (XS.iload X865.here hx rfl (hb hby at_219) rfl  k)))))))) ?_
      refine own_s T865 (mkF m 234 #[iv p1, iv p2, iv p3, iv p4, iv p5, iv 2, iv 0, rv zd640, iv 4, rv b667, iv 1] [(.int p5), (.int p4), (.int p3), (.int p2), (.int 0), (.int 1), (.ref b667)]) (fun _ k => XS.ifNo X865.here hx rfl (hb hby at_221) rfl ((if0 _ _).trans (feq (by decide : ¬ ((1 : Int32) = (0 : Int32)))).1) (XS.aload X865.here hx rfl (hb hby at_224) rfl rfl (XS.iconst X865.here hx rfl (hb hby at_226) (XS.iload X865.here hx rfl (hb hby at_227) rfl  (XS.iloadN X865.here hx rfl (hb hby at_229) rfl  (XS.iloadN X865.here hx rfl (hb hby at_230) rfl  (XS.iloadN X865.here hx rfl (hb hby at_231) rfl  (XS.iload X865.here hx rfl (hb hby at_232) rfl  k)))))))) ?_
      obtain ⟨v892, T892, L892, X892, hQ892, st892⟩ := own_callS X865 hx hZ (y := own_y17) (W := 0) hown (own_h hw 112 rfl) (own_h hw 113 rfl) (own_h hw 80 rfl) (own_h hw 114 rfl) (by decide) (own_rmchk1_0 l Z a0 hw [] b667 p2 p3 p4 p5 zd640 zkd640 (4 : Int32) (.ref zsn647) (.ref zsv647) zsn653 zsv653 .null .null .null .null .null .null .null .null .null zbn653 zkn653 zbv653 zkv653 gC T865.heap n0 Z865 f888 f890 f891 f879 f880 f881 f882 f883 f884 f885 f886 f887 f866 hG (by decide) (by decide)) (by decide) (by decide) (g := (mkF m 234 #[iv p1, iv p2, iv p3, iv p4, iv p5, iv 2, iv 0, rv zd640, iv 4, rv b667, iv 1] [(.int p5), (.int p4), (.int p3), (.int p2), (.int 0), (.int 1), (.ref b667)])) rfl (by rw [hml]; rfl) (argsL := [(.ref b667), (.int 1), (.int 0), (.int p2), (.int p3), (.int p4), (.int p5)]) (rest := []) rfl (lenOf own_pd15 rfl) rfl (by show 2 * 0 + _ ≤ _; exact Nat.le_of_eq rfl) (hb hby at_234) rfl (by decide) (by decide)
      obtain ⟨rfl, Nq892, Kq892⟩ := hQ892
      have N892 := Fr.app N865 Nq892
      have f893 := own_staKeep f866 Kq892
      have f894 := own_staKeep f867 Kq892
      have f895 := own_staKeep f868 Kq892
      have f896 := f869.keep Kq892 nin0
      have f897 := own_staKeep f870 Kq892
      have f898 := f871.keep Kq892
      have f899 := f872.keep Kq892 nin0
      have f900 := f873.keep Kq892 nin0
      have f901 := f874.keep Kq892 nin0
      have f902 := f875.keep Kq892
      have f903 := f876.keep Kq892 nin0
      have f904 := f877.keep Kq892 nin0
      have f905 := f878.keep Kq892 nin0
      have f906 := f879.keep Kq892 nin0
      have f907 := f880.keep Kq892
      have f908 := f881.keep Kq892 nin0
      have f909 := f882.keep Kq892 nin0
      have f910 := f883.keep Kq892 nin0
      have f911 := f884.keep Kq892
      have f912 := f885.keep Kq892 nin0
      have f913 := f886.keep Kq892 nin0
      have f914 := f887.keep Kq892 nin0
      have f915 := f888.keep Kq892
      have f916 := f889.keep Kq892
      have f917 := f890.keep Kq892 nin0
      have f918 := f891.keep Kq892 nin0
      have Z892 := Nat.le_trans Z865 Kq892.1
      have hk892 := Nat.le_trans hk865 Kq892.1
      refine own_s T892 (mkF m 237 #[iv p1, iv p2, iv p3, iv p4, iv p5, iv 2, iv 0, rv zd640, iv 4, rv b667, iv 1] [(.int 1)]) st892 ?_
      refine own_s T892 (mkF m 283 #[iv p1, iv p2, iv p3, iv p4, iv p5, iv 2, iv 0, rv zd640, iv 4, rv b667, iv 1] [(.int 1)]) (fun _ k => XS.ifNo X892.here hx rfl (hb hby at_237) rfl ((if0 _ _).trans (feq (by decide : ¬ ((1 : Int32) = (0 : Int32)))).1) (XS.iconst X892.here hx rfl (hb hby at_240) (XS.goto X892.here hx rfl (pc0 := 241) (pc' := 245) rfl (hb hby at_241) (by decide) (by decide) (XS.istore X892.here hx rfl (hb hby at_245) rfl (l' := #[iv p1, iv p2, iv p3, iv p4, iv p5, iv 2, iv 0, rv zd640, iv 4, rv b667, iv 1]) rfl (XS.iload X892.here hx rfl (hb hby at_247) rfl  (XS.iconst X892.here hx rfl (hb hby at_249) (XS.icmpYes X892.here hx rfl (pc0 := 250) (pc' := 281) rfl (hb hby at_250) rfl (flt (by decide : ¬ ((2 : Int32) < (2 : Int32)))).2.2.2 (by decide) (by decide) (XS.iload X892.here hx rfl (hb hby at_281) rfl  k)))))))) ?_
      exact own_finZ X892 hx (t := .boolean) hret (by simp) (z' := (1 : Int32)) rfl (hb hby at_283) (own_endW (Qv := (own_Q0 Z p1 p2 p3 p4 p5 gC oN oA kA oD h0 n0)) X892 hS (own_some hret) hlk (by decide) (by decide) rfl hk892 (fun vm' hv' => ⟨rfl, N892⟩))
    · refine own_s s₁ (mkF m 24 #[iv p1, iv p2, iv p3, iv p4, iv p5, iv 2, iv 1, u_, u_, u_, u_] [(.int 1), (.int 2)]) (fun _ k => XS.ifNo X0.here hx rfl (hb hby at_10) rfl ((if0 _ _).trans (feq c10).1) (XS.iconst X0.here hx rfl (hb hby at_13) (XS.goto X0.here hx rfl (pc0 := 14) (pc' := 18) rfl (hb hby at_14) (by decide) (by decide) (XS.istore X0.here hx rfl (hb hby at_18) rfl (l' := #[iv p1, iv p2, iv p3, iv p4, iv p5, iv 2, iv 1, u_, u_, u_, u_]) rfl (XS.iload X0.here hx rfl (hb hby at_20) rfl  (XS.iload X0.here hx rfl (hb hby at_22) rfl  k)))))) ?_
      obtain ⟨v919, T919, L919, X919, hQ919, st919⟩ := own_callS X0 hx hZ (y := own_y8) (W := 0) hown (own_h hw 0 rfl) (own_h hw 1 rfl) (own_h hw 2 rfl) (own_h hw 3 rfl) (by decide) (own_rmna2_1 l Z a0 hw []  h0 n0 Z0) (by decide) (by decide) (g := (mkF m 24 #[iv p1, iv p2, iv p3, iv p4, iv p5, iv 2, iv 1, u_, u_, u_, u_] [(.int 1), (.int 2)])) rfl (by rw [hml]; rfl) (argsL := [(.int 2), (.int 1)]) (rest := []) rfl (lenOf own_pd11 rfl) rfl (by show 2 * 0 + _ ≤ _; exact Nat.le_of_eq rfl) (hb hby at_24) e0 (by decide) (by decide)
      obtain ⟨zd919, zkd919, rfl, Nq919, Kq919, g_zd919, sq_zd919, q919_0, q919_1⟩ := hQ919
      have N919 := Fr.app N0 Nq919
      have f920 := own_staKeep pr0 Kq919
      have f921 := own_staKeep pr1 Kq919
      have f922 := own_staKeep pr2 Kq919
      have f923 := pr3.keep Kq919 nin0
      have f924 := own_staKeep pr4 Kq919
      have Z919 := Nat.le_trans Z0 Kq919.1
      have hk919 := Nat.le_trans hk0 Kq919.1
      refine own_s T919 (mkF m 27 #[iv p1, iv p2, iv p3, iv p4, iv p5, iv 2, iv 1, u_, u_, u_, u_] [(.ref zd919)]) st919 ?_
      refine own_s T919 (mkF m 43 #[iv p1, iv p2, iv p3, iv p4, iv p5, iv 2, iv 1, rv zd919, u_, u_, u_] [(.int 8)]) (fun _ k => XS.astore X919.here hx rfl (hb hby at_27) rfl rfl (l' := #[iv p1, iv p2, iv p3, iv p4, iv p5, iv 2, iv 1, rv zd919, u_, u_, u_]) rfl (XS.iload X919.here hx rfl (hb hby at_29) rfl  (XS.ifNo X919.here hx rfl (hb hby at_31) rfl ((if0 _ _).trans (feq (by decide : ¬ ((1 : Int32) = (0 : Int32)))).1) (XS.iload X919.here hx rfl (hb hby at_34) rfl  (XS.ifNo X919.here hx rfl (hb hby at_36) rfl ((if0 _ _).trans (tlt (by decide : ((0 : Int32) < (2 : Int32)))).2.2.2) (XS.iconst X919.here hx rfl (hb hby at_39) (XS.iload X919.here hx rfl (hb hby at_40) rfl  (XS.imul X919.here hx rfl (hb hby at_42) rfl k)))))))) ?_
      refine own_s T919 (mkF m 56 #[iv p1, iv p2, iv p3, iv p4, iv p5, iv 2, iv 1, rv zd919, iv 9, u_, u_] [(.ref zd919)]) (fun _ k => XS.iconst X919.here hx rfl (hb hby at_43) (XS.iadd X919.here hx rfl (hb hby at_44) rfl (XS.goto X919.here hx rfl (pc0 := 45) (pc' := 52) rfl (hb hby at_45) (by decide) (by decide) (XS.istore X919.here hx rfl (hb hby at_52) rfl (l' := #[iv p1, iv p2, iv p3, iv p4, iv p5, iv 2, iv 1, rv zd919, iv 9, u_, u_]) rfl (XS.aload X919.here hx rfl (hb hby at_54) rfl rfl k))))) ?_
      obtain ⟨cl925, Ar925, q925, S925, Nn925, H925, G925⟩ := id q919_0
      refine own_s T919 (mkF m 74 #[iv p1, iv p2, iv p3, iv p4, iv p5, iv 2, iv 1, rv zd919, iv 9, u_, u_] [(.int 1), (.int 0), (.ref zd919)]) (fun _ k => own_len X919 hx hZ rfl Ar925 S925 Nn925 (g := (mkF m 56 #[iv p1, iv p2, iv p3, iv p4, iv p5, iv 2, iv 1, rv zd919, iv 9, u_, u_] [(.ref zd919)])) rfl rfl (hb hby at_56) (XS.iload X919.here hx rfl (hb hby at_57) rfl  (XS.icmpYes X919.here hx rfl (pc0 := 59) (pc' := 64) rfl (hb hby at_59) rfl (teq (by decide : ((9 : Int32) = (9 : Int32)))).1 (by decide) (by decide) (XS.iload X919.here hx rfl (hb hby at_64) rfl  (XS.ifNo X919.here hx rfl (hb hby at_66) rfl ((if0 _ _).trans (tlt (by decide : ((0 : Int32) < (2 : Int32)))).2.2.2) (XS.aload X919.here hx rfl (hb hby at_69) rfl rfl (XS.iconst X919.here hx rfl (hb hby at_71) (XS.iload X919.here hx rfl (hb hby at_72) rfl  k)))))))) ?_
      refine own_s T919 (mkF m 79 #[iv p1, iv p2, iv p3, iv p4, iv p5, iv 2, iv 1, rv zd919, iv 9, u_, u_] [(.int p5), (.int p4), (.int p3), (.int p2), (.int 1), (.int 0), (.ref zd919)]) (fun _ k => XS.iloadN X919.here hx rfl (hb hby at_74) rfl  (XS.iloadN X919.here hx rfl (hb hby at_75) rfl  (XS.iloadN X919.here hx rfl (hb hby at_76) rfl  (XS.iload X919.here hx rfl (hb hby at_77) rfl  k)))) ?_
      obtain ⟨v926, T926, L926, X926, hQ926, st926⟩ := own_callS X919 hx hZ (y := own_y10) (W := 0) hown (own_h hw 78 rfl) (own_h hw 79 rfl) (own_h hw 80 rfl) (own_h hw 81 rfl) (by decide) (own_rmput0_1 l Z a0 hw [] zd919 p2 p3 p4 p5 zkd919 (9 : Int32) .null .null .null .null .null .null .null .null .null .null .null .null .null gC T919.heap n0 Z919 g_zd919 q919_0 q919_1 f920 hG (by decide) (by decide) (by decide) (by decide) (by decide)) (by decide) (by decide) (g := (mkF m 79 #[iv p1, iv p2, iv p3, iv p4, iv p5, iv 2, iv 1, rv zd919, iv 9, u_, u_] [(.int p5), (.int p4), (.int p3), (.int p2), (.int 1), (.int 0), (.ref zd919)])) rfl (by rw [hml]; rfl) (argsL := [(.ref zd919), (.int 0), (.int 1), (.int p2), (.int p3), (.int p4), (.int p5)]) (rest := []) rfl (lenOf own_pd14 rfl) rfl (by show 2 * 0 + _ ≤ _; exact Nat.le_of_eq rfl) (hb hby at_79) rfl (by decide) (by decide)
      obtain ⟨zsn926, zbn926, zkn926, zsv926, zbv926, zkv926, zss926, zbs926, zks926, zsl926, zbl926, zkl926, rfl, Nq926, Kq926, g_zsn926, sq_zsn926, g_zbn926, sq_zbn926, g_zsv926, sq_zsv926, g_zbv926, sq_zbv926, g_zss926, sq_zss926, g_zbs926, sq_zbs926, g_zsl926, sq_zsl926, g_zbl926, sq_zbl926, q926_0, q926_1, q926_2, q926_3, q926_4, q926_5, q926_6, q926_7, q926_8, q926_9, q926_10, q926_11, q926_12, q926_13, q926_14, q926_15, q926_16⟩ := hQ926
      have N926 := Fr.app N919 Nq926
      have f927 := own_staKeepW f920 Kq926 (allS q919_0.nostat all0)
      have f928 := own_staKeepW f921 Kq926 (allS q919_0.nostat all0)
      have f929 := own_staKeepW f922 Kq926 (allS q919_0.nostat all0)
      have f930 := f923.keep Kq926 (ninS (own_nl pr3.lt sq_zd919) nin0)
      have f931 := own_staKeepW f924 Kq926 (allS q919_0.nostat all0)
      have Z926 := Nat.le_trans Z919 Kq926.1
      have hk926 := Nat.le_trans hk919 Kq926.1
      refine own_s T926 (mkF m 82 #[iv p1, iv p2, iv p3, iv p4, iv p5, iv 2, iv 1, rv zd919, iv 9, u_, u_] []) st926 ?_
      refine own_s T926 (mkF m 95 #[iv p1, iv p2, iv p3, iv p4, iv p5, iv 2, iv 1, rv zd919, iv 9, u_, u_] [(.int p3), (.int p2), (.int 1), (.int 1), (.ref zd919)]) (fun _ k => XS.iload X926.here hx rfl (hb hby at_82) rfl  (XS.iconst X926.here hx rfl (hb hby at_84) (XS.icmpNo X926.here hx rfl (hb hby at_85) rfl (tlt (by decide : ((1 : Int32) < (2 : Int32)))).2.2.2 (XS.aload X926.here hx rfl (hb hby at_88) rfl rfl (XS.iconst X926.here hx rfl (hb hby at_90) (XS.iload X926.here hx rfl (hb hby at_91) rfl  (XS.iloadN X926.here hx rfl (hb hby at_93) rfl  (XS.iloadN X926.here hx rfl (hb hby at_94) rfl  k)))))))) ?_
      refine own_s T926 (mkF m 98 #[iv p1, iv p2, iv p3, iv p4, iv p5, iv 2, iv 1, rv zd919, iv 9, u_, u_] [(.int p5), (.int p4), (.int p3), (.int p2), (.int 1), (.int 1), (.ref zd919)]) (fun _ k => XS.iloadN X926.here hx rfl (hb hby at_95) rfl  (XS.iload X926.here hx rfl (hb hby at_96) rfl  k)) ?_
      obtain ⟨v932, T932, L932, X932, hQ932, st932⟩ := own_callS X926 hx hZ (y := own_y10) (W := 0) hown (own_h hw 78 rfl) (own_h hw 79 rfl) (own_h hw 80 rfl) (own_h hw 81 rfl) (by decide) (own_rmput1_1 l Z a0 hw [] zd919 p2 p3 p4 p5 zkd919 (9 : Int32) (.ref zsn926) (.ref zsv926) (.ref zss926) (.ref zsl926) .null .null .null .null .null .null .null .null .null gC T926.heap n0 Z926 g_zd919 q926_0 q919_1 f927 hG (by decide) (by decide) (by decide) (by decide) (by decide)) (by decide) (by decide) (g := (mkF m 98 #[iv p1, iv p2, iv p3, iv p4, iv p5, iv 2, iv 1, rv zd919, iv 9, u_, u_] [(.int p5), (.int p4), (.int p3), (.int p2), (.int 1), (.int 1), (.ref zd919)])) rfl (by rw [hml]; rfl) (argsL := [(.ref zd919), (.int 1), (.int 1), (.int p2), (.int p3), (.int p4), (.int p5)]) (rest := []) rfl (lenOf own_pd14 rfl) rfl (by show 2 * 0 + _ ≤ _; exact Nat.le_of_eq rfl) (hb hby at_98) rfl (by decide) (by decide)
      obtain ⟨zsn932, zbn932, zkn932, zsv932, zbv932, zkv932, zss932, zbs932, zks932, zsl932, zbl932, zkl932, rfl, Nq932, Kq932, g_zsn932, sq_zsn932, g_zbn932, sq_zbn932, g_zsv932, sq_zsv932, g_zbv932, sq_zbv932, g_zss932, sq_zss932, g_zbs932, sq_zbs932, g_zsl932, sq_zsl932, g_zbl932, sq_zbl932, q932_0, q932_1, q932_2, q932_3, q932_4, q932_5, q932_6, q932_7, q932_8, q932_9, q932_10, q932_11, q932_12, q932_13, q932_14, q932_15, q932_16⟩ := hQ932
      have N932 := Fr.app N926 Nq932
      have f933 := own_staKeepW f927 Kq932 (allS q926_0.nostat all0)
      have f934 := own_staKeepW f928 Kq932 (allS q926_0.nostat all0)
      have f935 := own_staKeepW f929 Kq932 (allS q926_0.nostat all0)
      have f936 := f930.keep Kq932 (ninS (own_nl pr3.lt sq_zd919) nin0)
      have f937 := own_staKeepW f931 Kq932 (allS q926_0.nostat all0)
      have f938 := q926_1.keep Kq932
      have f939 := q926_2.keep Kq932 (ninS (Ne.symm (own_nl q919_0.lt sq_zsn926)) nin0)
      have f940 := q926_3.keep Kq932 (ninS (Ne.symm (own_nl q919_0.lt sq_zsn926)) nin0)
      have f941 := q926_4.keep Kq932 (ninS (Ne.symm (own_nl q919_0.lt sq_zbn926)) nin0)
      have f942 := q926_5.keep Kq932
      have f943 := q926_6.keep Kq932 (ninS (Ne.symm (own_nl q919_0.lt sq_zsv926)) nin0)
      have f944 := q926_7.keep Kq932 (ninS (Ne.symm (own_nl q919_0.lt sq_zsv926)) nin0)
      have f945 := q926_8.keep Kq932 (ninS (Ne.symm (own_nl q919_0.lt sq_zbv926)) nin0)
      have f946 := q926_9.keep Kq932
      have f947 := q926_10.keep Kq932 (ninS (Ne.symm (own_nl q919_0.lt sq_zss926)) nin0)
      have f948 := q926_11.keep Kq932 (ninS (Ne.symm (own_nl q919_0.lt sq_zss926)) nin0)
      have f949 := q926_12.keep Kq932 (ninS (Ne.symm (own_nl q919_0.lt sq_zbs926)) nin0)
      have f950 := q926_13.keep Kq932
      have f951 := q926_14.keep Kq932 (ninS (Ne.symm (own_nl q919_0.lt sq_zsl926)) nin0)
      have f952 := q926_15.keep Kq932 (ninS (Ne.symm (own_nl q919_0.lt sq_zsl926)) nin0)
      have f953 := q926_16.keep Kq932 (ninS (Ne.symm (own_nl q919_0.lt sq_zbl926)) nin0)
      have Z932 := Nat.le_trans Z926 Kq932.1
      have hk932 := Nat.le_trans hk926 Kq932.1
      refine own_s T932 (mkF m 101 #[iv p1, iv p2, iv p3, iv p4, iv p5, iv 2, iv 1, rv zd919, iv 9, u_, u_] []) st932 ?_
      refine own_s T932 (mkF m 128 #[iv p1, iv p2, iv p3, iv p4, iv p5, iv 2, iv 1, rv zd919, iv 9, u_, u_] []) (fun _ k => XS.iload X932.here hx rfl (hb hby at_101) rfl  (XS.iconst X932.here hx rfl (hb hby at_103) (XS.icmpYes X932.here hx rfl (pc0 := 104) (pc' := 120) rfl (hb hby at_104) rfl (flt (by decide : ¬ ((2 : Int32) < (2 : Int32)))).2.2.2 (by decide) (by decide) (XS.iload X932.here hx rfl (hb hby at_120) rfl  (XS.iconst X932.here hx rfl (hb hby at_122) (iremM X932 hx rfl (hb hby at_123) rfl (by decide) (XS.iconst X932.here hx rfl (hb hby at_124) (XS.icmpNo X932.here hx rfl (hb hby at_125) rfl (teq (by decide)).2 k)))))))) ?_
      refine own_s T932 (mkF m 134 #[iv p1, iv p2, iv p3, iv p4, iv p5, iv 2, iv 1, rv zd919, iv 9, u_, u_] [(.int 8), (.ref zd919)]) (fun _ k => XS.aload X932.here hx rfl (hb hby at_128) rfl rfl (XS.iload X932.here hx rfl (hb hby at_130) rfl  (XS.iconst X932.here hx rfl (hb hby at_132) (XS.isub X932.here hx rfl (hb hby at_133) rfl k)))) ?_
      obtain ⟨cl954, Ar954, q954, S954, Nn954, H954, G954⟩ := id q932_0
      have hin954 : ¬ ((8 : Int32) < 0 ∨ cl954.slots.size ≤ ((8 : Int32)).toNatClampNeg) := (inb_of S954 ⟨by decide, by decide⟩)
      refine own_s T932 (mkF m 140 #[iv p1, iv p2, iv p3, iv p4, iv p5, iv 2, iv 1, rv zd919, iv 9, u_, u_] []) (fun _ k => X932.aaload hx (j := (8 : Int32)) (v := .null) (own_at rfl Ar954.1) (State.isArrayOf_alike hZ.alike Ar954.2.1) rfl Ar954.2.2 hin954 (Has.at H954 hin954 rfl) (g := (mkF m 134 #[iv p1, iv p2, iv p3, iv p4, iv p5, iv 2, iv 1, rv zd919, iv 9, u_, u_] [(.int 8), (.ref zd919)])) rfl rfl (hb hby at_134) _ (XS.ifnullYes X932.here hx rfl (pc0 := 135) (pc' := 140) rfl (hb hby at_135) rfl (by decide) (by decide) k)) ?_
      obtain ⟨T955, h955, X955, e955, E955, A955, D955, -, st955⟩ := newO X932 hx hZ hown (own_h hw 6 rfl) (own_h hw 7 rfl) (own_h hw 2 rfl) rfl (g := (mkF m 140 #[iv p1, iv p2, iv p3, iv p4, iv p5, iv 2, iv 1, rv zd919, iv 9, u_, u_] [])) rfl (hb hby at_140) (by decide) (by decide)
      obtain ⟨b955, g955⟩ : ∃ z, z = T932.heap.size := ⟨_, rfl⟩
      have g_b955 : n0 ≤ b955 := Nat.le_trans Z932 (Nat.le_of_eq g955.symm)
      rw [← g955] at A955 D955 st955
      have f956 := Sta.ext E955 f933
      have f957 := Sta.ext E955 f934
      have f958 := Sta.ext E955 f935
      have f959 := f936.ext E955
      have f960 := Sta.ext E955 f937
      have f961 := Exa.ext E955 f938
      have f962 := Fld.ext E955 f939
      have f963 := Fld.ext E955 f940
      have f964 := f941.ext E955
      have f965 := Exa.ext E955 f942
      have f966 := Fld.ext E955 f943
      have f967 := Fld.ext E955 f944
      have f968 := f945.ext E955
      have f969 := Exa.ext E955 f946
      have f970 := Fld.ext E955 f947
      have f971 := Fld.ext E955 f948
      have f972 := f949.ext E955
      have f973 := Exa.ext E955 f950
      have f974 := Fld.ext E955 f951
      have f975 := Fld.ext E955 f952
      have f976 := f953.ext E955
      have f977 := q932_0.ext E955
      have f978 := Exa.ext E955 q932_1
      have f979 := Fld.ext E955 q932_2
      have f980 := Fld.ext E955 q932_3
      have f981 := q932_4.ext E955
      have f982 := Exa.ext E955 q932_5
      have f983 := Fld.ext E955 q932_6
      have f984 := Fld.ext E955 q932_7
      have f985 := q932_8.ext E955
      have f986 := Exa.ext E955 q932_9
      have f987 := Fld.ext E955 q932_10
      have f988 := Fld.ext E955 q932_11
      have f989 := q932_12.ext E955
      have f990 := Exa.ext E955 q932_13
      have f991 := Fld.ext E955 q932_14
      have f992 := Fld.ext E955 q932_15
      have f993 := q932_16.ext E955
      have Z955 := Nat.le_trans Z932 E955.1
      have hk955 := Nat.le_trans hk932 E955.1
      have f994 : Fld Z h955 b955 "com/example/tagwright/tagwright/XmlElement" "children" "Ljava/util/List;" .null := D955 (Or.inl (own_h hw 49 rfl)) (ty := (.object "java/util/List")) (by decide)
      have f995 : Fld Z h955 b955 "com/example/tagwright/tagwright/XmlElement" "namespace" "Ljava/lang/String;" .null := D955 (Or.inr (own_h hw 51 rfl)) (ty := (.object "java/lang/String")) (by decide)
      have f996 : Fld Z h955 b955 "com/example/tagwright/tagwright/XmlElement" "localName" "Ljava/lang/String;" .null := D955 (Or.inr (own_h hw 53 rfl)) (ty := (.object "java/lang/String")) (by decide)
      have f997 : Fld Z h955 b955 "com/example/tagwright/tagwright/XmlElement" "tagName" "Ljava/lang/String;" .null := D955 (Or.inr (own_h hw 55 rfl)) (ty := (.object "java/lang/String")) (by decide)
      have f998 : Fld Z h955 b955 "com/example/tagwright/tagwright/XmlElement" "declarations" "Ljava/util/List;" .null := D955 (Or.inr (own_h hw 57 rfl)) (ty := (.object "java/util/List")) (by decide)
      have f999 : Fld Z h955 b955 "com/example/tagwright/tagwright/XmlElement" "attributes" "[Ljava/lang/String;" .null := D955 (Or.inr (own_h hw 61 rfl)) (ty := (.array (.object "java/lang/String"))) (by decide)
      have f1000 : Fld Z h955 b955 "com/example/tagwright/tagwright/XmlElement" "stride" "B" (.int 0) := D955 (Or.inr (own_h hw 66 rfl)) (ty := .byte) (by decide)
      have f1001 : Fld Z h955 b955 "com/example/tagwright/tagwright/XmlElement" "location" "Lcom/example/tagwright/tagwright/Location;" .null := D955 (Or.inr (own_h hw 68 rfl)) (ty := (.object "com/example/tagwright/tagwright/Location")) (by decide)
      have f1002 : Fld Z h955 b955 "com/example/tagwright/tagwright/XmlElement" "parent" "Lcom/example/tagwright/tagwright/XmlElement;" .null := D955 (Or.inr (own_h hw 70 rfl)) (ty := (.object "com/example/tagwright/tagwright/XmlElement")) (by decide)
      have f1003 : Fld Z h955 b955 "com/example/tagwright/tagwright/XmlElement" "index" "I" (.int 0) := D955 (Or.inr (own_h hw 72 rfl)) (ty := .int) (by decide)
      refine own_s T955 (mkF m 143 #[iv p1, iv p2, iv p3, iv p4, iv p5, iv 2, iv 1, rv zd919, iv 9, u_, u_] [(.ref b955)]) st955 ?_
      refine own_s T955 (mkF m 145 #[iv p1, iv p2, iv p3, iv p4, iv p5, iv 2, iv 1, rv zd919, iv 9, u_, u_] [.null, (.ref b955), (.ref b955)]) (fun _ k => XS.dup X955.here hx rfl (hb hby at_143) rfl rfl (XS.aconstNull X955.here hx rfl (hb hby at_144) k)) ?_
      obtain ⟨sl1004, T1004, h1004, kk1004, X1004, e1004, E1004, hS, hk1004, hZ, hown, st1004⟩ := ldcS (s := s) X955 hx hZ hown (own_h hw 8 rfl) (own_wS hw) e955 hS hk955 (g := (mkF m 145 #[iv p1, iv p2, iv p3, iv p4, iv p5, iv 2, iv 1, rv zd919, iv 9, u_, u_] [.null, (.ref b955), (.ref b955)])) rfl (hb hby at_145) (n := 4) (by decide) (by decide) (by decide) (by decide)
      have f1005 := Sta.ext E1004 f956
      have f1006 := Sta.ext E1004 f957
      have f1007 := Sta.ext E1004 f958
      have f1008 := f959.ext E1004
      have f1009 := Sta.ext E1004 f960
      have f1010 := Exa.ext E1004 f961
      have f1011 := Fld.ext E1004 f962
      have f1012 := Fld.ext E1004 f963
      have f1013 := f964.ext E1004
      have f1014 := Exa.ext E1004 f965
      have f1015 := Fld.ext E1004 f966
      have f1016 := Fld.ext E1004 f967
      have f1017 := f968.ext E1004
      have f1018 := Exa.ext E1004 f969
      have f1019 := Fld.ext E1004 f970
      have f1020 := Fld.ext E1004 f971
      have f1021 := f972.ext E1004
      have f1022 := Exa.ext E1004 f973
      have f1023 := Fld.ext E1004 f974
      have f1024 := Fld.ext E1004 f975
      have f1025 := f976.ext E1004
      have f1026 := f977.ext E1004
      have f1027 := Exa.ext E1004 f978
      have f1028 := Fld.ext E1004 f979
      have f1029 := Fld.ext E1004 f980
      have f1030 := f981.ext E1004
      have f1031 := Exa.ext E1004 f982
      have f1032 := Fld.ext E1004 f983
      have f1033 := Fld.ext E1004 f984
      have f1034 := f985.ext E1004
      have f1035 := Exa.ext E1004 f986
      have f1036 := Fld.ext E1004 f987
      have f1037 := Fld.ext E1004 f988
      have f1038 := f989.ext E1004
      have f1039 := Exa.ext E1004 f990
      have f1040 := Fld.ext E1004 f991
      have f1041 := Fld.ext E1004 f992
      have f1042 := f993.ext E1004
      have f1043 := Exa.ext E1004 A955
      have f1044 := Fld.ext E1004 f994
      have f1045 := Fld.ext E1004 f995
      have f1046 := Fld.ext E1004 f996
      have f1047 := Fld.ext E1004 f997
      have f1048 := Fld.ext E1004 f998
      have f1049 := Fld.ext E1004 f999
      have f1050 := Fld.ext E1004 f1000
      have f1051 := Fld.ext E1004 f1001
      have f1052 := Fld.ext E1004 f1002
      have f1053 := Fld.ext E1004 f1003
      have Z1004 := Nat.le_trans Z955 E1004.1
      refine own_s T1004 (mkF m 147 #[iv p1, iv p2, iv p3, iv p4, iv p5, iv 2, iv 1, rv zd919, iv 9, u_, u_] [(.ref sl1004), .null, (.ref b955), (.ref b955)]) st1004 ?_
      obtain ⟨sl1054, T1054, h1054, kk1054, X1054, e1054, E1054, hS, hk1054, hZ, hown, st1054⟩ := ldcS (s := s) X1004 hx hZ hown (own_h hw 8 rfl) (own_wS hw) e1004 hS hk1004 (g := (mkF m 147 #[iv p1, iv p2, iv p3, iv p4, iv p5, iv 2, iv 1, rv zd919, iv 9, u_, u_] [(.ref sl1004), .null, (.ref b955), (.ref b955)])) rfl (hb hby at_147) (n := 4) (by decide) (by decide) (by decide) (by decide)
      have f1055 := Sta.ext E1054 f1005
      have f1056 := Sta.ext E1054 f1006
      have f1057 := Sta.ext E1054 f1007
      have f1058 := f1008.ext E1054
      have f1059 := Sta.ext E1054 f1009
      have f1060 := Exa.ext E1054 f1010
      have f1061 := Fld.ext E1054 f1011
      have f1062 := Fld.ext E1054 f1012
      have f1063 := f1013.ext E1054
      have f1064 := Exa.ext E1054 f1014
      have f1065 := Fld.ext E1054 f1015
      have f1066 := Fld.ext E1054 f1016
      have f1067 := f1017.ext E1054
      have f1068 := Exa.ext E1054 f1018
      have f1069 := Fld.ext E1054 f1019
      have f1070 := Fld.ext E1054 f1020
      have f1071 := f1021.ext E1054
      have f1072 := Exa.ext E1054 f1022
      have f1073 := Fld.ext E1054 f1023
      have f1074 := Fld.ext E1054 f1024
      have f1075 := f1025.ext E1054
      have f1076 := f1026.ext E1054
      have f1077 := Exa.ext E1054 f1027
      have f1078 := Fld.ext E1054 f1028
      have f1079 := Fld.ext E1054 f1029
      have f1080 := f1030.ext E1054
      have f1081 := Exa.ext E1054 f1031
      have f1082 := Fld.ext E1054 f1032
      have f1083 := Fld.ext E1054 f1033
      have f1084 := f1034.ext E1054
      have f1085 := Exa.ext E1054 f1035
      have f1086 := Fld.ext E1054 f1036
      have f1087 := Fld.ext E1054 f1037
      have f1088 := f1038.ext E1054
      have f1089 := Exa.ext E1054 f1039
      have f1090 := Fld.ext E1054 f1040
      have f1091 := Fld.ext E1054 f1041
      have f1092 := f1042.ext E1054
      have f1093 := Exa.ext E1054 f1043
      have f1094 := Fld.ext E1054 f1044
      have f1095 := Fld.ext E1054 f1045
      have f1096 := Fld.ext E1054 f1046
      have f1097 := Fld.ext E1054 f1047
      have f1098 := Fld.ext E1054 f1048
      have f1099 := Fld.ext E1054 f1049
      have f1100 := Fld.ext E1054 f1050
      have f1101 := Fld.ext E1054 f1051
      have f1102 := Fld.ext E1054 f1052
      have f1103 := Fld.ext E1054 f1053
      have Z1054 := Nat.le_trans Z1004 E1054.1
      refine own_s T1054 (mkF m 149 #[iv p1, iv p2, iv p3, iv p4, iv p5, iv 2, iv 1, rv zd919, iv 9, u_, u_] [(.ref sl1054), (.ref sl1004), .null, (.ref b955), (.ref b955)]) st1054 ?_
      obtain ⟨T1104, h1104, X1104, e1104, E1104, A1104, D1104, -, st1104⟩ := newO X1054 hx hZ hown (own_h hw 16 rfl) (own_h hw 17 rfl) (own_h hw 18 rfl) e1054 (g := (mkF m 149 #[iv p1, iv p2, iv p3, iv p4, iv p5, iv 2, iv 1, rv zd919, iv 9, u_, u_] [(.ref sl1054), (.ref sl1004), .null, (.ref b955), (.ref b955)])) rfl (hb hby at_149) (by decide) (by decide)
      obtain ⟨b1104, g1104⟩ : ∃ z, z = h1054.size := ⟨_, rfl⟩
      have g_b1104 : n0 ≤ b1104 := Nat.le_trans Z1054 (Nat.le_of_eq g1104.symm)
      rw [← g1104] at A1104 D1104 st1104
      have f1105 := Sta.ext E1104 f1055
      have f1106 := Sta.ext E1104 f1056
      have f1107 := Sta.ext E1104 f1057
      have f1108 := f1058.ext E1104
      have f1109 := Sta.ext E1104 f1059
      have f1110 := Exa.ext E1104 f1060
      have f1111 := Fld.ext E1104 f1061
      have f1112 := Fld.ext E1104 f1062
      have f1113 := f1063.ext E1104
      have f1114 := Exa.ext E1104 f1064
      have f1115 := Fld.ext E1104 f1065
      have f1116 := Fld.ext E1104 f1066
      have f1117 := f1067.ext E1104
      have f1118 := Exa.ext E1104 f1068
      have f1119 := Fld.ext E1104 f1069
      have f1120 := Fld.ext E1104 f1070
      have f1121 := f1071.ext E1104
      have f1122 := Exa.ext E1104 f1072
      have f1123 := Fld.ext E1104 f1073
      have f1124 := Fld.ext E1104 f1074
      have f1125 := f1075.ext E1104
      have f1126 := f1076.ext E1104
      have f1127 := Exa.ext E1104 f1077
      have f1128 := Fld.ext E1104 f1078
      have f1129 := Fld.ext E1104 f1079
      have f1130 := f1080.ext E1104
      have f1131 := Exa.ext E1104 f1081
      have f1132 := Fld.ext E1104 f1082
      have f1133 := Fld.ext E1104 f1083
      have f1134 := f1084.ext E1104
      have f1135 := Exa.ext E1104 f1085
      have f1136 := Fld.ext E1104 f1086
      have f1137 := Fld.ext E1104 f1087
      have f1138 := f1088.ext E1104
      have f1139 := Exa.ext E1104 f1089
      have f1140 := Fld.ext E1104 f1090
      have f1141 := Fld.ext E1104 f1091
      have f1142 := f1092.ext E1104
      have f1143 := Exa.ext E1104 f1093
      have f1144 := Fld.ext E1104 f1094
      have f1145 := Fld.ext E1104 f1095
      have f1146 := Fld.ext E1104 f1096
      have f1147 := Fld.ext E1104 f1097
      have f1148 := Fld.ext E1104 f1098
      have f1149 := Fld.ext E1104 f1099
      have f1150 := Fld.ext E1104 f1100
      have f1151 := Fld.ext E1104 f1101
      have f1152 := Fld.ext E1104 f1102
      have f1153 := Fld.ext E1104 f1103
      have Z1104 := Nat.le_trans Z1054 E1104.1
      have hk1104 := Nat.le_trans hk1054 E1104.1
      have f1154 : Fld Z h1104 b1104 "java/util/AbstractList" "modCount" "I" (.int 0) := D1104 (Or.inl (own_h hw 38 rfl)) (ty := .int) (by decide)
      have f1155 : Fld Z h1104 b1104 "java/util/ArrayList" "elementData" "[Ljava/lang/Object;" .null := D1104 (Or.inl (own_h hw 41 rfl)) (ty := (.array (.object "java/lang/Object"))) (by decide)
      refine own_s T1104 (mkF m 152 #[iv p1, iv p2, iv p3, iv p4, iv p5, iv 2, iv 1, rv zd919, iv 9, u_, u_] [(.ref b1104), (.ref sl1054), (.ref sl1004), .null, (.ref b955), (.ref b955)]) st1104 ?_
      refine own_s T1104 (mkF m 153 #[iv p1, iv p2, iv p3, iv p4, iv p5, iv 2, iv 1, rv zd919, iv 9, u_, u_] [(.ref b1104), (.ref b1104), (.ref sl1054), (.ref sl1004), .null, (.ref b955), (.ref b955)]) (fun _ k => XS.dup X1104.here hx rfl (hb hby at_152) rfl rfl k) ?_
      obtain ⟨v1156, T1156, L1156, X1156, hQ1156, st1156⟩ := own_callI X1104 hx hZ (y := own_y20) (W := 6) (a := b1104) rfl hown (own_h hw 19 rfl) (own_h hw 20 rfl) (own_h hw 18 rfl) (own_h hw 21 rfl) (by decide) (own_rmal l Z a0 hw [] b1104 oD h1104 n0 Z1104 g_b1104 f1109 A1104 f1154 f1155) (by decide) (by decide) (g := (mkF m 153 #[iv p1, iv p2, iv p3, iv p4, iv p5, iv 2, iv 1, rv zd919, iv 9, u_, u_] [(.ref b1104), (.ref b1104), (.ref sl1054), (.ref sl1004), .null, (.ref b955), (.ref b955)])) rfl (by rw [hml]; rfl) (argsL := []) (rest := [(.ref b1104), (.ref sl1054), (.ref sl1004), .null, (.ref b955), (.ref b955)]) rfl (lenOf own_pd10 rfl) rfl (by show 2 * 0 + _ ≤ _; exact Nat.le_of_eq rfl) (hb hby at_153) e1104 (by decide) (by decide)
      obtain ⟨rfl, Nq1156, Kq1156, q1156_0⟩ := hQ1156
      have N1156 := Fr.app N932 Nq1156
      have f1157 := own_staKeepW f1105 Kq1156 (allS A1104.nostat all0)
      have f1158 := own_staKeepW f1106 Kq1156 (allS A1104.nostat all0)
      have f1159 := own_staKeepW f1107 Kq1156 (allS A1104.nostat all0)
      have f1160 := f1108.keep Kq1156 (ninS (own_nf f1058.lt g1104) nin0)
      have f1161 := own_staKeepW f1109 Kq1156 (allS A1104.nostat all0)
      have f1162 := f1110.keep Kq1156
      have f1163 := f1111.keep Kq1156 (ninS (own_nf f1060.lt g1104) nin0)
      have f1164 := f1112.keep Kq1156 (ninS (own_nf f1060.lt g1104) nin0)
      have f1165 := f1113.keep Kq1156 (ninS (own_nf f1063.lt g1104) nin0)
      have f1166 := f1114.keep Kq1156
      have f1167 := f1115.keep Kq1156 (ninS (own_nf f1064.lt g1104) nin0)
      have f1168 := f1116.keep Kq1156 (ninS (own_nf f1064.lt g1104) nin0)
      have f1169 := f1117.keep Kq1156 (ninS (own_nf f1067.lt g1104) nin0)
      have f1170 := f1118.keep Kq1156
      have f1171 := f1119.keep Kq1156 (ninS (own_nf f1068.lt g1104) nin0)
      have f1172 := f1120.keep Kq1156 (ninS (own_nf f1068.lt g1104) nin0)
      have f1173 := f1121.keep Kq1156 (ninS (own_nf f1071.lt g1104) nin0)
      have f1174 := f1122.keep Kq1156
      have f1175 := f1123.keep Kq1156 (ninS (own_nf f1072.lt g1104) nin0)
      have f1176 := f1124.keep Kq1156 (ninS (own_nf f1072.lt g1104) nin0)
      have f1177 := f1125.keep Kq1156 (ninS (own_nf f1075.lt g1104) nin0)
      have f1178 := f1126.keep Kq1156 (ninS (own_nf f1076.lt g1104) nin0)
      have f1179 := f1127.keep Kq1156
      have f1180 := f1128.keep Kq1156 (ninS (own_nf f1077.lt g1104) nin0)
      have f1181 := f1129.keep Kq1156 (ninS (own_nf f1077.lt g1104) nin0)
      have f1182 := f1130.keep Kq1156 (ninS (own_nf f1080.lt g1104) nin0)
      have f1183 := f1131.keep Kq1156
      have f1184 := f1132.keep Kq1156 (ninS (own_nf f1081.lt g1104) nin0)
      have f1185 := f1133.keep Kq1156 (ninS (own_nf f1081.lt g1104) nin0)
      have f1186 := f1134.keep Kq1156 (ninS (own_nf f1084.lt g1104) nin0)
      have f1187 := f1135.keep Kq1156
      have f1188 := f1136.keep Kq1156 (ninS (own_nf f1085.lt g1104) nin0)
      have f1189 := f1137.keep Kq1156 (ninS (own_nf f1085.lt g1104) nin0)
      have f1190 := f1138.keep Kq1156 (ninS (own_nf f1088.lt g1104) nin0)
      have f1191 := f1139.keep Kq1156
      have f1192 := f1140.keep Kq1156 (ninS (own_nf f1089.lt g1104) nin0)
      have f1193 := f1141.keep Kq1156 (ninS (own_nf f1089.lt g1104) nin0)
      have f1194 := f1142.keep Kq1156 (ninS (own_nf f1092.lt g1104) nin0)
      have f1195 := f1143.keep Kq1156
      have f1196 := f1144.keep Kq1156 (ninS (own_nf f1093.lt g1104) nin0)
      have f1197 := f1145.keep Kq1156 (ninS (own_nf f1093.lt g1104) nin0)
      have f1198 := f1146.keep Kq1156 (ninS (own_nf f1093.lt g1104) nin0)
      have f1199 := f1147.keep Kq1156 (ninS (own_nf f1093.lt g1104) nin0)
      have f1200 := f1148.keep Kq1156 (ninS (own_nf f1093.lt g1104) nin0)
      have f1201 := f1149.keep Kq1156 (ninS (own_nf f1093.lt g1104) nin0)
      have f1202 := f1150.keep Kq1156 (ninS (own_nf f1093.lt g1104) nin0)
      have f1203 := f1151.keep Kq1156 (ninS (own_nf f1093.lt g1104) nin0)
      have f1204 := f1152.keep Kq1156 (ninS (own_nf f1093.lt g1104) nin0)
      have f1205 := f1153.keep Kq1156 (ninS (own_nf f1093.lt g1104) nin0)
      have f1206 := A1104.keep Kq1156
      have Z1156 := Nat.le_trans Z1104 Kq1156.1
      have hk1156 := Nat.le_trans hk1104 Kq1156.1
      refine own_s T1156 (mkF m 156 #[iv p1, iv p2, iv p3, iv p4, iv p5, iv 2, iv 1, rv zd919, iv 9, u_, u_] [(.ref b1104), (.ref sl1054), (.ref sl1004), .null, (.ref b955), (.ref b955)]) st1156 ?_
      refine own_s T1156 (mkF m 160 #[iv p1, iv p2, iv p3, iv p4, iv p5, iv 2, iv 1, rv zd919, iv 9, u_, u_] [.null, .null, (.ref zd919), (.ref b1104), (.ref sl1054), (.ref sl1004), .null, (.ref b955), (.ref b955)]) (fun _ k => XS.aload X1156.here hx rfl (hb hby at_156) rfl rfl (XS.aconstNull X1156.here hx rfl (hb hby at_158) (XS.aconstNull X1156.here hx rfl (hb hby at_159) k))) ?_
      obtain ⟨v1207, T1207, L1207, X1207, hQ1207, st1207⟩ := own_callI X1156 hx hZ (y := own_y11) (W := 1) (a := b955) rfl hown (own_h hw 42 rfl) (own_h hw 43 rfl) (own_h hw 2 rfl) (own_h hw 44 rfl) (by decide) (own_rmxi_o l Z a0 hw [] b955 sl1004 sl1054 b1104 zd919 oN oA zkd919 [(.ref zsn926), (.ref zsv926), (.ref zss926), (.ref zsl926), (.ref zsn932), (.ref zsv932), (.ref zss932), (.ref zsl932), .null, .null, .null, .null, .null] (9 : Int32) T1156.heap n0 Z1156 g_b955 f1195 f1196 f1197 f1198 f1199 f1200 f1201 f1202 f1203 f1204 f1205 f1158 f1159 f1178 (Ne.symm (own_nf q932_0.lt g955)) (by decide) (by decide)) (by decide) (by decide) (g := (mkF m 160 #[iv p1, iv p2, iv p3, iv p4, iv p5, iv 2, iv 1, rv zd919, iv 9, u_, u_] [.null, .null, (.ref zd919), (.ref b1104), (.ref sl1054), (.ref sl1004), .null, (.ref b955), (.ref b955)])) rfl (by rw [hml]; rfl) (argsL := [.null, (.ref sl1004), (.ref sl1054), (.ref b1104), (.ref zd919), .null, .null]) (rest := [(.ref b955)]) rfl (lenOf own_pd12 rfl) rfl (by show 2 * 0 + _ ≤ _; exact Nat.le_of_eq rfl) (hb hby at_160) rfl (by decide) (by decide)
      obtain ⟨rfl, Nq1207, Kq1207, q1207_0, q1207_1, q1207_2⟩ := hQ1207
      have N1207 := Fr.app N1156 Nq1207
      have f1208 := own_staKeepW f1157 Kq1207 (allS f1195.nostat all0)
      have f1209 := own_staKeepW f1158 Kq1207 (allS f1195.nostat all0)
      have f1210 := own_staKeepW f1159 Kq1207 (allS f1195.nostat all0)
      have f1211 := f1160.keep Kq1207 (ninS (own_nf f936.lt g955) nin0)
      have f1212 := own_staKeepW f1161 Kq1207 (allS f1195.nostat all0)
      have f1213 := f1162.keep Kq1207
      have f1214 := f1163.keep Kq1207 (ninS (own_nf f938.lt g955) nin0)
      have f1215 := f1164.keep Kq1207 (ninS (own_nf f938.lt g955) nin0)
      have f1216 := f1165.keep Kq1207 (ninS (own_nf f941.lt g955) nin0)
      have f1217 := f1166.keep Kq1207
      have f1218 := f1167.keep Kq1207 (ninS (own_nf f942.lt g955) nin0)
      have f1219 := f1168.keep Kq1207 (ninS (own_nf f942.lt g955) nin0)
      have f1220 := f1169.keep Kq1207 (ninS (own_nf f945.lt g955) nin0)
      have f1221 := f1170.keep Kq1207
      have f1222 := f1171.keep Kq1207 (ninS (own_nf f946.lt g955) nin0)
      have f1223 := f1172.keep Kq1207 (ninS (own_nf f946.lt g955) nin0)
      have f1224 := f1173.keep Kq1207 (ninS (own_nf f949.lt g955) nin0)
      have f1225 := f1174.keep Kq1207
      have f1226 := f1175.keep Kq1207 (ninS (own_nf f950.lt g955) nin0)
      have f1227 := f1176.keep Kq1207 (ninS (own_nf f950.lt g955) nin0)
      have f1228 := f1177.keep Kq1207 (ninS (own_nf f953.lt g955) nin0)
      have f1229 := f1178.keep Kq1207 (ninS (own_nf q932_0.lt g955) nin0)
      have f1230 := f1179.keep Kq1207
      have f1231 := f1180.keep Kq1207 (ninS (own_nf q932_1.lt g955) nin0)
      have f1232 := f1181.keep Kq1207 (ninS (own_nf q932_1.lt g955) nin0)
      have f1233 := f1182.keep Kq1207 (ninS (own_nf q932_4.lt g955) nin0)
      have f1234 := f1183.keep Kq1207
      have f1235 := f1184.keep Kq1207 (ninS (own_nf q932_5.lt g955) nin0)
      have f1236 := f1185.keep Kq1207 (ninS (own_nf q932_5.lt g955) nin0)
      have f1237 := f1186.keep Kq1207 (ninS (own_nf q932_8.lt g955) nin0)
      have f1238 := f1187.keep Kq1207
      have f1239 := f1188.keep Kq1207 (ninS (own_nf q932_9.lt g955) nin0)
      have f1240 := f1189.keep Kq1207 (ninS (own_nf q932_9.lt g955) nin0)
      have f1241 := f1190.keep Kq1207 (ninS (own_nf q932_12.lt g955) nin0)
      have f1242 := f1191.keep Kq1207
      have f1243 := f1192.keep Kq1207 (ninS (own_nf q932_13.lt g955) nin0)
      have f1244 := f1193.keep Kq1207 (ninS (own_nf q932_13.lt g955) nin0)
      have f1245 := f1194.keep Kq1207 (ninS (own_nf q932_16.lt g955) nin0)
      have f1246 := f1195.keep Kq1207
      have f1247 := q1156_0.keep Kq1207
      have Z1207 := Nat.le_trans Z1156 Kq1207.1
      have hk1207 := Nat.le_trans hk1156 Kq1207.1
      refine own_s T1207 (mkF m 163 #[iv p1, iv p2, iv p3, iv p4, iv p5, iv 2, iv 1, rv zd919, iv 9, u_, u_] [(.ref b955)]) st1207 ?_
      refine own_s T1207 (mkF m 167 #[iv p1, iv p2, iv p3, iv p4, iv p5, iv 2, iv 1, rv zd919, iv 9, rv b955, u_] [(.ref b955)]) (fun _ k => XS.astore X1207.here hx rfl (hb hby at_163) rfl rfl (l' := #[iv p1, iv p2, iv p3, iv p4, iv p5, iv 2, iv 1, rv zd919, iv 9, rv b955, u_]) rfl (XS.aload X1207.here hx rfl (hb hby at_165) rfl rfl k)) ?_
      obtain ⟨v1248, T1248, L1248, X1248, hQ1248, st1248⟩ := own_callV X1207 hx hZ (y := own_y12) (z := own_y12) (W := 0) (a := b955) hown (own_h hw 73 rfl) (own_h hw 74 rfl) (notFace_of_selects (args := #[]) (mvT hZ (own_h hw 76 rfl))) (own_h hw 76 rfl) (own_h hw 75 rfl) (own_h hw 2 rfl) (own_h hw 77 rfl) (by decide) (own_rmcnt4 l Z a0 hw [] b955 zd919 zkd919 [(.ref zsn926), (.ref zsv926), (.ref zss926), (.ref zsl926), (.ref zsn932), (.ref zsv932), (.ref zss932), (.ref zsl932), .null, .null, .null, .null, .null] (9 : Int32) T1207.heap n0 Z1207 q1207_1 q1207_2 f1229) (by decide) (by decide) q1207_0 (g := (mkF m 167 #[iv p1, iv p2, iv p3, iv p4, iv p5, iv 2, iv 1, rv zd919, iv 9, rv b955, u_] [(.ref b955)])) rfl (by rw [hml]; rfl) (argsL := []) (rest := []) rfl (lenOf own_pd13 rfl) rfl (by show 2 * 0 + _ ≤ _; exact Nat.le_of_eq rfl) (hb hby at_167) rfl (by decide) (by decide)
      obtain ⟨rfl, Nq1248, e1248⟩ := hQ1248
      have N1248 := Fr.app N1207 Nq1248
      refine own_s T1248 (mkF m 170 #[iv p1, iv p2, iv p3, iv p4, iv p5, iv 2, iv 1, rv zd919, iv 9, rv b955, u_] [(.int ((9 : Int32) / (4 : Int32)))]) st1248 ?_
      refine own_s T1248 (mkF m 190 #[iv p1, iv p2, iv p3, iv p4, iv p5, iv 2, iv 1, rv zd919, iv 9, rv b955, iv 1] []) (fun _ k => XS.iload X1248.here hx rfl (hb hby at_170) rfl  (XS.icmpYes X1248.here hx rfl (pc0 := 172) (pc' := 177) rfl (hb hby at_172) rfl (teq (by decide)).1 (by decide) (by decide) (XS.iconst X1248.here hx rfl (hb hby at_177) (XS.istore X1248.here hx rfl (hb hby at_178) rfl (l' := #[iv p1, iv p2, iv p3, iv p4, iv p5, iv 2, iv 1, rv zd919, iv 9, rv b955, iv 1]) rfl (XS.iload X1248.here hx rfl (hb hby at_180) rfl  (XS.ifNo X1248.here hx rfl (hb hby at_182) rfl ((if0 _ _).trans (tlt (by decide : ((0 : Int32) < (2 : Int32)))).2.2.2) (XS.iload X1248.here hx rfl (hb hby at_185) rfl  (XS.ifNo X1248.here hx rfl (hb hby at_187) rfl ((if0 _ _).trans (feq (by decide : ¬ ((1 : Int32) = (0 : Int32)))).1) k)))))))) ?_
      refine own_s T1248 (mkF m 200 #[iv p1, iv p2, iv p3, iv p4, iv p5, iv 2, iv 1, rv zd919, iv 9, rv b955, iv 1] [(.int p5), (.int p4), (.int p3), (.int p2), (.int 1), (.int 0), (.ref b955)]) (fun _ k => XS.aload X1248.here hx rfl (hb hby at_190) rfl rfl (XS.iconst X1248.here hx rfl (hb hby at_192) (XS.iload X1248.here hx rfl (hb hby at_193) rfl  (XS.iloadN X1248.here hx rfl (hb hby at_195) rfl  (XS.iloadN X1248.here hx rfl (hb hby at_196) rfl  (XS.iloadN X1248.here hx rfl (hb hby at_197) rfl  (XS.iload X1248.here hx rfl (hb hby at_198) rfl  k))))))) ?_
      obtain ⟨v1249, T1249, L1249, X1249, hQ1249, st1249⟩ := own_callS X1248 hx hZ (y := own_y17) (W := 0) hown (own_h hw 112 rfl) (own_h hw 113 rfl) (own_h hw 80 rfl) (own_h hw 114 rfl) (by decide) (own_rmchk0_1 l Z a0 hw [] b955 p2 p3 p4 p5 zd919 zkd919 (9 : Int32) zsn926 zsv926 zss926 zsl926 (.ref zsn932) (.ref zsv932) (.ref zss932) (.ref zsl932) .null .null .null .null .null zbn926 zkn926 zbv926 zkv926 zbs926 zks926 zbl926 zkl926 gC T1207.heap n0 Z1207 q1207_0 q1207_1 q1207_2 f1229 f1213 f1214 f1215 f1216 f1217 f1218 f1219 f1220 f1221 f1222 f1223 f1224 f1225 f1226 f1227 f1228 f1208 hG (by decide) (by decide) (by decide) (by decide)) (by decide) (by decide) (g := (mkF m 200 #[iv p1, iv p2, iv p3, iv p4, iv p5, iv 2, iv 1, rv zd919, iv 9, rv b955, iv 1] [(.int p5), (.int p4), (.int p3), (.int p2), (.int 1), (.int 0), (.ref b955)])) rfl (by rw [hml]; rfl) (argsL := [(.ref b955), (.int 0), (.int 1), (.int p2), (.int p3), (.int p4), (.int p5)]) (rest := []) rfl (lenOf own_pd15 rfl) rfl (by show 2 * 0 + _ ≤ _; exact Nat.le_of_eq rfl) (hb hby at_200) e1248 (by decide) (by decide)
      obtain ⟨rfl, Nq1249, Kq1249⟩ := hQ1249
      have N1249 := Fr.app N1248 Nq1249
      have f1250 := own_staKeep f1208 Kq1249
      have f1251 := own_staKeep f1209 Kq1249
      have f1252 := own_staKeep f1210 Kq1249
      have f1253 := f1211.keep Kq1249 nin0
      have f1254 := own_staKeep f1212 Kq1249
      have f1255 := f1213.keep Kq1249
      have f1256 := f1214.keep Kq1249 nin0
      have f1257 := f1215.keep Kq1249 nin0
      have f1258 := f1216.keep Kq1249 nin0
      have f1259 := f1217.keep Kq1249
      have f1260 := f1218.keep Kq1249 nin0
      have f1261 := f1219.keep Kq1249 nin0
      have f1262 := f1220.keep Kq1249 nin0
      have f1263 := f1221.keep Kq1249
      have f1264 := f1222.keep Kq1249 nin0
      have f1265 := f1223.keep Kq1249 nin0
      have f1266 := f1224.keep Kq1249 nin0
      have f1267 := f1225.keep Kq1249
      have f1268 := f1226.keep Kq1249 nin0
      have f1269 := f1227.keep Kq1249 nin0
      have f1270 := f1228.keep Kq1249 nin0
      have f1271 := f1229.keep Kq1249 nin0
      have f1272 := f1230.keep Kq1249
      have f1273 := f1231.keep Kq1249 nin0
      have f1274 := f1232.keep Kq1249 nin0
      have f1275 := f1233.keep Kq1249 nin0
      have f1276 := f1234.keep Kq1249
      have f1277 := f1235.keep Kq1249 nin0
      have f1278 := f1236.keep Kq1249 nin0
      have f1279 := f1237.keep Kq1249 nin0
      have f1280 := f1238.keep Kq1249
      have f1281 := f1239.keep Kq1249 nin0
      have f1282 := f1240.keep Kq1249 nin0
      have f1283 := f1241.keep Kq1249 nin0
      have f1284 := f1242.keep Kq1249
      have f1285 := f1243.keep Kq1249 nin0
      have f1286 := f1244.keep Kq1249 nin0
      have f1287 := f1245.keep Kq1249 nin0
      have f1288 := q1207_0.keep Kq1249
      have f1289 := f1247.keep Kq1249
      have f1290 := q1207_1.keep Kq1249 nin0
      have f1291 := q1207_2.keep Kq1249 nin0
      have Z1249 := Nat.le_trans Z1207 Kq1249.1
      have hk1249 := Nat.le_trans hk1207 Kq1249.1
      refine own_s T1249 (mkF m 203 #[iv p1, iv p2, iv p3, iv p4, iv p5, iv 2, iv 1, rv zd919, iv 9, rv b955, iv 1] [(.int 1)]) st1249 ?_
      refine own_s T1249 (mkF m 221 #[iv p1, iv p2, iv p3, iv p4, iv p5, iv 2, iv 1, rv zd919, iv 9, rv b955, iv 1] [(.int 1)]) (fun _ k => XS.ifNo X1249.here hx rfl (hb hby at_203) rfl ((if0 _ _).trans (feq (by decide : ¬ ((1 : Int32) = (0 : Int32)))).1) (XS.iconst X1249.here hx rfl (hb hby at_206) (XS.goto X1249.here hx rfl (pc0 := 207) (pc' := 211) rfl (hb hby at_207) (by decide) (by decide) (XS.istore X1249.here hx rfl (hb hby at_211) rfl (l' := #[iv p1, iv p2, iv p3, iv p4, iv p5, iv 2, iv 1, rv zd919, iv 9, rv b955, iv 1]) rfl (XS.iload X1249.here hx rfl (hb hby at_213) rfl  (XS.iconst X1249.here hx rfl (hb hby at_215) (XS.icmpNo X1249.here hx rfl (hb hby at_216) rfl (tlt (by decide : ((1 : Int32) < (2 : Int32)))).2.2.2 (XS.iload X1249.here hx rfl (hb hby at_219) rfl  k)))))))) ?_
      refine own_s T1249 (mkF m 234 #[iv p1, iv p2, iv p3, iv p4, iv p5, iv 2, iv 1, rv zd919, iv 9, rv b955, iv 1] [(.int p5), (.int p4), (.int p3), (.int p2), (.int 1), (.int 1), (.ref b955)]) (fun _ k => XS.ifNo X1249.here hx rfl (hb hby at_221) rfl ((if0 _ _).trans (feq (by decide : ¬ ((1 : Int32) = (0 : Int32)))).1) (XS.aload X1249.here hx rfl (hb hby at_224) rfl rfl (XS.iconst X1249.here hx rfl (hb hby at_226) (XS.iload X1249.here hx rfl (hb hby at_227) rfl  (XS.iloadN X1249.here hx rfl (hb hby at_229) rfl  (XS.iloadN X1249.here hx rfl (hb hby at_230) rfl  (XS.iloadN X1249.here hx rfl (hb hby at_231) rfl  (XS.iload X1249.here hx rfl (hb hby at_232) rfl  k)))))))) ?_
      obtain ⟨v1292, T1292, L1292, X1292, hQ1292, st1292⟩ := own_callS X1249 hx hZ (y := own_y17) (W := 0) hown (own_h hw 112 rfl) (own_h hw 113 rfl) (own_h hw 80 rfl) (own_h hw 114 rfl) (by decide) (own_rmchk1_1 l Z a0 hw [] b955 p2 p3 p4 p5 zd919 zkd919 (9 : Int32) (.ref zsn926) (.ref zsv926) (.ref zss926) (.ref zsl926) zsn932 zsv932 zss932 zsl932 .null .null .null .null .null zbn932 zkn932 zbv932 zkv932 zbs932 zks932 zbl932 zkl932 gC T1249.heap n0 Z1249 f1288 f1290 f1291 f1271 f1272 f1273 f1274 f1275 f1276 f1277 f1278 f1279 f1280 f1281 f1282 f1283 f1284 f1285 f1286 f1287 f1250 hG (by decide) (by decide) (by decide) (by decide)) (by decide) (by decide) (g := (mkF m 234 #[iv p1, iv p2, iv p3, iv p4, iv p5, iv 2, iv 1, rv zd919, iv 9, rv b955, iv 1] [(.int p5), (.int p4), (.int p3), (.int p2), (.int 1), (.int 1), (.ref b955)])) rfl (by rw [hml]; rfl) (argsL := [(.ref b955), (.int 1), (.int 1), (.int p2), (.int p3), (.int p4), (.int p5)]) (rest := []) rfl (lenOf own_pd15 rfl) rfl (by show 2 * 0 + _ ≤ _; exact Nat.le_of_eq rfl) (hb hby at_234) rfl (by decide) (by decide)
      obtain ⟨rfl, Nq1292, Kq1292⟩ := hQ1292
      have N1292 := Fr.app N1249 Nq1292
      have f1293 := own_staKeep f1250 Kq1292
      have f1294 := own_staKeep f1251 Kq1292
      have f1295 := own_staKeep f1252 Kq1292
      have f1296 := f1253.keep Kq1292 nin0
      have f1297 := own_staKeep f1254 Kq1292
      have f1298 := f1255.keep Kq1292
      have f1299 := f1256.keep Kq1292 nin0
      have f1300 := f1257.keep Kq1292 nin0
      have f1301 := f1258.keep Kq1292 nin0
      have f1302 := f1259.keep Kq1292
      have f1303 := f1260.keep Kq1292 nin0
      have f1304 := f1261.keep Kq1292 nin0
      have f1305 := f1262.keep Kq1292 nin0
      have f1306 := f1263.keep Kq1292
      have f1307 := f1264.keep Kq1292 nin0
      have f1308 := f1265.keep Kq1292 nin0
      have f1309 := f1266.keep Kq1292 nin0
      have f1310 := f1267.keep Kq1292
      have f1311 := f1268.keep Kq1292 nin0
      have f1312 := f1269.keep Kq1292 nin0
      have f1313 := f1270.keep Kq1292 nin0
      have f1314 := f1271.keep Kq1292 nin0
      have f1315 := f1272.keep Kq1292
      have f1316 := f1273.keep Kq1292 nin0
      have f1317 := f1274.keep Kq1292 nin0
      have f1318 := f1275.keep Kq1292 nin0
      have f1319 := f1276.keep Kq1292
      have f1320 := f1277.keep Kq1292 nin0
      have f1321 := f1278.keep Kq1292 nin0
      have f1322 := f1279.keep Kq1292 nin0
      have f1323 := f1280.keep Kq1292
      have f1324 := f1281.keep Kq1292 nin0
      have f1325 := f1282.keep Kq1292 nin0
      have f1326 := f1283.keep Kq1292 nin0
      have f1327 := f1284.keep Kq1292
      have f1328 := f1285.keep Kq1292 nin0
      have f1329 := f1286.keep Kq1292 nin0
      have f1330 := f1287.keep Kq1292 nin0
      have f1331 := f1288.keep Kq1292
      have f1332 := f1289.keep Kq1292
      have f1333 := f1290.keep Kq1292 nin0
      have f1334 := f1291.keep Kq1292 nin0
      have Z1292 := Nat.le_trans Z1249 Kq1292.1
      have hk1292 := Nat.le_trans hk1249 Kq1292.1
      refine own_s T1292 (mkF m 237 #[iv p1, iv p2, iv p3, iv p4, iv p5, iv 2, iv 1, rv zd919, iv 9, rv b955, iv 1] [(.int 1)]) st1292 ?_
      refine own_s T1292 (mkF m 283 #[iv p1, iv p2, iv p3, iv p4, iv p5, iv 2, iv 1, rv zd919, iv 9, rv b955, iv 1] [(.int 1)]) (fun _ k => XS.ifNo X1292.here hx rfl (hb hby at_237) rfl ((if0 _ _).trans (feq (by decide : ¬ ((1 : Int32) = (0 : Int32)))).1) (XS.iconst X1292.here hx rfl (hb hby at_240) (XS.goto X1292.here hx rfl (pc0 := 241) (pc' := 245) rfl (hb hby at_241) (by decide) (by decide) (XS.istore X1292.here hx rfl (hb hby at_245) rfl (l' := #[iv p1, iv p2, iv p3, iv p4, iv p5, iv 2, iv 1, rv zd919, iv 9, rv b955, iv 1]) rfl (XS.iload X1292.here hx rfl (hb hby at_247) rfl  (XS.iconst X1292.here hx rfl (hb hby at_249) (XS.icmpYes X1292.here hx rfl (pc0 := 250) (pc' := 281) rfl (hb hby at_250) rfl (flt (by decide : ¬ ((2 : Int32) < (2 : Int32)))).2.2.2 (by decide) (by decide) (XS.iload X1292.here hx rfl (hb hby at_281) rfl  k)))))))) ?_
      exact own_finZ X1292 hx (t := .boolean) hret (by simp) (z' := (1 : Int32)) rfl (hb hby at_283) (own_endW (Qv := (own_Q0 Z p1 p2 p3 p4 p5 gC oN oA kA oD h0 n0)) X1292 hS (own_some hret) hlk (by decide) (by decide) rfl hk1292 (fun vm' hv' => ⟨rfl, N1292⟩))
  · refine own_cast (g' := (mkF m 5 #[iv p1, iv p2, iv p3, iv p4, iv p5, iv 3, u_, u_, u_, u_, u_] [])) (by rw [hn]) ?_
    refine own_s s₁ (mkF m 10 #[iv p1, iv p2, iv p3, iv p4, iv p5, iv 3, u_, u_, u_, u_, u_] [(.int (((p1.toUInt32 >>> ((2 : Int32) &&& 31).toUInt32).toInt32) &&& (1 : Int32)))]) (fun _ k => XS.iloadN X0.here hx rfl (hb hby at_5) rfl  (XS.iconst X0.here hx rfl (hb hby at_6) (XS.iushr X0.here hx rfl (hb hby at_7) rfl (XS.iconst X0.here hx rfl (hb hby at_8) (XS.iand X0.here hx rfl (hb hby at_9) rfl k))))) ?_
    by_cases c10 : (((p1.toUInt32 >>> ((2 : Int32) &&& 31).toUInt32).toInt32) &&& (1 : Int32)) = (0 : Int32)
    · refine own_s s₁ (mkF m 24 #[iv p1, iv p2, iv p3, iv p4, iv p5, iv 3, iv 0, u_, u_, u_, u_] [(.int 0), (.int 3)]) (fun _ k => XS.ifYes X0.here hx rfl (pc0 := 10) (pc' := 17) rfl (hb hby at_10) rfl ((if0 _ _).trans (teq c10).1) (by decide) (by decide) (XS.iconst X0.here hx rfl (hb hby at_17) (XS.istore X0.here hx rfl (hb hby at_18) rfl (l' := #[iv p1, iv p2, iv p3, iv p4, iv p5, iv 3, iv 0, u_, u_, u_, u_]) rfl (XS.iload X0.here hx rfl (hb hby at_20) rfl  (XS.iload X0.here hx rfl (hb hby at_22) rfl  k))))) ?_
      obtain ⟨v1335, T1335, L1335, X1335, hQ1335, st1335⟩ := own_callS X0 hx hZ (y := own_y8) (W := 0) hown (own_h hw 0 rfl) (own_h hw 1 rfl) (own_h hw 2 rfl) (own_h hw 3 rfl) (by decide) (own_rmna3_0 l Z a0 hw []  h0 n0 Z0) (by decide) (by decide) (g := (mkF m 24 #[iv p1, iv p2, iv p3, iv p4, iv p5, iv 3, iv 0, u_, u_, u_, u_] [(.int 0), (.int 3)])) rfl (by rw [hml]; rfl) (argsL := [(.int 3), (.int 0)]) (rest := []) rfl (lenOf own_pd11 rfl) rfl (by show 2 * 0 + _ ≤ _; exact Nat.le_of_eq rfl) (hb hby at_24) e0 (by decide) (by decide)
      obtain ⟨zd1335, zkd1335, rfl, Nq1335, Kq1335, g_zd1335, sq_zd1335, q1335_0, q1335_1⟩ := hQ1335
      have N1335 := Fr.app N0 Nq1335
      have f1336 := own_staKeep pr0 Kq1335
      have f1337 := own_staKeep pr1 Kq1335
      have f1338 := own_staKeep pr2 Kq1335
      have f1339 := pr3.keep Kq1335 nin0
      have f1340 := own_staKeep pr4 Kq1335
      have Z1335 := Nat.le_trans Z0 Kq1335.1
      have hk1335 := Nat.le_trans hk0 Kq1335.1
      refine own_s T1335 (mkF m 27 #[iv p1, iv p2, iv p3, iv p4, iv p5, iv 3, iv 0, u_, u_, u_, u_] [(.ref zd1335)]) st1335 ?_
      refine own_s T1335 (mkF m 56 #[iv p1, iv p2, iv p3, iv p4, iv p5, iv 3, iv 0, rv zd1335, iv 6, u_, u_] [(.ref zd1335)]) (fun _ k => XS.astore X1335.here hx rfl (hb hby at_27) rfl rfl (l' := #[iv p1, iv p2, iv p3, iv p4, iv p5, iv 3, iv 0, rv zd1335, u_, u_, u_]) rfl (XS.iload X1335.here hx rfl (hb hby at_29) rfl  (XS.ifYes X1335.here hx rfl (pc0 := 31) (pc' := 48) rfl (hb hby at_31) rfl ((if0 _ _).trans (teq (by decide : ((0 : Int32) = (0 : Int32)))).1) (by decide) (by decide) (XS.iconst X1335.here hx rfl (hb hby at_48) (XS.iload X1335.here hx rfl (hb hby at_49) rfl  (XS.imul X1335.here hx rfl (hb hby at_51) rfl (XS.istore X1335.here hx rfl (hb hby at_52) rfl (l' := #[iv p1, iv p2, iv p3, iv p4, iv p5, iv 3, iv 0, rv zd1335, iv 6, u_, u_]) rfl (XS.aload X1335.here hx rfl (hb hby at_54) rfl rfl k)))))))) ?_
      obtain ⟨cl1341, Ar1341, q1341, S1341, Nn1341, H1341, G1341⟩ := id q1335_0
      refine own_s T1335 (mkF m 74 #[iv p1, iv p2, iv p3, iv p4, iv p5, iv 3, iv 0, rv zd1335, iv 6, u_, u_] [(.int 0), (.int 0), (.ref zd1335)]) (fun _ k => own_len X1335 hx hZ rfl Ar1341 S1341 Nn1341 (g := (mkF m 56 #[iv p1, iv p2, iv p3, iv p4, iv p5, iv 3, iv 0, rv zd1335, iv 6, u_, u_] [(.ref zd1335)])) rfl rfl (hb hby at_56) (XS.iload X1335.here hx rfl (hb hby at_57) rfl  (XS.icmpYes X1335.here hx rfl (pc0 := 59) (pc' := 64) rfl (hb hby at_59) rfl (teq (by decide : ((6 : Int32) = (6 : Int32)))).1 (by decide) (by decide) (XS.iload X1335.here hx rfl (hb hby at_64) rfl  (XS.ifNo X1335.here hx rfl (hb hby at_66) rfl ((if0 _ _).trans (tlt (by decide : ((0 : Int32) < (3 : Int32)))).2.2.2) (XS.aload X1335.here hx rfl (hb hby at_69) rfl rfl (XS.iconst X1335.here hx rfl (hb hby at_71) (XS.iload X1335.here hx rfl (hb hby at_72) rfl  k)))))))) ?_
      refine own_s T1335 (mkF m 79 #[iv p1, iv p2, iv p3, iv p4, iv p5, iv 3, iv 0, rv zd1335, iv 6, u_, u_] [(.int p5), (.int p4), (.int p3), (.int p2), (.int 0), (.int 0), (.ref zd1335)]) (fun _ k => XS.iloadN X1335.here hx rfl (hb hby at_74) rfl  (XS.iloadN X1335.here hx rfl (hb hby at_75) rfl  (XS.iloadN X1335.here hx rfl (hb hby at_76) rfl  (XS.iload X1335.here hx rfl (hb hby at_77) rfl  k)))) ?_
      obtain ⟨v1342, T1342, L1342, X1342, hQ1342, st1342⟩ := own_callS X1335 hx hZ (y := own_y10) (W := 0) hown (own_h hw 78 rfl) (own_h hw 79 rfl) (own_h hw 80 rfl) (own_h hw 81 rfl) (by decide) (own_rmput0_0 l Z a0 hw [] zd1335 p2 p3 p4 p5 zkd1335 (6 : Int32) .null .null .null .null .null .null .null .null .null .null .null .null .null gC T1335.heap n0 Z1335 g_zd1335 q1335_0 q1335_1 f1336 hG (by decide) (by decide) (by decide)) (by decide) (by decide) (g := (mkF m 79 #[iv p1, iv p2, iv p3, iv p4, iv p5, iv 3, iv 0, rv zd1335, iv 6, u_, u_] [(.int p5), (.int p4), (.int p3), (.int p2), (.int 0), (.int 0), (.ref zd1335)])) rfl (by rw [hml]; rfl) (argsL := [(.ref zd1335), (.int 0), (.int 0), (.int p2), (.int p3), (.int p4), (.int p5)]) (rest := []) rfl (lenOf own_pd14 rfl) rfl (by show 2 * 0 + _ ≤ _; exact Nat.le_of_eq rfl) (hb hby at_79) rfl (by decide) (by decide)
      obtain ⟨zsn1342, zbn1342, zkn1342, zsv1342, zbv1342, zkv1342, rfl, Nq1342, Kq1342, g_zsn1342, sq_zsn1342, g_zbn1342, sq_zbn1342, g_zsv1342, sq_zsv1342, g_zbv1342, sq_zbv1342, q1342_0, q1342_1, q1342_2, q1342_3, q1342_4, q1342_5, q1342_6, q1342_7, q1342_8⟩ := hQ1342
      have N1342 := Fr.app N1335 Nq1342
      have f1343 := own_staKeepW f1336 Kq1342 (allS q1335_0.nostat all0)
      have f1344 := own_staKeepW f1337 Kq1342 (allS q1335_0.nostat all0)
      have f1345 := own_staKeepW f1338 Kq1342 (allS q1335_0.nostat all0)
      have f1346 := f1339.keep Kq1342 (ninS (own_nl pr3.lt sq_zd1335) nin0)
      have f1347 := own_staKeepW f1340 Kq1342 (allS q1335_0.nostat all0)
      have Z1342 := Nat.le_trans Z1335 Kq1342.1
      have hk1342 := Nat.le_trans hk1335 Kq1342.1
      refine own_s T1342 (mkF m 82 #[iv p1, iv p2, iv p3, iv p4, iv p5, iv 3, iv 0, rv zd1335, iv 6, u_, u_] []) st1342 ?_
      refine own_s T1342 (mkF m 95 #[iv p1, iv p2, iv p3, iv p4, iv p5, iv 3, iv 0, rv zd1335, iv 6, u_, u_] [(.int p3), (.int p2), (.int 0), (.int 1), (.ref zd1335)]) (fun _ k => XS.iload X1342.here hx rfl (hb hby at_82) rfl  (XS.iconst X1342.here hx rfl (hb hby at_84) (XS.icmpNo X1342.here hx rfl (hb hby at_85) rfl (tlt (by decide : ((1 : Int32) < (3 : Int32)))).2.2.2 (XS.aload X1342.here hx rfl (hb hby at_88) rfl rfl (XS.iconst X1342.here hx rfl (hb hby at_90) (XS.iload X1342.here hx rfl (hb hby at_91) rfl  (XS.iloadN X1342.here hx rfl (hb hby at_93) rfl  (XS.iloadN X1342.here hx rfl (hb hby at_94) rfl  k)))))))) ?_
      refine own_s T1342 (mkF m 98 #[iv p1, iv p2, iv p3, iv p4, iv p5, iv 3, iv 0, rv zd1335, iv 6, u_, u_] [(.int p5), (.int p4), (.int p3), (.int p2), (.int 0), (.int 1), (.ref zd1335)]) (fun _ k => XS.iloadN X1342.here hx rfl (hb hby at_95) rfl  (XS.iload X1342.here hx rfl (hb hby at_96) rfl  k)) ?_
      obtain ⟨v1348, T1348, L1348, X1348, hQ1348, st1348⟩ := own_callS X1342 hx hZ (y := own_y10) (W := 0) hown (own_h hw 78 rfl) (own_h hw 79 rfl) (own_h hw 80 rfl) (own_h hw 81 rfl) (by decide) (own_rmput1_0 l Z a0 hw [] zd1335 p2 p3 p4 p5 zkd1335 (6 : Int32) (.ref zsn1342) (.ref zsv1342) .null .null .null .null .null .null .null .null .null .null .null gC T1342.heap n0 Z1342 g_zd1335 q1342_0 q1335_1 f1343 hG (by decide) (by decide) (by decide)) (by decide) (by decide) (g := (mkF m 98 #[iv p1, iv p2, iv p3, iv p4, iv p5, iv 3, iv 0, rv zd1335, iv 6, u_, u_] [(.int p5), (.int p4), (.int p3), (.int p2), (.int 0), (.int 1), (.ref zd1335)])) rfl (by rw [hml]; rfl) (argsL := [(.ref zd1335), (.int 1), (.int 0), (.int p2), (.int p3), (.int p4), (.int p5)]) (rest := []) rfl (lenOf own_pd14 rfl) rfl (by show 2 * 0 + _ ≤ _; exact Nat.le_of_eq rfl) (hb hby at_98) rfl (by decide) (by decide)
      obtain ⟨zsn1348, zbn1348, zkn1348, zsv1348, zbv1348, zkv1348, rfl, Nq1348, Kq1348, g_zsn1348, sq_zsn1348, g_zbn1348, sq_zbn1348, g_zsv1348, sq_zsv1348, g_zbv1348, sq_zbv1348, q1348_0, q1348_1, q1348_2, q1348_3, q1348_4, q1348_5, q1348_6, q1348_7, q1348_8⟩ := hQ1348
      have N1348 := Fr.app N1342 Nq1348
      have f1349 := own_staKeepW f1343 Kq1348 (allS q1342_0.nostat all0)
      have f1350 := own_staKeepW f1344 Kq1348 (allS q1342_0.nostat all0)
      have f1351 := own_staKeepW f1345 Kq1348 (allS q1342_0.nostat all0)
      have f1352 := f1346.keep Kq1348 (ninS (own_nl pr3.lt sq_zd1335) nin0)
      have f1353 := own_staKeepW f1347 Kq1348 (allS q1342_0.nostat all0)
      have f1354 := q1342_1.keep Kq1348
      have f1355 := q1342_2.keep Kq1348 (ninS (Ne.symm (own_nl q1335_0.lt sq_zsn1342)) nin0)
      have f1356 := q1342_3.keep Kq1348 (ninS (Ne.symm (own_nl q1335_0.lt sq_zsn1342)) nin0)
      have f1357 := q1342_4.keep Kq1348 (ninS (Ne.symm (own_nl q1335_0.lt sq_zbn1342)) nin0)
      have f1358 := q1342_5.keep Kq1348
      have f1359 := q1342_6.keep Kq1348 (ninS (Ne.symm (own_nl q1335_0.lt sq_zsv1342)) nin0)
      have f1360 := q1342_7.keep Kq1348 (ninS (Ne.symm (own_nl q1335_0.lt sq_zsv1342)) nin0)
      have f1361 := q1342_8.keep Kq1348 (ninS (Ne.symm (own_nl q1335_0.lt sq_zbv1342)) nin0)
      have Z1348 := Nat.le_trans Z1342 Kq1348.1
      have hk1348 := Nat.le_trans hk1342 Kq1348.1
      refine own_s T1348 (mkF m 101 #[iv p1, iv p2, iv p3, iv p4, iv p5, iv 3, iv 0, rv zd1335, iv 6, u_, u_] []) st1348 ?_
      refine own_s T1348 (mkF m 114 #[iv p1, iv p2, iv p3, iv p4, iv p5, iv 3, iv 0, rv zd1335, iv 6, u_, u_] [(.int p3), (.int p2), (.int 0), (.int 2), (.ref zd1335)]) (fun _ k => XS.iload X1348.here hx rfl (hb hby at_101) rfl  (XS.iconst X1348.here hx rfl (hb hby at_103) (XS.icmpNo X1348.here hx rfl (hb hby at_104) rfl (tlt (by decide : ((2 : Int32) < (3 : Int32)))).2.2.2 (XS.aload X1348.here hx rfl (hb hby at_107) rfl rfl (XS.iconst X1348.here hx rfl (hb hby at_109) (XS.iload X1348.here hx rfl (hb hby at_110) rfl  (XS.iloadN X1348.here hx rfl (hb hby at_112) rfl  (XS.iloadN X1348.here hx rfl (hb hby at_113) rfl  k)))))))) ?_
      refine own_s T1348 (mkF m 117 #[iv p1, iv p2, iv p3, iv p4, iv p5, iv 3, iv 0, rv zd1335, iv 6, u_, u_] [(.int p5), (.int p4), (.int p3), (.int p2), (.int 0), (.int 2), (.ref zd1335)]) (fun _ k => XS.iloadN X1348.here hx rfl (hb hby at_114) rfl  (XS.iload X1348.here hx rfl (hb hby at_115) rfl  k)) ?_
      obtain ⟨v1362, T1362, L1362, X1362, hQ1362, st1362⟩ := own_callS X1348 hx hZ (y := own_y10) (W := 0) hown (own_h hw 78 rfl) (own_h hw 79 rfl) (own_h hw 80 rfl) (own_h hw 81 rfl) (by decide) (own_rmput2_0 l Z a0 hw [] zd1335 p2 p3 p4 p5 zkd1335 (6 : Int32) (.ref zsn1342) (.ref zsv1342) (.ref zsn1348) (.ref zsv1348) .null .null .null .null .null .null .null .null .null gC T1348.heap n0 Z1348 g_zd1335 q1348_0 q1335_1 f1349 hG (by decide) (by decide) (by decide)) (by decide) (by decide) (g := (mkF m 117 #[iv p1, iv p2, iv p3, iv p4, iv p5, iv 3, iv 0, rv zd1335, iv 6, u_, u_] [(.int p5), (.int p4), (.int p3), (.int p2), (.int 0), (.int 2), (.ref zd1335)])) rfl (by rw [hml]; rfl) (argsL := [(.ref zd1335), (.int 2), (.int 0), (.int p2), (.int p3), (.int p4), (.int p5)]) (rest := []) rfl (lenOf own_pd14 rfl) rfl (by show 2 * 0 + _ ≤ _; exact Nat.le_of_eq rfl) (hb hby at_117) rfl (by decide) (by decide)
      obtain ⟨zsn1362, zbn1362, zkn1362, zsv1362, zbv1362, zkv1362, rfl, Nq1362, Kq1362, g_zsn1362, sq_zsn1362, g_zbn1362, sq_zbn1362, g_zsv1362, sq_zsv1362, g_zbv1362, sq_zbv1362, q1362_0, q1362_1, q1362_2, q1362_3, q1362_4, q1362_5, q1362_6, q1362_7, q1362_8⟩ := hQ1362
      have N1362 := Fr.app N1348 Nq1362
      have f1363 := own_staKeepW f1349 Kq1362 (allS q1348_0.nostat all0)
      have f1364 := own_staKeepW f1350 Kq1362 (allS q1348_0.nostat all0)
      have f1365 := own_staKeepW f1351 Kq1362 (allS q1348_0.nostat all0)
      have f1366 := f1352.keep Kq1362 (ninS (own_nl pr3.lt sq_zd1335) nin0)
      have f1367 := own_staKeepW f1353 Kq1362 (allS q1348_0.nostat all0)
      have f1368 := f1354.keep Kq1362
      have f1369 := f1355.keep Kq1362 (ninS (Ne.symm (own_nl q1335_0.lt sq_zsn1342)) nin0)
      have f1370 := f1356.keep Kq1362 (ninS (Ne.symm (own_nl q1335_0.lt sq_zsn1342)) nin0)
      have f1371 := f1357.keep Kq1362 (ninS (Ne.symm (own_nl q1335_0.lt sq_zbn1342)) nin0)
      have f1372 := f1358.keep Kq1362
      have f1373 := f1359.keep Kq1362 (ninS (Ne.symm (own_nl q1335_0.lt sq_zsv1342)) nin0)
      have f1374 := f1360.keep Kq1362 (ninS (Ne.symm (own_nl q1335_0.lt sq_zsv1342)) nin0)
      have f1375 := f1361.keep Kq1362 (ninS (Ne.symm (own_nl q1335_0.lt sq_zbv1342)) nin0)
      have f1376 := q1348_1.keep Kq1362
      have f1377 := q1348_2.keep Kq1362 (ninS (Ne.symm (own_nl q1342_0.lt sq_zsn1348)) nin0)
      have f1378 := q1348_3.keep Kq1362 (ninS (Ne.symm (own_nl q1342_0.lt sq_zsn1348)) nin0)
      have f1379 := q1348_4.keep Kq1362 (ninS (Ne.symm (own_nl q1342_0.lt sq_zbn1348)) nin0)
      have f1380 := q1348_5.keep Kq1362
      have f1381 := q1348_6.keep Kq1362 (ninS (Ne.symm (own_nl q1342_0.lt sq_zsv1348)) nin0)
      have f1382 := q1348_7.keep Kq1362 (ninS (Ne.symm (own_nl q1342_0.lt sq_zsv1348)) nin0)
      have f1383 := q1348_8.keep Kq1362 (ninS (Ne.symm (own_nl q1342_0.lt sq_zbv1348)) nin0)
      have Z1362 := Nat.le_trans Z1348 Kq1362.1
      have hk1362 := Nat.le_trans hk1348 Kq1362.1
      refine own_s T1362 (mkF m 120 #[iv p1, iv p2, iv p3, iv p4, iv p5, iv 3, iv 0, rv zd1335, iv 6, u_, u_] []) st1362 ?_
      refine own_s T1362 (mkF m 140 #[iv p1, iv p2, iv p3, iv p4, iv p5, iv 3, iv 0, rv zd1335, iv 6, u_, u_] []) (fun _ k => XS.iload X1362.here hx rfl (hb hby at_120) rfl  (XS.iconst X1362.here hx rfl (hb hby at_122) (iremM X1362 hx rfl (hb hby at_123) rfl (by decide) (XS.iconst X1362.here hx rfl (hb hby at_124) (XS.icmpYes X1362.here hx rfl (pc0 := 125) (pc' := 140) rfl (hb hby at_125) rfl (feq (by decide)).2 (by decide) (by decide) k))))) ?_
      obtain ⟨T1384, h1384, X1384, e1384, E1384, A1384, D1384, -, st1384⟩ := newO X1362 hx hZ hown (own_h hw 6 rfl) (own_h hw 7 rfl) (own_h hw 2 rfl) rfl (g := (mkF m 140 #[iv p1, iv p2, iv p3, iv p4, iv p5, iv 3, iv 0, rv zd1335, iv 6, u_, u_] [])) rfl (hb hby at_140) (by decide) (by decide)
      obtain ⟨b1384, g1384⟩ : ∃ z, z = T1362.heap.size := ⟨_, rfl⟩
      have g_b1384 : n0 ≤ b1384 := Nat.le_trans Z1362 (Nat.le_of_eq g1384.symm)
      rw [← g1384] at A1384 D1384 st1384
      have f1385 := Sta.ext E1384 f1363
      have f1386 := Sta.ext E1384 f1364
      have f1387 := Sta.ext E1384 f1365
      have f1388 := f1366.ext E1384
      have f1389 := Sta.ext E1384 f1367
      have f1390 := Exa.ext E1384 f1368
      have f1391 := Fld.ext E1384 f1369
      have f1392 := Fld.ext E1384 f1370
      have f1393 := f1371.ext E1384
      have f1394 := Exa.ext E1384 f1372
      have f1395 := Fld.ext E1384 f1373
      have f1396 := Fld.ext E1384 f1374
      have f1397 := f1375.ext E1384
      have f1398 := Exa.ext E1384 f1376
      have f1399 := Fld.ext E1384 f1377
      have f1400 := Fld.ext E1384 f1378
      have f1401 := f1379.ext E1384
      have f1402 := Exa.ext E1384 f1380
      have f1403 := Fld.ext E1384 f1381
      have f1404 := Fld.ext E1384 f1382
      have f1405 := f1383.ext E1384
      have f1406 := q1362_0.ext E1384
      have f1407 := Exa.ext E1384 q1362_1
      have f1408 := Fld.ext E1384 q1362_2
      have f1409 := Fld.ext E1384 q1362_3
      have f1410 := q1362_4.ext E1384
      have f1411 := Exa.ext E1384 q1362_5
      have f1412 := Fld.ext E1384 q1362_6
      have f1413 := Fld.ext E1384 q1362_7
      have f1414 := q1362_8.ext E1384
      have Z1384 := Nat.le_trans Z1362 E1384.1
      have hk1384 := Nat.le_trans hk1362 E1384.1
      have f1415 : Fld Z h1384 b1384 "com/example/tagwright/tagwright/XmlElement" "children" "Ljava/util/List;" .null := D1384 (Or.inl (own_h hw 49 rfl)) (ty := (.object "java/util/List")) (by decide)
      have f1416 : Fld Z h1384 b1384 "com/example/tagwright/tagwright/XmlElement" "namespace" "Ljava/lang/String;" .null := D1384 (Or.inr (own_h hw 51 rfl)) (ty := (.object "java/lang/String")) (by decide)
      have f1417 : Fld Z h1384 b1384 "com/example/tagwright/tagwright/XmlElement" "localName" "Ljava/lang/String;" .null := D1384 (Or.inr (own_h hw 53 rfl)) (ty := (.object "java/lang/String")) (by decide)
      have f1418 : Fld Z h1384 b1384 "com/example/tagwright/tagwright/XmlElement" "tagName" "Ljava/lang/String;" .null := D1384 (Or.inr (own_h hw 55 rfl)) (ty := (.object "java/lang/String")) (by decide)
      have f1419 : Fld Z h1384 b1384 "com/example/tagwright/tagwright/XmlElement" "declarations" "Ljava/util/List;" .null := D1384 (Or.inr (own_h hw 57 rfl)) (ty := (.object "java/util/List")) (by decide)
      have f1420 : Fld Z h1384 b1384 "com/example/tagwright/tagwright/XmlElement" "attributes" "[Ljava/lang/String;" .null := D1384 (Or.inr (own_h hw 61 rfl)) (ty := (.array (.object "java/lang/String"))) (by decide)
      have f1421 : Fld Z h1384 b1384 "com/example/tagwright/tagwright/XmlElement" "stride" "B" (.int 0) := D1384 (Or.inr (own_h hw 66 rfl)) (ty := .byte) (by decide)
      have f1422 : Fld Z h1384 b1384 "com/example/tagwright/tagwright/XmlElement" "location" "Lcom/example/tagwright/tagwright/Location;" .null := D1384 (Or.inr (own_h hw 68 rfl)) (ty := (.object "com/example/tagwright/tagwright/Location")) (by decide)
      have f1423 : Fld Z h1384 b1384 "com/example/tagwright/tagwright/XmlElement" "parent" "Lcom/example/tagwright/tagwright/XmlElement;" .null := D1384 (Or.inr (own_h hw 70 rfl)) (ty := (.object "com/example/tagwright/tagwright/XmlElement")) (by decide)
      have f1424 : Fld Z h1384 b1384 "com/example/tagwright/tagwright/XmlElement" "index" "I" (.int 0) := D1384 (Or.inr (own_h hw 72 rfl)) (ty := .int) (by decide)
      refine own_s T1384 (mkF m 143 #[iv p1, iv p2, iv p3, iv p4, iv p5, iv 3, iv 0, rv zd1335, iv 6, u_, u_] [(.ref b1384)]) st1384 ?_
      refine own_s T1384 (mkF m 145 #[iv p1, iv p2, iv p3, iv p4, iv p5, iv 3, iv 0, rv zd1335, iv 6, u_, u_] [.null, (.ref b1384), (.ref b1384)]) (fun _ k => XS.dup X1384.here hx rfl (hb hby at_143) rfl rfl (XS.aconstNull X1384.here hx rfl (hb hby at_144) k)) ?_
      obtain ⟨sl1425, T1425, h1425, kk1425, X1425, e1425, E1425, hS, hk1425, hZ, hown, st1425⟩ := ldcS (s := s) X1384 hx hZ hown (own_h hw 8 rfl) (own_wS hw) e1384 hS hk1384 (g := (mkF m 145 #[iv p1, iv p2, iv p3, iv p4, iv p5, iv 3, iv 0, rv zd1335, iv 6, u_, u_] [.null, (.ref b1384), (.ref b1384)])) rfl (hb hby at_145) (n := 4) (by decide) (by decide) (by decide) (by decide)
      have f1426 := Sta.ext E1425 f1385
      have f1427 := Sta.ext E1425 f1386
      have f1428 := Sta.ext E1425 f1387
      have f1429 := f1388.ext E1425
      have f1430 := Sta.ext E1425 f1389
      have f1431 := Exa.ext E1425 f1390
      have f1432 := Fld.ext E1425 f1391
      have f1433 := Fld.ext E1425 f1392
      have f1434 := f1393.ext E1425
      have f1435 := Exa.ext E1425 f1394
      have f1436 := Fld.ext E1425 f1395
      have f1437 := Fld.ext E1425 f1396
      have f1438 := f1397.ext E1425
      have f1439 := Exa.ext E1425 f1398
      have f1440 := Fld.ext E1425 f1399
      have f1441 := Fld.ext E1425 f1400
      have f1442 := f1401.ext E1425
      have f1443 := Exa.ext E1425 f1402
      have f1444 := Fld.ext E1425 f1403
      have f1445 := Fld.ext E1425 f1404
      have f1446 := f1405.ext E1425
      have f1447 := f1406.ext E1425
      have f1448 := Exa.ext E1425 f1407
      have f1449 := Fld.ext E1425 f1408
      have f1450 := Fld.ext E1425 f1409
      have f1451 := f1410.ext E1425
      have f1452 := Exa.ext E1425 f1411
      have f1453 := Fld.ext E1425 f1412
      have f1454 := Fld.ext E1425 f1413
      have f1455 := f1414.ext E1425
      have f1456 := Exa.ext E1425 A1384
      have f1457 := Fld.ext E1425 f1415
      have f1458 := Fld.ext E1425 f1416
      have f1459 := Fld.ext E1425 f1417
      have f1460 := Fld.ext E1425 f1418
      have f1461 := Fld.ext E1425 f1419
      have f1462 := Fld.ext E1425 f1420
      have f1463 := Fld.ext E1425 f1421
      have f1464 := Fld.ext E1425 f1422
      have f1465 := Fld.ext E1425 f1423
      have f1466 := Fld.ext E1425 f1424
      have Z1425 := Nat.le_trans Z1384 E1425.1
      refine own_s T1425 (mkF m 147 #[iv p1, iv p2, iv p3, iv p4, iv p5, iv 3, iv 0, rv zd1335, iv 6, u_, u_] [(.ref sl1425), .null, (.ref b1384), (.ref b1384)]) st1425 ?_
      obtain ⟨sl1467, T1467, h1467, kk1467, X1467, e1467, E1467, hS, hk1467, hZ, hown, st1467⟩ := ldcS (s := s) X1425 hx hZ hown (own_h hw 8 rfl) (own_wS hw) e1425 hS hk1425 (g := (mkF m 147 #[iv p1, iv p2, iv p3, iv p4, iv p5, iv 3, iv 0, rv zd1335, iv 6, u_, u_] [(.ref sl1425), .null, (.ref b1384), (.ref b1384)])) rfl (hb hby at_147) (n := 4) (by decide) (by decide) (by decide) (by decide)
      have f1468 := Sta.ext E1467 f1426
      have f1469 := Sta.ext E1467 f1427
      have f1470 := Sta.ext E1467 f1428
      have f1471 := f1429.ext E1467
      have f1472 := Sta.ext E1467 f1430
      have f1473 := Exa.ext E1467 f1431
      have f1474 := Fld.ext E1467 f1432
      have f1475 := Fld.ext E1467 f1433
      have f1476 := f1434.ext E1467
      have f1477 := Exa.ext E1467 f1435
      have f1478 := Fld.ext E1467 f1436
      have f1479 := Fld.ext E1467 f1437
      have f1480 := f1438.ext E1467
      have f1481 := Exa.ext E1467 f1439
      have f1482 := Fld.ext E1467 f1440
      have f1483 := Fld.ext E1467 f1441
      have f1484 := f1442.ext E1467
      have f1485 := Exa.ext E1467 f1443
      have f1486 := Fld.ext E1467 f1444
      have f1487 := Fld.ext E1467 f1445
      have f1488 := f1446.ext E1467
      have f1489 := f1447.ext E1467
      have f1490 := Exa.ext E1467 f1448
      have f1491 := Fld.ext E1467 f1449
      have f1492 := Fld.ext E1467 f1450
      have f1493 := f1451.ext E1467
      have f1494 := Exa.ext E1467 f1452
      have f1495 := Fld.ext E1467 f1453
      have f1496 := Fld.ext E1467 f1454
      have f1497 := f1455.ext E1467
      have f1498 := Exa.ext E1467 f1456
      have f1499 := Fld.ext E1467 f1457
      have f1500 := Fld.ext E1467 f1458
      have f1501 := Fld.ext E1467 f1459
      have f1502 := Fld.ext E1467 f1460
      have f1503 := Fld.ext E1467 f1461
      have f1504 := Fld.ext E1467 f1462
      have f1505 := Fld.ext E1467 f1463
      have f1506 := Fld.ext E1467 f1464
      have f1507 := Fld.ext E1467 f1465
      have f1508 := Fld.ext E1467 f1466
      have Z1467 := Nat.le_trans Z1425 E1467.1
      refine own_s T1467 (mkF m 149 #[iv p1, iv p2, iv p3, iv p4, iv p5, iv 3, iv 0, rv zd1335, iv 6, u_, u_] [(.ref sl1467), (.ref sl1425), .null, (.ref b1384), (.ref b1384)]) st1467 ?_
      obtain ⟨T1509, h1509, X1509, e1509, E1509, A1509, D1509, -, st1509⟩ := newO X1467 hx hZ hown (own_h hw 16 rfl) (own_h hw 17 rfl) (own_h hw 18 rfl) e1467 (g := (mkF m 149 #[iv p1, iv p2, iv p3, iv p4, iv p5, iv 3, iv 0, rv zd1335, iv 6, u_, u_] [(.ref sl1467), (.ref sl1425), .null, (.ref b1384), (.ref b1384)])) rfl (hb hby at_149) (by decide) (by decide)
      obtain ⟨b1509, g1509⟩ : ∃ z, z = h1467.size := ⟨_, rfl⟩
      have g_b1509 : n0 ≤ b1509 := Nat.le_trans Z1467 (Nat.le_of_eq g1509.symm)
      rw [← g1509] at A1509 D1509 st1509
      have f1510 := Sta.ext E1509 f1468
      have f1511 := Sta.ext E1509 f1469
      have f1512 := Sta.ext E1509 f1470
      have f1513 := f1471.ext E1509
      have f1514 := Sta.ext E1509 f1472
      have f1515 := Exa.ext E1509 f1473
      have f1516 := Fld.ext E1509 f1474
      have f1517 := Fld.ext E1509 f1475
      have f1518 := f1476.ext E1509
      have f1519 := Exa.ext E1509 f1477
      have f1520 := Fld.ext E1509 f1478
      have f1521 := Fld.ext E1509 f1479
      have f1522 := f1480.ext E1509
      have f1523 := Exa.ext E1509 f1481
      have f1524 := Fld.ext E1509 f1482
      have f1525 := Fld.ext E1509 f1483
      have f1526 := f1484.ext E1509
      have f1527 := Exa.ext E1509 f1485
      have f1528 := Fld.ext E1509 f1486
      have f1529 := Fld.ext E1509 f1487
      have f1530 := f1488.ext E1509
      have f1531 := f1489.ext E1509
      have f1532 := Exa.ext E1509 f1490
      have f1533 := Fld.ext E1509 f1491
      have f1534 := Fld.ext E1509 f1492
      have f1535 := f1493.ext E1509
      have f1536 := Exa.ext E1509 f1494
      have f1537 := Fld.ext E1509 f1495
      have f1538 := Fld.ext E1509 f1496
      have f1539 := f1497.ext E1509
      have f1540 := Exa.ext E1509 f1498
      have f1541 := Fld.ext E1509 f1499
      have f1542 := Fld.ext E1509 f1500
      have f1543 := Fld.ext E1509 f1501
      have f1544 := Fld.ext E1509 f1502
      have f1545 := Fld.ext E1509 f1503
      have f1546 := Fld.ext E1509 f1504
      have f1547 := Fld.ext E1509 f1505
      have f1548 := Fld.ext E1509 f1506
      have f1549 := Fld.ext E1509 f1507
      have f1550 := Fld.ext E1509 f1508
      have Z1509 := Nat.le_trans Z1467 E1509.1
      have hk1509 := Nat.le_trans hk1467 E1509.1
      have f1551 : Fld Z h1509 b1509 "java/util/AbstractList" "modCount" "I" (.int 0) := D1509 (Or.inl (own_h hw 38 rfl)) (ty := .int) (by decide)
      have f1552 : Fld Z h1509 b1509 "java/util/ArrayList" "elementData" "[Ljava/lang/Object;" .null := D1509 (Or.inl (own_h hw 41 rfl)) (ty := (.array (.object "java/lang/Object"))) (by decide)
      refine own_s T1509 (mkF m 152 #[iv p1, iv p2, iv p3, iv p4, iv p5, iv 3, iv 0, rv zd1335, iv 6, u_, u_] [(.ref b1509), (.ref sl1467), (.ref sl1425), .null, (.ref b1384), (.ref b1384)]) st1509 ?_
      refine own_s T1509 (mkF m 153 #[iv p1, iv p2, iv p3, iv p4, iv p5, iv 3, iv 0, rv zd1335, iv 6, u_, u_] [(.ref b1509), (.ref b1509), (.ref sl1467), (.ref sl1425), .null, (.ref b1384), (.ref b1384)]) (fun _ k => XS.dup X1509.here hx rfl (hb hby at_152) rfl rfl k) ?_
      obtain ⟨v1553, T1553, L1553, X1553, hQ1553, st1553⟩ := own_callI X1509 hx hZ (y := own_y20) (W := 6) (a := b1509) rfl hown (own_h hw 19 rfl) (own_h hw 20 rfl) (own_h hw 18 rfl) (own_h hw 21 rfl) (by decide) (own_rmal l Z a0 hw [] b1509 oD h1509 n0 Z1509 g_b1509 f1514 A1509 f1551 f1552) (by decide) (by decide) (g := (mkF m 153 #[iv p1, iv p2, iv p3, iv p4, iv p5, iv 3, iv 0, rv zd1335, iv 6, u_, u_] [(.ref b1509), (.ref b1509), (.ref sl1467), (.ref sl1425), .null, (.ref b1384), (.ref b1384)])) rfl (by rw [hml]; rfl) (argsL := []) (rest := [(.ref b1509), (.ref sl1467), (.ref sl1425), .null, (.ref b1384), (.ref b1384)]) rfl (lenOf own_pd10 rfl) rfl (by show 2 * 0 + _ ≤ _; exact Nat.le_of_eq rfl) (hb hby at_153) e1509 (by decide) (by decide)
      obtain ⟨rfl, Nq1553, Kq1553, q1553_0⟩ := hQ1553
      have N1553 := Fr.app N1362 Nq1553
      have f1554 := own_staKeepW f1510 Kq1553 (allS A1509.nostat all0)
      have f1555 := own_staKeepW f1511 Kq1553 (allS A1509.nostat all0)
      have f1556 := own_staKeepW f1512 Kq1553 (allS A1509.nostat all0)
      have f1557 := f1513.keep Kq1553 (ninS (own_nf f1471.lt g1509) nin0)
      have f1558 := own_staKeepW f1514 Kq1553 (allS A1509.nostat all0)
      have f1559 := f1515.keep Kq1553
      have f1560 := f1516.keep Kq1553 (ninS (own_nf f1473.lt g1509) nin0)
      have f1561 := f1517.keep Kq1553 (ninS (own_nf f1473.lt g1509) nin0)
      have f1562 := f1518.keep Kq1553 (ninS (own_nf f1476.lt g1509) nin0)
      have f1563 := f1519.keep Kq1553
      have f1564 := f1520.keep Kq1553 (ninS (own_nf f1477.lt g1509) nin0)
      have f1565 := f1521.keep Kq1553 (ninS (own_nf f1477.lt g1509) nin0)
      have f1566 := f1522.keep Kq1553 (ninS (own_nf f1480.lt g1509) nin0)
      have f1567 := f1523.keep Kq1553
      have f1568 := f1524.keep Kq1553 (ninS (own_nf f1481.lt g1509) nin0)
      have f1569 := f1525.keep Kq1553 (ninS (own_nf f1481.lt g1509) nin0)
      have f1570 := f1526.keep Kq1553 (ninS (own_nf f1484.lt g1509) nin0)
      have f1571 := f1527.keep Kq1553
      have f1572 := f1528.keep Kq1553 (ninS (own_nf f1485.lt g1509) nin0)
      have f1573 := f1529.keep Kq1553 (ninS (own_nf f1485.lt g1509) nin0)
      have f1574 := f1530.keep Kq1553 (ninS (own_nf f1488.lt g1509) nin0)
      have f1575 := f1531.keep Kq1553 (ninS (own_nf f1489.lt g1509) nin0)
      have f1576 := f1532.keep Kq1553
      have f1577 := f1533.keep Kq1553 (ninS (own_nf f1490.lt g1509) nin0)
      have f1578 := f1534.keep Kq1553 (ninS (own_nf f1490.lt g1509) nin0)
      have f1579 := f1535.keep Kq1553 (ninS (own_nf f1493.lt g1509) nin0)
      have f1580 := f1536.keep Kq1553
      have f1581 := f1537.keep Kq1553 (ninS (own_nf f1494.lt g1509) nin0)
      have f1582 := f1538.keep Kq1553 (ninS (own_nf f1494.lt g1509) nin0)
      have f1583 := f1539.keep Kq1553 (ninS (own_nf f1497.lt g1509) nin0)
      have f1584 := f1540.keep Kq1553
      have f1585 := f1541.keep Kq1553 (ninS (own_nf f1498.lt g1509) nin0)
      have f1586 := f1542.keep Kq1553 (ninS (own_nf f1498.lt g1509) nin0)
      have f1587 := f1543.keep Kq1553 (ninS (own_nf f1498.lt g1509) nin0)
      have f1588 := f1544.keep Kq1553 (ninS (own_nf f1498.lt g1509) nin0)
      have f1589 := f1545.keep Kq1553 (ninS (own_nf f1498.lt g1509) nin0)
      have f1590 := f1546.keep Kq1553 (ninS (own_nf f1498.lt g1509) nin0)
      have f1591 := f1547.keep Kq1553 (ninS (own_nf f1498.lt g1509) nin0)
      have f1592 := f1548.keep Kq1553 (ninS (own_nf f1498.lt g1509) nin0)
      have f1593 := f1549.keep Kq1553 (ninS (own_nf f1498.lt g1509) nin0)
      have f1594 := f1550.keep Kq1553 (ninS (own_nf f1498.lt g1509) nin0)
      have f1595 := A1509.keep Kq1553
      have Z1553 := Nat.le_trans Z1509 Kq1553.1
      have hk1553 := Nat.le_trans hk1509 Kq1553.1
      refine own_s T1553 (mkF m 156 #[iv p1, iv p2, iv p3, iv p4, iv p5, iv 3, iv 0, rv zd1335, iv 6, u_, u_] [(.ref b1509), (.ref sl1467), (.ref sl1425), .null, (.ref b1384), (.ref b1384)]) st1553 ?_
      refine own_s T1553 (mkF m 160 #[iv p1, iv p2, iv p3, iv p4, iv p5, iv 3, iv 0, rv zd1335, iv 6, u_, u_] [.null, .null, (.ref zd1335), (.ref b1509), (.ref sl1467), (.ref sl1425), .null, (.ref b1384), (.ref b1384)]) (fun _ k => XS.aload X1553.here hx rfl (hb hby at_156) rfl rfl (XS.aconstNull X1553.here hx rfl (hb hby at_158) (XS.aconstNull X1553.here hx rfl (hb hby at_159) k))) ?_
      obtain ⟨v1596, T1596, L1596, X1596, hQ1596, st1596⟩ := own_callI X1553 hx hZ (y := own_y11) (W := 1) (a := b1384) rfl hown (own_h hw 42 rfl) (own_h hw 43 rfl) (own_h hw 2 rfl) (own_h hw 44 rfl) (by decide) (own_rmxi_e l Z a0 hw [] b1384 sl1425 sl1467 b1509 zd1335 oN oA zkd1335 [(.ref zsn1342), (.ref zsv1342), (.ref zsn1348), (.ref zsv1348), (.ref zsn1362), (.ref zsv1362), .null, .null, .null, .null, .null, .null, .null] (6 : Int32) T1553.heap n0 Z1553 g_b1384 f1584 f1585 f1586 f1587 f1588 f1589 f1590 f1591 f1592 f1593 f1594 f1555 f1556 f1575 (Ne.symm (own_nf q1362_0.lt g1384)) (by decide) (by decide)) (by decide) (by decide) (g := (mkF m 160 #[iv p1, iv p2, iv p3, iv p4, iv p5, iv 3, iv 0, rv zd1335, iv 6, u_, u_] [.null, .null, (.ref zd1335), (.ref b1509), (.ref sl1467), (.ref sl1425), .null, (.ref b1384), (.ref b1384)])) rfl (by rw [hml]; rfl) (argsL := [.null, (.ref sl1425), (.ref sl1467), (.ref b1509), (.ref zd1335), .null, .null]) (rest := [(.ref b1384)]) rfl (lenOf own_pd12 rfl) rfl (by show 2 * 0 + _ ≤ _; exact Nat.le_of_eq rfl) (hb hby at_160) rfl (by decide) (by decide)
      obtain ⟨rfl, Nq1596, Kq1596, q1596_0, q1596_1, q1596_2⟩ := hQ1596
      have N1596 := Fr.app N1553 Nq1596
      have f1597 := own_staKeepW f1554 Kq1596 (allS f1584.nostat all0)
      have f1598 := own_staKeepW f1555 Kq1596 (allS f1584.nostat all0)
      have f1599 := own_staKeepW f1556 Kq1596 (allS f1584.nostat all0)
      have f1600 := f1557.keep Kq1596 (ninS (own_nf f1366.lt g1384) nin0)
      have f1601 := own_staKeepW f1558 Kq1596 (allS f1584.nostat all0)
      have f1602 := f1559.keep Kq1596
      have f1603 := f1560.keep Kq1596 (ninS (own_nf f1368.lt g1384) nin0)
      have f1604 := f1561.keep Kq1596 (ninS (own_nf f1368.lt g1384) nin0)
      have f1605 := f1562.keep Kq1596 (ninS (own_nf f1371.lt g1384) nin0)
      have f1606 := f1563.keep Kq1596
      have f1607 := f1564.keep Kq1596 (ninS (own_nf f1372.lt g1384) nin0)
      have f1608 := f1565.keep Kq1596 (ninS (own_nf f1372.lt g1384) nin0)
      have f1609 := f1566.keep Kq1596 (ninS (own_nf f1375.lt g1384) nin0)
      have f1610 := f1567.keep Kq1596
      have f1611 := f1568.keep Kq1596 (ninS (own_nf f1376.lt g1384) nin0)
      have f1612 := f1569.keep Kq1596 (ninS (own_nf f1376.lt g1384) nin0)
      have f1613 := f1570.keep Kq1596 (ninS (own_nf f1379.lt g1384) nin0)
      have f1614 := f1571.keep Kq1596
      have f1615 := f1572.keep Kq1596 (ninS (own_nf f1380.lt g1384) nin0)
      have f1616 := f1573.keep Kq1596 (ninS (own_nf f1380.lt g1384) nin0)
      have f1617 := f1574.keep Kq1596 (ninS (own_nf f1383.lt g1384) nin0)
      have f1618 := f1575.keep Kq1596 (ninS (own_nf q1362_0.lt g1384) nin0)
      have f1619 := f1576.keep Kq1596
      have f1620 := f1577.keep Kq1596 (ninS (own_nf q1362_1.lt g1384) nin0)
      have f1621 := f1578.keep Kq1596 (ninS (own_nf q1362_1.lt g1384) nin0)
      have f1622 := f1579.keep Kq1596 (ninS (own_nf q1362_4.lt g1384) nin0)
      have f1623 := f1580.keep Kq1596
      have f1624 := f1581.keep Kq1596 (ninS (own_nf q1362_5.lt g1384) nin0)
      have f1625 := f1582.keep Kq1596 (ninS (own_nf q1362_5.lt g1384) nin0)
      have f1626 := f1583.keep Kq1596 (ninS (own_nf q1362_8.lt g1384) nin0)
      have f1627 := f1584.keep Kq1596
      have f1628 := q1553_0.keep Kq1596
      have Z1596 := Nat.le_trans Z1553 Kq1596.1
      have hk1596 := Nat.le_trans hk1553 Kq1596.1
      refine own_s T1596 (mkF m 163 #[iv p1, iv p2, iv p3, iv p4, iv p5, iv 3, iv 0, rv zd1335, iv 6, u_, u_] [(.ref b1384)]) st1596 ?_
      refine own_s T1596 (mkF m 167 #[iv p1, iv p2, iv p3, iv p4, iv p5, iv 3, iv 0, rv zd1335, iv 6, rv b1384, u_] [(.ref b1384)]) (fun _ k => XS.astore X1596.here hx rfl (hb hby at_163) rfl rfl (l' := #[iv p1, iv p2, iv p3, iv p4, iv p5, iv 3, iv 0, rv zd1335, iv 6, rv b1384, u_]) rfl (XS.aload X1596.here hx rfl (hb hby at_165) rfl rfl k)) ?_
      obtain ⟨v1629, T1629, L1629, X1629, hQ1629, st1629⟩ := own_callV X1596 hx hZ (y := own_y12) (z := own_y12) (W := 0) (a := b1384) hown (own_h hw 73 rfl) (own_h hw 74 rfl) (notFace_of_selects (args := #[]) (mvT hZ (own_h hw 76 rfl))) (own_h hw 76 rfl) (own_h hw 75 rfl) (own_h hw 2 rfl) (own_h hw 77 rfl) (by decide) (own_rmcnt2 l Z a0 hw [] b1384 zd1335 zkd1335 [(.ref zsn1342), (.ref zsv1342), (.ref zsn1348), (.ref zsv1348), (.ref zsn1362), (.ref zsv1362), .null, .null, .null, .null, .null, .null, .null] (6 : Int32) T1596.heap n0 Z1596 q1596_1 q1596_2 f1618) (by decide) (by decide) q1596_0 (g := (mkF m 167 #[iv p1, iv p2, iv p3, iv p4, iv p5, iv 3, iv 0, rv zd1335, iv 6, rv b1384, u_] [(.ref b1384)])) rfl (by rw [hml]; rfl) (argsL := []) (rest := []) rfl (lenOf own_pd13 rfl) rfl (by show 2 * 0 + _ ≤ _; exact Nat.le_of_eq rfl) (hb hby at_167) rfl (by decide) (by decide)
      obtain ⟨rfl, Nq1629, e1629⟩ := hQ1629
      have N1629 := Fr.app N1596 Nq1629
      refine own_s T1629 (mkF m 170 #[iv p1, iv p2, iv p3, iv p4, iv p5, iv 3, iv 0, rv zd1335, iv 6, rv b1384, u_] [(.int ((6 : Int32) / (2 : Int32)))]) st1629 ?_
      refine own_s T1629 (mkF m 190 #[iv p1, iv p2, iv p3, iv p4, iv p5, iv 3, iv 0, rv zd1335, iv 6, rv b1384, iv 1] []) (fun _ k => XS.iload X1629.here hx rfl (hb hby at_170) rfl  (XS.icmpYes X1629.here hx rfl (pc0 := 172) (pc' := 177) rfl (hb hby at_172) rfl (teq (by decide)).1 (by decide) (by decide) (XS.iconst X1629.here hx rfl (hb hby at_177) (XS.istore X1629.here hx rfl (hb hby at_178) rfl (l' := #[iv p1, iv p2, iv p3, iv p4, iv p5, iv 3, iv 0, rv zd1335, iv 6, rv b1384, iv 1]) rfl (XS.iload X1629.here hx rfl (hb hby at_180) rfl  (XS.ifNo X1629.here hx rfl (hb hby at_182) rfl ((if0 _ _).trans (tlt (by decide : ((0 : Int32) < (3 : Int32)))).2.2.2) (XS.iload X1629.here hx rfl (hb hby at_185) rfl  (XS.ifNo X1629.here hx rfl (hb hby at_187) rfl ((if0 _ _).trans (feq (by decide : ¬ ((1 : Int32) = (0 : Int32)))).1) k)))))))) ?_
      refine own_s T1629 (mkF m 200 #[iv p1, iv p2, iv p3, iv p4, iv p5, iv 3, iv 0, rv zd1335, iv 6, rv b1384, iv 1] [(.int p5), (.int p4), (.int p3), (.int p2), (.int 0), (.int 0), (.ref b1384)]) (fun _ k => XS.aload X1629.here hx rfl (hb hby at_190) rfl rfl (XS.iconst X1629.here hx rfl (hb hby at_192) (XS.iload X1629.here hx rfl (hb hby at_193) rfl  (XS.iloadN X1629.here hx rfl (hb hby at_195) rfl  (XS.iloadN X1629.here hx rfl (hb hby at_196) rfl  (XS.iloadN X1629.here hx rfl (hb hby at_197) rfl  (XS.iload X1629.here hx rfl (hb hby at_198) rfl  k))))))) ?_
      obtain ⟨v1630, T1630, L1630, X1630, hQ1630, st1630⟩ := own_callS X1629 hx hZ (y := own_y17) (W := 0) hown (own_h hw 112 rfl) (own_h hw 113 rfl) (own_h hw 80 rfl) (own_h hw 114 rfl) (by decide) (own_rmchk0_0 l Z a0 hw [] b1384 p2 p3 p4 p5 zd1335 zkd1335 (6 : Int32) zsn1342 zsv1342 (.ref zsn1348) (.ref zsv1348) (.ref zsn1362) (.ref zsv1362) .null .null .null .null .null .null .null zbn1342 zkn1342 zbv1342 zkv1342 gC T1596.heap n0 Z1596 q1596_0 q1596_1 q1596_2 f1618 f1602 f1603 f1604 f1605 f1606 f1607 f1608 f1609 f1597 hG (by decide) (by decide)) (by decide) (by decide) (g := (mkF m 200 #[iv p1, iv p2, iv p3, iv p4, iv p5, iv 3, iv 0, rv zd1335, iv 6, rv b1384, iv 1] [(.int p5), (.int p4), (.int p3), (.int p2), (.int 0), (.int 0), (.ref b1384)])) rfl (by rw [hml]; rfl) (argsL := [(.ref b1384), (.int 0), (.int 0), (.int p2), (.int p3), (.int p4), (.int p5)]) (rest := []) rfl (lenOf own_pd15 rfl) rfl (by show 2 * 0 + _ ≤ _; exact Nat.le_of_eq rfl) (hb hby at_200) e1629 (by decide) (by decide)
      obtain ⟨rfl, Nq1630, Kq1630⟩ := hQ1630
      have N1630 := Fr.app N1629 Nq1630
      have f1631 := own_staKeep f1597 Kq1630
      have f1632 := own_staKeep f1598 Kq1630
      have f1633 := own_staKeep f1599 Kq1630
      have f1634 := f1600.keep Kq1630 nin0
      have f1635 := own_staKeep f1601 Kq1630
      have f1636 := f1602.keep Kq1630
      have f1637 := f1603.keep Kq1630 nin0
      have f1638 := f1604.keep Kq1630 nin0
      have f1639 := f1605.keep Kq1630 nin0
      have f1640 := f1606.keep Kq1630
      have f1641 := f1607.keep Kq1630 nin0
      have f1642 := f1608.keep Kq1630 nin0
      have f1643 := f1609.keep Kq1630 nin0
      have f1644 := f1610.keep Kq1630
      have f1645 := f1611.keep Kq1630 nin0
      have f1646 := f1612.keep Kq1630 nin0
      have f1647 := f1613.keep Kq1630 nin0
      have f1648 := f1614.keep Kq1630
      have f1649 := f1615.keep Kq1630 nin0
      have f1650 := f1616.keep Kq1630 nin0
      have f1651 := f1617.keep Kq1630 nin0
      have f1652 := f1618.keep Kq1630 nin0
      have f1653 := f1619.keep Kq1630
      have f1654 := f1620.keep Kq1630 nin0
      have f1655 := f1621.keep Kq1630 nin0
      have f1656 := f1622.keep Kq1630 nin0
      have f1657 := f1623.keep Kq1630
      have f1658 := f1624.keep Kq1630 nin0
      have f1659 := f1625.keep Kq1630 nin0
      have f1660 := f1626.keep Kq1630 nin0
      have f1661 := q1596_0.keep Kq1630
      have f1662 := f1628.keep Kq1630
      have f1663 := q1596_1.keep Kq1630 nin0
      have f1664 := q1596_2.keep Kq1630 nin0
      have Z1630 := Nat.le_trans Z1596 Kq1630.1
      have hk1630 := Nat.le_trans hk1596 Kq1630.1
      refine own_s T1630 (mkF m 203 #[iv p1, iv p2, iv p3, iv p4, iv p5, iv 3, iv 0, rv zd1335, iv 6, rv b1384, iv 1] [(.int 1)]) st1630 ?_
      refine own_s T1630 (mkF m 221 #[iv p1, iv p2, iv p3, iv p4, iv p5, iv 3, iv 0, rv zd1335, iv 6, rv b1384, iv 1] [(.int 1)]) (fun _ k => XS.ifNo X1630.here hx rfl (hb hby at_203) rfl ((if0 _ _).trans (feq (by decide : ¬ ((1 : Int32) = (0 : Int32)))).1) (XS.iconst X1630.here hx rfl (hb hby at_206) (XS.goto X1630.here hx rfl (pc0 := 207) (pc' := 211) rfl (hb hby at_207) (by decide) (by decide) (XS.istore X1630.here hx rfl (hb hby at_211) rfl (l' := #[iv p1, iv p2, iv p3, iv p4, iv p5, iv 3, iv 0, rv zd1335, iv 6, rv b1384, iv 1]) rfl (XS.iload X1630.here hx rfl (hb hby at_213) rfl  (XS.iconst X1630.here hx rfl (hb hby at_215) (XS.icmpNo X1630.here hx rfl (hb hby at_216) rfl (tlt (by decide : ((1 : Int32) < (3 : Int32)))).2.2.2 (XS.iload X1630.here hx rfl (hb hby at_219) rfl  k)))))))) ?_
      refine own_s T1630 (mkF m 234 #[iv p1, iv p2, iv p3, iv p4, iv p5, iv 3, iv 0, rv zd1335, iv 6, rv b1384, iv 1] [(.int p5), (.int p4), (.int p3), (.int p2), (.int 0), (.int 1), (.ref b1384)]) (fun _ k => XS.ifNo X1630.here hx rfl (hb hby at_221) rfl ((if0 _ _).trans (feq (by decide : ¬ ((1 : Int32) = (0 : Int32)))).1) (XS.aload X1630.here hx rfl (hb hby at_224) rfl rfl (XS.iconst X1630.here hx rfl (hb hby at_226) (XS.iload X1630.here hx rfl (hb hby at_227) rfl  (XS.iloadN X1630.here hx rfl (hb hby at_229) rfl  (XS.iloadN X1630.here hx rfl (hb hby at_230) rfl  (XS.iloadN X1630.here hx rfl (hb hby at_231) rfl  (XS.iload X1630.here hx rfl (hb hby at_232) rfl  k)))))))) ?_
      obtain ⟨v1665, T1665, L1665, X1665, hQ1665, st1665⟩ := own_callS X1630 hx hZ (y := own_y17) (W := 0) hown (own_h hw 112 rfl) (own_h hw 113 rfl) (own_h hw 80 rfl) (own_h hw 114 rfl) (by decide) (own_rmchk1_0 l Z a0 hw [] b1384 p2 p3 p4 p5 zd1335 zkd1335 (6 : Int32) (.ref zsn1342) (.ref zsv1342) zsn1348 zsv1348 (.ref zsn1362) (.ref zsv1362) .null .null .null .null .null .null .null zbn1348 zkn1348 zbv1348 zkv1348 gC T1630.heap n0 Z1630 f1661 f1663 f1664 f1652 f1644 f1645 f1646 f1647 f1648 f1649 f1650 f1651 f1631 hG (by decide) (by decide)) (by decide) (by decide) (g := (mkF m 234 #[iv p1, iv p2, iv p3, iv p4, iv p5, iv 3, iv 0, rv zd1335, iv 6, rv b1384, iv 1] [(.int p5), (.int p4), (.int p3), (.int p2), (.int 0), (.int 1), (.ref b1384)])) rfl (by rw [hml]; rfl) (argsL := [(.ref b1384), (.int 1), (.int 0), (.int p2), (.int p3), (.int p4), (.int p5)]) (rest := []) rfl (lenOf own_pd15 rfl) rfl (by show 2 * 0 + _ ≤ _; exact Nat.le_of_eq rfl) (hb hby at_234) rfl (by decide) (by decide)
      obtain ⟨rfl, Nq1665, Kq1665⟩ := hQ1665
      have N1665 := Fr.app N1630 Nq1665
      have f1666 := own_staKeep f1631 Kq1665
      have f1667 := own_staKeep f1632 Kq1665
      have f1668 := own_staKeep f1633 Kq1665
      have f1669 := f1634.keep Kq1665 nin0
      have f1670 := own_staKeep f1635 Kq1665
      have f1671 := f1636.keep Kq1665
      have f1672 := f1637.keep Kq1665 nin0
      have f1673 := f1638.keep Kq1665 nin0
      have f1674 := f1639.keep Kq1665 nin0
      have f1675 := f1640.keep Kq1665
      have f1676 := f1641.keep Kq1665 nin0
      have f1677 := f1642.keep Kq1665 nin0
      have f1678 := f1643.keep Kq1665 nin0
      have f1679 := f1644.keep Kq1665
      have f1680 := f1645.keep Kq1665 nin0
      have f1681 := f1646.keep Kq1665 nin0
      have f1682 := f1647.keep Kq1665 nin0
      have f1683 := f1648.keep Kq1665
      have f1684 := f1649.keep Kq1665 nin0
      have f1685 := f1650.keep Kq1665 nin0
      have f1686 := f1651.keep Kq1665 nin0
      have f1687 := f1652.keep Kq1665 nin0
      have f1688 := f1653.keep Kq1665
      have f1689 := f1654.keep Kq1665 nin0
      have f1690 := f1655.keep Kq1665 nin0
      have f1691 := f1656.keep Kq1665 nin0
      have f1692 := f1657.keep Kq1665
      have f1693 := f1658.keep Kq1665 nin0
      have f1694 := f1659.keep Kq1665 nin0
      have f1695 := f1660.keep Kq1665 nin0
      have f1696 := f1661.keep Kq1665
      have f1697 := f1662.keep Kq1665
      have f1698 := f1663.keep Kq1665 nin0
      have f1699 := f1664.keep Kq1665 nin0
      have Z1665 := Nat.le_trans Z1630 Kq1665.1
      have hk1665 := Nat.le_trans hk1630 Kq1665.1
      refine own_s T1665 (mkF m 237 #[iv p1, iv p2, iv p3, iv p4, iv p5, iv 3, iv 0, rv zd1335, iv 6, rv b1384, iv 1] [(.int 1)]) st1665 ?_
      refine own_s T1665 (mkF m 255 #[iv p1, iv p2, iv p3, iv p4, iv p5, iv 3, iv 0, rv zd1335, iv 6, rv b1384, iv 1] [(.int 1)]) (fun _ k => XS.ifNo X1665.here hx rfl (hb hby at_237) rfl ((if0 _ _).trans (feq (by decide : ¬ ((1 : Int32) = (0 : Int32)))).1) (XS.iconst X1665.here hx rfl (hb hby at_240) (XS.goto X1665.here hx rfl (pc0 := 241) (pc' := 245) rfl (hb hby at_241) (by decide) (by decide) (XS.istore X1665.here hx rfl (hb hby at_245) rfl (l' := #[iv p1, iv p2, iv p3, iv p4, iv p5, iv 3, iv 0, rv zd1335, iv 6, rv b1384, iv 1]) rfl (XS.iload X1665.here hx rfl (hb hby at_247) rfl  (XS.iconst X1665.here hx rfl (hb hby at_249) (XS.icmpNo X1665.here hx rfl (hb hby at_250) rfl (tlt (by decide : ((2 : Int32) < (3 : Int32)))).2.2.2 (XS.iload X1665.here hx rfl (hb hby at_253) rfl  k)))))))) ?_
      refine own_s T1665 (mkF m 268 #[iv p1, iv p2, iv p3, iv p4, iv p5, iv 3, iv 0, rv zd1335, iv 6, rv b1384, iv 1] [(.int p5), (.int p4), (.int p3), (.int p2), (.int 0), (.int 2), (.ref b1384)]) (fun _ k => XS.ifNo X1665.here hx rfl (hb hby at_255) rfl ((if0 _ _).trans (feq (by decide : ¬ ((1 : Int32) = (0 : Int32)))).1) (XS.aload X1665.here hx rfl (hb hby at_258) rfl rfl (XS.iconst X1665.here hx rfl (hb hby at_260) (XS.iload X1665.here hx rfl (hb hby at_261) rfl  (XS.iloadN X1665.here hx rfl (hb hby at_263) rfl  (XS.iloadN X1665.here hx rfl (hb hby at_264) rfl  (XS.iloadN X1665.here hx rfl (hb hby at_265) rfl  (XS.iload X1665.here hx rfl (hb hby at_266) rfl  k)))))))) ?_
      obtain ⟨v1700, T1700, L1700, X1700, hQ1700, st1700⟩ := own_callS X1665 hx hZ (y := own_y17) (W := 0) hown (own_h hw 112 rfl) (own_h hw 113 rfl) (own_h hw 80 rfl) (own_h hw 114 rfl) (by decide) (own_rmchk2_0 l Z a0 hw [] b1384 p2 p3 p4 p5 zd1335 zkd1335 (6 : Int32) (.ref zsn1342) (.ref zsv1342) (.ref zsn1348) (.ref zsv1348) zsn1362 zsv1362 .null .null .null .null .null .null .null zbn1362 zkn1362 zbv1362 zkv1362 gC T1665.heap n0 Z1665 f1696 f1698 f1699 f1687 f1688 f1689 f1690 f1691 f1692 f1693 f1694 f1695 f1666 hG (by decide) (by decide)) (by decide) (by decide) (g := (mkF m 268 #[iv p1, iv p2, iv p3, iv p4, iv p5, iv 3, iv 0, rv zd1335, iv 6, rv b1384, iv 1] [(.int p5), (.int p4), (.int p3), (.int p2), (.int 0), (.int 2), (.ref b1384)])) rfl (by rw [hml]; rfl) (argsL := [(.ref b1384), (.int 2), (.int 0), (.int p2), (.int p3), (.int p4), (.int p5)]) (rest := []) rfl (lenOf own_pd15 rfl) rfl (by show 2 * 0 + _ ≤ _; exact Nat.le_of_eq rfl) (hb hby at_268) rfl (by decide) (by decide)
      obtain ⟨rfl, Nq1700, Kq1700⟩ := hQ1700
      have N1700 := Fr.app N1665 Nq1700
      have f1701 := own_staKeep f1666 Kq1700
      have f1702 := own_staKeep f1667 Kq1700
      have f1703 := own_staKeep f1668 Kq1700
      have f1704 := f1669.keep Kq1700 nin0
      have f1705 := own_staKeep f1670 Kq1700
      have f1706 := f1671.keep Kq1700
      have f1707 := f1672.keep Kq1700 nin0
      have f1708 := f1673.keep Kq1700 nin0
      have f1709 := f1674.keep Kq1700 nin0
      have f1710 := f1675.keep Kq1700
      have f1711 := f1676.keep Kq1700 nin0
      have f1712 := f1677.keep Kq1700 nin0
      have f1713 := f1678.keep Kq1700 nin0
      have f1714 := f1679.keep Kq1700
      have f1715 := f1680.keep Kq1700 nin0
      have f1716 := f1681.keep Kq1700 nin0
      have f1717 := f1682.keep Kq1700 nin0
      have f1718 := f1683.keep Kq1700
      have f1719 := f1684.keep Kq1700 nin0
      have f1720 := f1685.keep Kq1700 nin0
      have f1721 := f1686.keep Kq1700 nin0
      have f1722 := f1687.keep Kq1700 nin0
      have f1723 := f1688.keep Kq1700
      have f1724 := f1689.keep Kq1700 nin0
      have f1725 := f1690.keep Kq1700 nin0
      have f1726 := f1691.keep Kq1700 nin0
      have f1727 := f1692.keep Kq1700
      have f1728 := f1693.keep Kq1700 nin0
      have f1729 := f1694.keep Kq1700 nin0
      have f1730 := f1695.keep Kq1700 nin0
      have f1731 := f1696.keep Kq1700
      have f1732 := f1697.keep Kq1700
      have f1733 := f1698.keep Kq1700 nin0
      have f1734 := f1699.keep Kq1700 nin0
      have Z1700 := Nat.le_trans Z1665 Kq1700.1
      have hk1700 := Nat.le_trans hk1665 Kq1700.1
      refine own_s T1700 (mkF m 271 #[iv p1, iv p2, iv p3, iv p4, iv p5, iv 3, iv 0, rv zd1335, iv 6, rv b1384, iv 1] [(.int 1)]) st1700 ?_
      refine own_s T1700 (mkF m 283 #[iv p1, iv p2, iv p3, iv p4, iv p5, iv 3, iv 0, rv zd1335, iv 6, rv b1384, iv 1] [(.int 1)]) (fun _ k => XS.ifNo X1700.here hx rfl (hb hby at_271) rfl ((if0 _ _).trans (feq (by decide : ¬ ((1 : Int32) = (0 : Int32)))).1) (XS.iconst X1700.here hx rfl (hb hby at_274) (XS.goto X1700.here hx rfl (pc0 := 275) (pc' := 279) rfl (hb hby at_275) (by decide) (by decide) (XS.istore X1700.here hx rfl (hb hby at_279) rfl (l' := #[iv p1, iv p2, iv p3, iv p4, iv p5, iv 3, iv 0, rv zd1335, iv 6, rv b1384, iv 1]) rfl (XS.iload X1700.here hx rfl (hb hby at_281) rfl  k))))) ?_
      exact own_finZ X1700 hx (t := .boolean) hret (by simp) (z' := (1 : Int32)) rfl (hb hby at_283) (own_endW (Qv := (own_Q0 Z p1 p2 p3 p4 p5 gC oN oA kA oD h0 n0)) X1700 hS (own_some hret) hlk (by decide) (by decide) rfl hk1700 (fun vm' hv' => ⟨rfl, N1700⟩))
    · refine own_s s₁ (mkF m 24 #[iv p1, iv p2, iv p3, iv p4, iv p5, iv 3, iv 1, u_, u_, u_, u_] [(.int 1), (.int 3)]) (fun _ k => XS.ifNo X0.here hx rfl (hb hby at_10) rfl ((if0 _ _).trans (feq c10).1) (XS.iconst X0.here hx rfl (hb hby at_13) (XS.goto X0.here hx rfl (pc0 := 14) (pc' := 18) rfl (hb hby at_14) (by decide) (by decide) (XS.istore X0.here hx rfl (hb hby at_18) rfl (l' := #[iv p1, iv p2, iv p3, iv p4, iv p5, iv 3, iv 1, u_, u_, u_, u_]) rfl (XS.iload X0.here hx rfl (hb hby at_20) rfl  (XS.iload X0.here hx rfl (hb hby at_22) rfl  k)))))) ?_
      obtain ⟨v1735, T1735, L1735, X1735, hQ1735, st1735⟩ := own_callS X0 hx hZ (y := own_y8) (W := 0) hown (own_h hw 0 rfl) (own_h hw 1 rfl) (own_h hw 2 rfl) (own_h hw 3 rfl) (by decide) (own_rmna3_1 l Z a0 hw []  h0 n0 Z0) (by decide) (by decide) (g := (mkF m 24 #[iv p1, iv p2, iv p3, iv p4, iv p5, iv 3, iv 1, u_, u_, u_, u_] [(.int 1), (.int 3)])) rfl (by rw [hml]; rfl) (argsL := [(.int 3), (.int 1)]) (rest := []) rfl (lenOf own_pd11 rfl) rfl (by show 2 * 0 + _ ≤ _; exact Nat.le_of_eq rfl) (hb hby at_24) e0 (by decide) (by decide)
      obtain ⟨zd1735, zkd1735, rfl, Nq1735, Kq1735, g_zd1735, sq_zd1735, q1735_0, q1735_1⟩ := hQ1735
      have N1735 := Fr.app N0 Nq1735
      have f1736 := own_staKeep pr0 Kq1735
      have f1737 := own_staKeep pr1 Kq1735
      have f1738 := own_staKeep pr2 Kq1735
      have f1739 := pr3.keep Kq1735 nin0
      have f1740 := own_staKeep pr4 Kq1735
      have Z1735 := Nat.le_trans Z0 Kq1735.1
      have hk1735 := Nat.le_trans hk0 Kq1735.1
      refine own_s T1735 (mkF m 27 #[iv p1, iv p2, iv p3, iv p4, iv p5, iv 3, iv 1, u_, u_, u_, u_] [(.ref zd1735)]) st1735 ?_
      refine own_s T1735 (mkF m 43 #[iv p1, iv p2, iv p3, iv p4, iv p5, iv 3, iv 1, rv zd1735, u_, u_, u_] [(.int 12)]) (fun _ k => XS.astore X1735.here hx rfl (hb hby at_27) rfl rfl (l' := #[iv p1, iv p2, iv p3, iv p4, iv p5, iv 3, iv 1, rv zd1735, u_, u_, u_]) rfl (XS.iload X1735.here hx rfl (hb hby at_29) rfl  (XS.ifNo X1735.here hx rfl (hb hby at_31) rfl ((if0 _ _).trans (feq (by decide : ¬ ((1 : Int32) = (0 : Int32)))).1) (XS.iload X1735.here hx rfl (hb hby at_34) rfl  (XS.ifNo X1735.here hx rfl (hb hby at_36) rfl ((if0 _ _).trans (tlt (by decide : ((0 : Int32) < (3 : Int32)))).2.2.2) (XS.iconst X1735.here hx rfl (hb hby at_39) (XS.iload X1735.here hx rfl (hb hby at_40) rfl  (XS.imul X1735.here hx rfl (hb hby at_42) rfl k)))))))) ?_
      refine own_s T1735 (mkF m 56 #[iv p1, iv p2, iv p3, iv p4, iv p5, iv 3, iv 1, rv zd1735, iv 13, u_, u_] [(.ref zd1735)]) (fun _ k => XS.iconst X1735.here hx rfl (hb hby at_43) (XS.iadd X1735.here hx rfl (hb hby at_44) rfl (XS.goto X1735.here hx rfl (pc0 := 45) (pc' := 52) rfl (hb hby at_45) (by decide) (by decide) (XS.istore X1735.here hx rfl (hb hby at_52) rfl (l' := #[iv p1, iv p2, iv p3, iv p4, iv p5, iv 3, iv 1, rv zd1735, iv 13, u_, u_]) rfl (XS.aload X1735.here hx rfl (hb hby at_54) rfl rfl k))))) ?_
      obtain ⟨cl1741, Ar1741, q1741, S1741, Nn1741, H1741, G1741⟩ := id q1735_0
      refine own_s T1735 (mkF m 74 #[iv p1, iv p2, iv p3, iv p4, iv p5, iv 3, iv 1, rv zd1735, iv 13, u_, u_] [(.int 1), (.int 0), (.ref zd1735)]) (fun _ k => own_len X1735 hx hZ rfl Ar1741 S1741 Nn1741 (g := (mkF m 56 #[iv p1, iv p2, iv p3, iv p4, iv p5, iv 3, iv 1, rv zd1735, iv 13, u_, u_] [(.ref zd1735)])) rfl rfl (hb hby at_56) (XS.iload X1735.here hx rfl (hb hby at_57) rfl  (XS.icmpYes X1735.here hx rfl (pc0 := 59) (pc' := 64) rfl (hb hby at_59) rfl (teq (by decide : ((13 : Int32) = (13 : Int32)))).1 (by decide) (by decide) (XS.iload X1735.here hx rfl (hb hby at_64) rfl  (XS.ifNo X1735.here hx rfl (hb hby at_66) rfl ((if0 _ _).trans (tlt (by decide : ((0 : Int32) < (3 : Int32)))).2.2.2) (XS.aload X1735.here hx rfl (hb hby at_69) rfl rfl (XS.iconst X1735.here hx rfl (hb hby at_71) (XS.iload X1735.here hx rfl (hb hby at_72) rfl  k)))))))) ?_
      refine own_s T1735 (mkF m 79 #[iv p1, iv p2, iv p3, iv p4, iv p5, iv 3, iv 1, rv zd1735, iv 13, u_, u_] [(.int p5), (.int p4), (.int p3), (.int p2), (.int 1), (.int 0), (.ref zd1735)]) (fun _ k => XS.iloadN X1735.here hx rfl (hb hby at_74) rfl  (XS.iloadN X1735.here hx rfl (hb hby at_75) rfl  (XS.iloadN X1735.here hx rfl (hb hby at_76) rfl  (XS.iload X1735.here hx rfl (hb hby at_77) rfl  k)))) ?_
      obtain ⟨v1742, T1742, L1742, X1742, hQ1742, st1742⟩ := own_callS X1735 hx hZ (y := own_y10) (W := 0) hown (own_h hw 78 rfl) (own_h hw 79 rfl) (own_h hw 80 rfl) (own_h hw 81 rfl) (by decide) (own_rmput0_1 l Z a0 hw [] zd1735 p2 p3 p4 p5 zkd1735 (13 : Int32) .null .null .null .null .null .null .null .null .null .null .null .null .null gC T1735.heap n0 Z1735 g_zd1735 q1735_0 q1735_1 f1736 hG (by decide) (by decide) (by decide) (by decide) (by decide)) (by decide) (by decide) (g := (mkF m 79 #[iv p1, iv p2, iv p3, iv p4, iv p5, iv 3, iv 1, rv zd1735, iv 13, u_, u_] [(.int p5), (.int p4), (.int p3), (.int p2), (.int 1), (.int 0), (.ref zd1735)])) rfl (by rw [hml]; rfl) (argsL := [(.ref zd1735), (.int 0), (.int 1), (.int p2), (.int p3), (.int p4), (.int p5)]) (rest := []) rfl (lenOf own_pd14 rfl) rfl (by show 2 * 0 + _ ≤ _; exact Nat.le_of_eq rfl) (hb hby at_79) rfl (by decide) (by decide)
      obtain ⟨zsn1742, zbn1742, zkn1742, zsv1742, zbv1742, zkv1742, zss1742, zbs1742, zks1742, zsl1742, zbl1742, zkl1742, rfl, Nq1742, Kq1742, g_zsn1742, sq_zsn1742, g_zbn1742, sq_zbn1742, g_zsv1742, sq_zsv1742, g_zbv1742, sq_zbv1742, g_zss1742, sq_zss1742, g_zbs1742, sq_zbs1742, g_zsl1742, sq_zsl1742, g_zbl1742, sq_zbl1742, q1742_0, q1742_1, q1742_2, q1742_3, q1742_4, q1742_5, q1742_6, q1742_7, q1742_8, q1742_9, q1742_10, q1742_11, q1742_12, q1742_13, q1742_14, q1742_15, q1742_16⟩ := hQ1742
      have N1742 := Fr.app N1735 Nq1742
      have f1743 := own_staKeepW f1736 Kq1742 (allS q1735_0.nostat all0)
      have f1744 := own_staKeepW f1737 Kq1742 (allS q1735_0.nostat all0)
      have f1745 := own_staKeepW f1738 Kq1742 (allS q1735_0.nostat all0)
      have f1746 := f1739.keep Kq1742 (ninS (own_nl pr3.lt sq_zd1735) nin0)
      have f1747 := own_staKeepW f1740 Kq1742 (allS q1735_0.nostat all0)
      have Z1742 := Nat.le_trans Z1735 Kq1742.1
      have hk1742 := Nat.le_trans hk1735 Kq1742.1
      refine own_s T1742 (mkF m 82 #[iv p1, iv p2, iv p3, iv p4, iv p5, iv 3, iv 1, rv zd1735, iv 13, u_, u_] []) st1742 ?_
      refine own_s T1742 (mkF m 95 #[iv p1, iv p2, iv p3, iv p4, iv p5, iv 3, iv 1, rv zd1735, iv 13, u_, u_] [(.int p3), (.int p2), (.int 1), (.int 1), (.ref zd1735)]) (fun _ k => XS.iload X1742.here hx rfl (hb hby at_82) rfl  (XS.iconst X1742.here hx rfl (hb hby at_84) (XS.icmpNo X1742.here hx rfl (hb hby at_85) rfl (tlt (by decide : ((1 : Int32) < (3 : Int32)))).2.2.2 (XS.aload X1742.here hx rfl (hb hby at_88) rfl rfl (XS.iconst X1742.here hx rfl (hb hby at_90) (XS.iload X1742.here hx rfl (hb hby at_91) rfl  (XS.iloadN X1742.here hx rfl (hb hby at_93) rfl  (XS.iloadN X1742.here hx rfl (hb hby at_94) rfl  k)))))))) ?_
      refine own_s T1742 (mkF m 98 #[iv p1, iv p2, iv p3, iv p4, iv p5, iv 3, iv 1, rv zd1735, iv 13, u_, u_] [(.int p5), (.int p4), (.int p3), (.int p2), (.int 1), (.int 1), (.ref zd1735)]) (fun _ k => XS.iloadN X1742.here hx rfl (hb hby at_95) rfl  (XS.iload X1742.here hx rfl (hb hby at_96) rfl  k)) ?_
      obtain ⟨v1748, T1748, L1748, X1748, hQ1748, st1748⟩ := own_callS X1742 hx hZ (y := own_y10) (W := 0) hown (own_h hw 78 rfl) (own_h hw 79 rfl) (own_h hw 80 rfl) (own_h hw 81 rfl) (by decide) (own_rmput1_1 l Z a0 hw [] zd1735 p2 p3 p4 p5 zkd1735 (13 : Int32) (.ref zsn1742) (.ref zsv1742) (.ref zss1742) (.ref zsl1742) .null .null .null .null .null .null .null .null .null gC T1742.heap n0 Z1742 g_zd1735 q1742_0 q1735_1 f1743 hG (by decide) (by decide) (by decide) (by decide) (by decide)) (by decide) (by decide) (g := (mkF m 98 #[iv p1, iv p2, iv p3, iv p4, iv p5, iv 3, iv 1, rv zd1735, iv 13, u_, u_] [(.int p5), (.int p4), (.int p3), (.int p2), (.int 1), (.int 1), (.ref zd1735)])) rfl (by rw [hml]; rfl) (argsL := [(.ref zd1735), (.int 1), (.int 1), (.int p2), (.int p3), (.int p4), (.int p5)]) (rest := []) rfl (lenOf own_pd14 rfl) rfl (by show 2 * 0 + _ ≤ _; exact Nat.le_of_eq rfl) (hb hby at_98) rfl (by decide) (by decide)
      obtain ⟨zsn1748, zbn1748, zkn1748, zsv1748, zbv1748, zkv1748, zss1748, zbs1748, zks1748, zsl1748, zbl1748, zkl1748, rfl, Nq1748, Kq1748, g_zsn1748, sq_zsn1748, g_zbn1748, sq_zbn1748, g_zsv1748, sq_zsv1748, g_zbv1748, sq_zbv1748, g_zss1748, sq_zss1748, g_zbs1748, sq_zbs1748, g_zsl1748, sq_zsl1748, g_zbl1748, sq_zbl1748, q1748_0, q1748_1, q1748_2, q1748_3, q1748_4, q1748_5, q1748_6, q1748_7, q1748_8, q1748_9, q1748_10, q1748_11, q1748_12, q1748_13, q1748_14, q1748_15, q1748_16⟩ := hQ1748
      have N1748 := Fr.app N1742 Nq1748
      have f1749 := own_staKeepW f1743 Kq1748 (allS q1742_0.nostat all0)
      have f1750 := own_staKeepW f1744 Kq1748 (allS q1742_0.nostat all0)
      have f1751 := own_staKeepW f1745 Kq1748 (allS q1742_0.nostat all0)
      have f1752 := f1746.keep Kq1748 (ninS (own_nl pr3.lt sq_zd1735) nin0)
      have f1753 := own_staKeepW f1747 Kq1748 (allS q1742_0.nostat all0)
      have f1754 := q1742_1.keep Kq1748
      have f1755 := q1742_2.keep Kq1748 (ninS (Ne.symm (own_nl q1735_0.lt sq_zsn1742)) nin0)
      have f1756 := q1742_3.keep Kq1748 (ninS (Ne.symm (own_nl q1735_0.lt sq_zsn1742)) nin0)
      have f1757 := q1742_4.keep Kq1748 (ninS (Ne.symm (own_nl q1735_0.lt sq_zbn1742)) nin0)
      have f1758 := q1742_5.keep Kq1748
      have f1759 := q1742_6.keep Kq1748 (ninS (Ne.symm (own_nl q1735_0.lt sq_zsv1742)) nin0)
      have f1760 := q1742_7.keep Kq1748 (ninS (Ne.symm (own_nl q1735_0.lt sq_zsv1742)) nin0)
      have f1761 := q1742_8.keep Kq1748 (ninS (Ne.symm (own_nl q1735_0.lt sq_zbv1742)) nin0)
      have f1762 := q1742_9.keep Kq1748
      have f1763 := q1742_10.keep Kq1748 (ninS (Ne.symm (own_nl q1735_0.lt sq_zss1742)) nin0)
      have f1764 := q1742_11.keep Kq1748 (ninS (Ne.symm (own_nl q1735_0.lt sq_zss1742)) nin0)
      have f1765 := q1742_12.keep Kq1748 (ninS (Ne.symm (own_nl q1735_0.lt sq_zbs1742)) nin0)
      have f1766 := q1742_13.keep Kq1748
      have f1767 := q1742_14.keep Kq1748 (ninS (Ne.symm (own_nl q1735_0.lt sq_zsl1742)) nin0)
      have f1768 := q1742_15.keep Kq1748 (ninS (Ne.symm (own_nl q1735_0.lt sq_zsl1742)) nin0)
      have f1769 := q1742_16.keep Kq1748 (ninS (Ne.symm (own_nl q1735_0.lt sq_zbl1742)) nin0)
      have Z1748 := Nat.le_trans Z1742 Kq1748.1
      have hk1748 := Nat.le_trans hk1742 Kq1748.1
      refine own_s T1748 (mkF m 101 #[iv p1, iv p2, iv p3, iv p4, iv p5, iv 3, iv 1, rv zd1735, iv 13, u_, u_] []) st1748 ?_
      refine own_s T1748 (mkF m 114 #[iv p1, iv p2, iv p3, iv p4, iv p5, iv 3, iv 1, rv zd1735, iv 13, u_, u_] [(.int p3), (.int p2), (.int 1), (.int 2), (.ref zd1735)]) (fun _ k => XS.iload X1748.here hx rfl (hb hby at_101) rfl  (XS.iconst X1748.here hx rfl (hb hby at_103) (XS.icmpNo X1748.here hx rfl (hb hby at_104) rfl (tlt (by decide : ((2 : Int32) < (3 : Int32)))).2.2.2 (XS.aload X1748.here hx rfl (hb hby at_107) rfl rfl (XS.iconst X1748.here hx rfl (hb hby at_109) (XS.iload X1748.here hx rfl (hb hby at_110) rfl  (XS.iloadN X1748.here hx rfl (hb hby at_112) rfl  (XS.iloadN X1748.here hx rfl (hb hby at_113) rfl  k)))))))) ?_
      refine own_s T1748 (mkF m 117 #[iv p1, iv p2, iv p3, iv p4, iv p5, iv 3, iv 1, rv zd1735, iv 13, u_, u_] [(.int p5), (.int p4), (.int p3), (.int p2), (.int 1), (.int 2), (.ref zd1735)]) (fun _ k => XS.iloadN X1748.here hx rfl (hb hby at_114) rfl  (XS.iload X1748.here hx rfl (hb hby at_115) rfl  k)) ?_
      obtain ⟨v1770, T1770, L1770, X1770, hQ1770, st1770⟩ := own_callS X1748 hx hZ (y := own_y10) (W := 0) hown (own_h hw 78 rfl) (own_h hw 79 rfl) (own_h hw 80 rfl) (own_h hw 81 rfl) (by decide) (own_rmput2_1 l Z a0 hw [] zd1735 p2 p3 p4 p5 zkd1735 (13 : Int32) (.ref zsn1742) (.ref zsv1742) (.ref zss1742) (.ref zsl1742) (.ref zsn1748) (.ref zsv1748) (.ref zss1748) (.ref zsl1748) .null .null .null .null .null gC T1748.heap n0 Z1748 g_zd1735 q1748_0 q1735_1 f1749 hG (by decide) (by decide) (by decide) (by decide) (by decide)) (by decide) (by decide) (g := (mkF m 117 #[iv p1, iv p2, iv p3, iv p4, iv p5, iv 3, iv 1, rv zd1735, iv 13, u_, u_] [(.int p5), (.int p4), (.int p3), (.int p2), (.int 1), (.int 2), (.ref zd1735)])) rfl (by rw [hml]; rfl) (argsL := [(.ref zd1735), (.int 2), (.int 1), (.int p2), (.int p3), (.int p4), (.int p5)]) (rest := []) rfl (lenOf own_pd14 rfl) rfl (by show 2 * 0 + _ ≤ _; exact Nat.le_of_eq rfl) (hb hby at_117) rfl (by decide) (by decide)
      obtain ⟨zsn1770, zbn1770, zkn1770, zsv1770, zbv1770, zkv1770, zss1770, zbs1770, zks1770, zsl1770, zbl1770, zkl1770, rfl, Nq1770, Kq1770, g_zsn1770, sq_zsn1770, g_zbn1770, sq_zbn1770, g_zsv1770, sq_zsv1770, g_zbv1770, sq_zbv1770, g_zss1770, sq_zss1770, g_zbs1770, sq_zbs1770, g_zsl1770, sq_zsl1770, g_zbl1770, sq_zbl1770, q1770_0, q1770_1, q1770_2, q1770_3, q1770_4, q1770_5, q1770_6, q1770_7, q1770_8, q1770_9, q1770_10, q1770_11, q1770_12, q1770_13, q1770_14, q1770_15, q1770_16⟩ := hQ1770
      have N1770 := Fr.app N1748 Nq1770
      have f1771 := own_staKeepW f1749 Kq1770 (allS q1748_0.nostat all0)
      have f1772 := own_staKeepW f1750 Kq1770 (allS q1748_0.nostat all0)
      have f1773 := own_staKeepW f1751 Kq1770 (allS q1748_0.nostat all0)
      have f1774 := f1752.keep Kq1770 (ninS (own_nl pr3.lt sq_zd1735) nin0)
      have f1775 := own_staKeepW f1753 Kq1770 (allS q1748_0.nostat all0)
      have f1776 := f1754.keep Kq1770
      have f1777 := f1755.keep Kq1770 (ninS (Ne.symm (own_nl q1735_0.lt sq_zsn1742)) nin0)
      have f1778 := f1756.keep Kq1770 (ninS (Ne.symm (own_nl q1735_0.lt sq_zsn1742)) nin0)
      have f1779 := f1757.keep Kq1770 (ninS (Ne.symm (own_nl q1735_0.lt sq_zbn1742)) nin0)
      have f1780 := f1758.keep Kq1770
      have f1781 := f1759.keep Kq1770 (ninS (Ne.symm (own_nl q1735_0.lt sq_zsv1742)) nin0)
      have f1782 := f1760.keep Kq1770 (ninS (Ne.symm (own_nl q1735_0.lt sq_zsv1742)) nin0)
      have f1783 := f1761.keep Kq1770 (ninS (Ne.symm (own_nl q1735_0.lt sq_zbv1742)) nin0)
      have f1784 := f1762.keep Kq1770
      have f1785 := f1763.keep Kq1770 (ninS (Ne.symm (own_nl q1735_0.lt sq_zss1742)) nin0)
      have f1786 := f1764.keep Kq1770 (ninS (Ne.symm (own_nl q1735_0.lt sq_zss1742)) nin0)
      have f1787 := f1765.keep Kq1770 (ninS (Ne.symm (own_nl q1735_0.lt sq_zbs1742)) nin0)
      have f1788 := f1766.keep Kq1770
      have f1789 := f1767.keep Kq1770 (ninS (Ne.symm (own_nl q1735_0.lt sq_zsl1742)) nin0)
      have f1790 := f1768.keep Kq1770 (ninS (Ne.symm (own_nl q1735_0.lt sq_zsl1742)) nin0)
      have f1791 := f1769.keep Kq1770 (ninS (Ne.symm (own_nl q1735_0.lt sq_zbl1742)) nin0)
      have f1792 := q1748_1.keep Kq1770
      have f1793 := q1748_2.keep Kq1770 (ninS (Ne.symm (own_nl q1742_0.lt sq_zsn1748)) nin0)
      have f1794 := q1748_3.keep Kq1770 (ninS (Ne.symm (own_nl q1742_0.lt sq_zsn1748)) nin0)
      have f1795 := q1748_4.keep Kq1770 (ninS (Ne.symm (own_nl q1742_0.lt sq_zbn1748)) nin0)
      have f1796 := q1748_5.keep Kq1770
      have f1797 := q1748_6.keep Kq1770 (ninS (Ne.symm (own_nl q1742_0.lt sq_zsv1748)) nin0)
      have f1798 := q1748_7.keep Kq1770 (ninS (Ne.symm (own_nl q1742_0.lt sq_zsv1748)) nin0)
      have f1799 := q1748_8.keep Kq1770 (ninS (Ne.symm (own_nl q1742_0.lt sq_zbv1748)) nin0)
      have f1800 := q1748_9.keep Kq1770
      have f1801 := q1748_10.keep Kq1770 (ninS (Ne.symm (own_nl q1742_0.lt sq_zss1748)) nin0)
      have f1802 := q1748_11.keep Kq1770 (ninS (Ne.symm (own_nl q1742_0.lt sq_zss1748)) nin0)
      have f1803 := q1748_12.keep Kq1770 (ninS (Ne.symm (own_nl q1742_0.lt sq_zbs1748)) nin0)
      have f1804 := q1748_13.keep Kq1770
      have f1805 := q1748_14.keep Kq1770 (ninS (Ne.symm (own_nl q1742_0.lt sq_zsl1748)) nin0)
      have f1806 := q1748_15.keep Kq1770 (ninS (Ne.symm (own_nl q1742_0.lt sq_zsl1748)) nin0)
      have f1807 := q1748_16.keep Kq1770 (ninS (Ne.symm (own_nl q1742_0.lt sq_zbl1748)) nin0)
      have Z1770 := Nat.le_trans Z1748 Kq1770.1
      have hk1770 := Nat.le_trans hk1748 Kq1770.1
      refine own_s T1770 (mkF m 120 #[iv p1, iv p2, iv p3, iv p4, iv p5, iv 3, iv 1, rv zd1735, iv 13, u_, u_] []) st1770 ?_
      refine own_s T1770 (mkF m 133 #[iv p1, iv p2, iv p3, iv p4, iv p5, iv 3, iv 1, rv zd1735, iv 13, u_, u_] [(.int 1), (.int 13), (.ref zd1735)]) (fun _ k => XS.iload X1770.here hx rfl (hb hby at_120) rfl  (XS.iconst X1770.here hx rfl (hb hby at_122) (iremM X1770 hx rfl (hb hby at_123) rfl (by decide) (XS.iconst X1770.here hx rfl (hb hby at_124) (XS.icmpNo X1770.here hx rfl (hb hby at_125) rfl (teq (by decide)).2 (XS.aload X1770.here hx rfl (hb hby at_128) rfl rfl (XS.iload X1770.here hx rfl (hb hby at_130) rfl  (XS.iconst X1770.here hx rfl (hb hby at_132) k)))))))) ?_
      refine own_s T1770 (mkF m 134 #[iv p1, iv p2, iv p3, iv p4, iv p5, iv 3, iv 1, rv zd1735, iv 13, u_, u_] [(.int 12), (.ref zd1735)]) (fun _ k => XS.isub X1770.here hx rfl (hb hby at_133) rfl k) ?_
      obtain ⟨cl1808, Ar1808, q1808, S1808, Nn1808, H1808, G1808⟩ := id q1770_0
      have hin1808 : ¬ ((12 : Int32) < 0 ∨ cl1808.slots.size ≤ ((12 : Int32)).toNatClampNeg) := (inb_of S1808 ⟨by decide, by decide⟩)
      refine own_s T1770 (mkF m 140 #[iv p1, iv p2, iv p3, iv p4, iv p5, iv 3, iv 1, rv zd1735, iv 13, u_, u_] []) (fun _ k => X1770.aaload hx (j := (12 : Int32)) (v := .null) (own_at rfl Ar1808.1) (State.isArrayOf_alike hZ.alike Ar1808.2.1) rfl Ar1808.2.2 hin1808 (Has.at H1808 hin1808 rfl) (g := (mkF m 134 #[iv p1, iv p2, iv p3, iv p4, iv p5, iv 3, iv 1, rv zd1735, iv 13, u_, u_] [(.int 12), (.ref zd1735)])) rfl rfl (hb hby at_134) _ (XS.ifnullYes X1770.here hx rfl (pc0 := 135) (pc' := 140) rfl (hb hby at_135) rfl (by decide) (by decide) k)) ?_
      obtain ⟨T1809, h1809, X1809, e1809, E1809, A1809, D1809, -, st1809⟩ := newO X1770 hx hZ hown (own_h hw 6 rfl) (own_h hw 7 rfl) (own_h hw 2 rfl) rfl (g := (mkF m 140 #[iv p1, iv p2, iv p3, iv p4, iv p5, iv 3, iv 1, rv zd1735, iv 13, u_, u_] [])) rfl (hb hby at_140) (by decide) (by decide)
      obtain ⟨b1809, g1809⟩ : ∃ z, z = T1770.heap.size := ⟨_, rfl⟩
      have g_b1809 : n0 ≤ b1809 := Nat.le_trans Z1770 (Nat.le_of_eq g1809.symm)
      rw [← g1809] at A1809 D1809 st1809
      have f1810 := Sta.ext E1809 f1771
      have f1811 := Sta.ext E1809 f1772
      have f1812 := Sta.ext E1809 f1773
      have f1813 := f1774.ext E1809
      have f1814 := Sta.ext E1809 f1775
      have f1815 := Exa.ext E1809 f1776
      have f1816 := Fld.ext E1809 f1777
      have f1817 := Fld.ext E1809 f1778
      have f1818 := f1779.ext E1809
      have f1819 := Exa.ext E1809 f1780
      have f1820 := Fld.ext E1809 f1781
      have f1821 := Fld.ext E1809 f1782
      have f1822 := f1783.ext E1809
      have f1823 := Exa.ext E1809 f1784
      have f1824 := Fld.ext E1809 f1785
      have f1825 := Fld.ext E1809 f1786
      have f1826 := f1787.ext E1809
      have f1827 := Exa.ext E1809 f1788
      have f1828 := Fld.ext E1809 f1789
      have f1829 := Fld.ext E1809 f1790
      have f1830 := f1791.ext E1809
      have f1831 := Exa.ext E1809 f1792
      have f1832 := Fld.ext E1809 f1793
      have f1833 := Fld.ext E1809 f1794
      have f1834 := f1795.ext E1809
      have f1835 := Exa.ext E1809 f1796
      have f1836 := Fld.ext E1809 f1797
      have f1837 := Fld.ext E1809 f1798
      have f1838 := f1799.ext E1809
      have f1839 := Exa.ext E1809 f1800
      have f1840 := Fld.ext E1809 f1801
      have f1841 := Fld.ext E1809 f1802
      have f1842 := f1803.ext E1809
      have f1843 := Exa.ext E1809 f1804
      have f1844 := Fld.ext E1809 f1805
      have f1845 := Fld.ext E1809 f1806
      have f1846 := f1807.ext E1809
      have f1847 := q1770_0.ext E1809
      have f1848 := Exa.ext E1809 q1770_1
      have f1849 := Fld.ext E1809 q1770_2
      have f1850 := Fld.ext E1809 q1770_3
      have f1851 := q1770_4.ext E1809
      have f1852 := Exa.ext E1809 q1770_5
      have f1853 := Fld.ext E1809 q1770_6
      have f1854 := Fld.ext E1809 q1770_7
      have f1855 := q1770_8.ext E1809
      have f1856 := Exa.ext E1809 q1770_9
      have f1857 := Fld.ext E1809 q1770_10
      have f1858 := Fld.ext E1809 q1770_11
      have f1859 := q1770_12.ext E1809
      have f1860 := Exa.ext E1809 q1770_13
      have f1861 := Fld.ext E1809 q1770_14
      have f1862 := Fld.ext E1809 q1770_15
      have f1863 := q1770_16.ext E1809
      have Z1809 := Nat.le_trans Z1770 E1809.1
      have hk1809 := Nat.le_trans hk1770 E1809.1
      have f1864 : Fld Z h1809 b1809 "com/example/tagwright/tagwright/XmlElement" "children" "Ljava/util/List;" .null := D1809 (Or.inl (own_h hw 49 rfl)) (ty := (.object "java/util/List")) (by decide)
      have f1865 : Fld Z h1809 b1809 "com/example/tagwright/tagwright/XmlElement" "namespace" "Ljava/lang/String;" .null := D1809 (Or.inr (own_h hw 51 rfl)) (ty := (.object "java/lang/String")) (by decide)
      have f1866 : Fld Z h1809 b1809 "com/example/tagwright/tagwright/XmlElement" "localName" "Ljava/lang/String;" .null := D1809 (Or.inr (own_h hw 53 rfl)) (ty := (.object "java/lang/String")) (by decide)
      have f1867 : Fld Z h1809 b1809 "com/example/tagwright/tagwright/XmlElement" "tagName" "Ljava/lang/String;" .null := D1809 (Or.inr (own_h hw 55 rfl)) (ty := (.object "java/lang/String")) (by decide)
      have f1868 : Fld Z h1809 b1809 "com/example/tagwright/tagwright/XmlElement" "declarations" "Ljava/util/List;" .null := D1809 (Or.inr (own_h hw 57 rfl)) (ty := (.object "java/util/List")) (by decide)
      have f1869 : Fld Z h1809 b1809 "com/example/tagwright/tagwright/XmlElement" "attributes" "[Ljava/lang/String;" .null := D1809 (Or.inr (own_h hw 61 rfl)) (ty := (.array (.object "java/lang/String"))) (by decide)
      have f1870 : Fld Z h1809 b1809 "com/example/tagwright/tagwright/XmlElement" "stride" "B" (.int 0) := D1809 (Or.inr (own_h hw 66 rfl)) (ty := .byte) (by decide)
      have f1871 : Fld Z h1809 b1809 "com/example/tagwright/tagwright/XmlElement" "location" "Lcom/example/tagwright/tagwright/Location;" .null := D1809 (Or.inr (own_h hw 68 rfl)) (ty := (.object "com/example/tagwright/tagwright/Location")) (by decide)
      have f1872 : Fld Z h1809 b1809 "com/example/tagwright/tagwright/XmlElement" "parent" "Lcom/example/tagwright/tagwright/XmlElement;" .null := D1809 (Or.inr (own_h hw 70 rfl)) (ty := (.object "com/example/tagwright/tagwright/XmlElement")) (by decide)
      have f1873 : Fld Z h1809 b1809 "com/example/tagwright/tagwright/XmlElement" "index" "I" (.int 0) := D1809 (Or.inr (own_h hw 72 rfl)) (ty := .int) (by decide)
      refine own_s T1809 (mkF m 143 #[iv p1, iv p2, iv p3, iv p4, iv p5, iv 3, iv 1, rv zd1735, iv 13, u_, u_] [(.ref b1809)]) st1809 ?_
      refine own_s T1809 (mkF m 145 #[iv p1, iv p2, iv p3, iv p4, iv p5, iv 3, iv 1, rv zd1735, iv 13, u_, u_] [.null, (.ref b1809), (.ref b1809)]) (fun _ k => XS.dup X1809.here hx rfl (hb hby at_143) rfl rfl (XS.aconstNull X1809.here hx rfl (hb hby at_144) k)) ?_
      obtain ⟨sl1874, T1874, h1874, kk1874, X1874, e1874, E1874, hS, hk1874, hZ, hown, st1874⟩ := ldcS (s := s) X1809 hx hZ hown (own_h hw 8 rfl) (own_wS hw) e1809 hS hk1809 (g := (mkF m 145 #[iv p1, iv p2, iv p3, iv p4, iv p5, iv 3, iv 1, rv zd1735, iv 13, u_, u_] [.null, (.ref b1809), (.ref b1809)])) rfl (hb hby at_145) (n := 4) (by decide) (by decide) (by decide) (by decide)
      have f1875 := Sta.ext E1874 f1810
      have f1876 := Sta.ext E1874 f1811
      have f1877 := Sta.ext E1874 f1812
      have f1878 := f1813.ext E1874
      have f1879 := Sta.ext E1874 f1814
      have f1880 := Exa.ext E1874 f1815
      have f1881 := Fld.ext E1874 f1816
      have f1882 := Fld.ext E1874 f1817
      have f1883 := f1818.ext E1874
      have f1884 := Exa.ext E1874 f1819
      have f1885 := Fld.ext E1874 f1820
      have f1886 := Fld.ext E1874 f1821
      have f1887 := f1822.ext E1874
      have f1888 := Exa.ext E1874 f1823
      have f1889 := Fld.ext E1874 f1824
      have f1890 := Fld.ext E1874 f1825
      have f1891 := f1826.ext E1874
      have f1892 := Exa.ext E1874 f1827
      have f1893 := Fld.ext E1874 f1828
      have f1894 := Fld.ext E1874 f1829
      have f1895 := f1830.ext E1874
      have f1896 := Exa.ext E1874 f1831
      have f1897 := Fld.ext E1874 f1832
      have f1898 := Fld.ext E1874 f1833
      have f1899 := f1834.ext E1874
      have f1900 := Exa.ext E1874 f1835
      have f1901 := Fld.ext E1874 f1836
      have f1902 := Fld.ext E1874 f1837
      have f1903 := f1838.ext E1874
      have f1904 := Exa.ext E1874 f1839
      have f1905 := Fld.ext E1874 f1840
      have f1906 := Fld.ext E1874 f1841
      have f1907 := f1842.ext E1874
      have f1908 := Exa.ext E1874 f1843
      have f1909 := Fld.ext E1874 f1844
      have f1910 := Fld.ext E1874 f1845
      have f1911 := f1846.ext E1874
      have f1912 := f1847.ext E1874
      have f1913 := Exa.ext E1874 f1848
      have f1914 := Fld.ext E1874 f1849
      have f1915 := Fld.ext E1874 f1850
      have f1916 := f1851.ext E1874
      have f1917 := Exa.ext E1874 f1852
      have f1918 := Fld.ext E1874 f1853
      have f1919 := Fld.ext E1874 f1854
      have f1920 := f1855.ext E1874
      have f1921 := Exa.ext E1874 f1856
      have f1922 := Fld.ext E1874 f1857
      have f1923 := Fld.ext E1874 f1858
      have f1924 := f1859.ext E1874
      have f1925 := Exa.ext E1874 f1860
      have f1926 := Fld.ext E1874 f1861
      have f1927 := Fld.ext E1874 f1862
      have f1928 := f1863.ext E1874
      have f1929 := Exa.ext E1874 A1809
      have f1930 := Fld.ext E1874 f1864
      have f1931 := Fld.ext E1874 f1865
      have f1932 := Fld.ext E1874 f1866
      have f1933 := Fld.ext E1874 f1867
      have f1934 := Fld.ext E1874 f1868
      have f1935 := Fld.ext E1874 f1869
      have f1936 := Fld.ext E1874 f1870
      have f1937 := Fld.ext E1874 f1871
      have f1938 := Fld.ext E1874 f1872
      have f1939 := Fld.ext E1874 f1873
      have Z1874 := Nat.le_trans Z1809 E1874.1
      refine own_s T1874 (mkF m 147 #[iv p1, iv p2, iv p3, iv p4, iv p5, iv 3, iv 1, rv zd1735, iv 13, u_, u_] [(.ref sl1874), .null, (.ref b1809), (.ref b1809)]) st1874 ?_
      obtain ⟨sl1940, T1940, h1940, kk1940, X1940, e1940, E1940, hS, hk1940, hZ, hown, st1940⟩ := ldcS (s := s) X1874 hx hZ hown (own_h hw 8 rfl) (own_wS hw) e1874 hS hk1874 (g := (mkF m 147 #[iv p1, iv p2, iv p3, iv p4, iv p5, iv 3, iv 1, rv zd1735, iv 13, u_, u_] [(.ref sl1874), .null, (.ref b1809), (.ref b1809)])) rfl (hb hby at_147) (n := 4) (by decide) (by decide) (by decide) (by decide)
      have f1941 := Sta.ext E1940 f1875
      have f1942 := Sta.ext E1940 f1876
      have f1943 := Sta.ext E1940 f1877
      have f1944 := f1878.ext E1940
      have f1945 := Sta.ext E1940 f1879
      have f1946 := Exa.ext E1940 f1880
      have f1947 := Fld.ext E1940 f1881
      have f1948 := Fld.ext E1940 f1882
      have f1949 := f1883.ext E1940
      have f1950 := Exa.ext E1940 f1884
      have f1951 := Fld.ext E1940 f1885
      have f1952 := Fld.ext E1940 f1886
      have f1953 := f1887.ext E1940
      have f1954 := Exa.ext E1940 f1888
      have f1955 := Fld.ext E1940 f1889
      have f1956 := Fld.ext E1940 f1890
      have f1957 := f1891.ext E1940
      have f1958 := Exa.ext E1940 f1892
      have f1959 := Fld.ext E1940 f1893
      have f1960 := Fld.ext E1940 f1894
      have f1961 := f1895.ext E1940
      have f1962 := Exa.ext E1940 f1896
      have f1963 := Fld.ext E1940 f1897
      have f1964 := Fld.ext E1940 f1898
      have f1965 := f1899.ext E1940
      have f1966 := Exa.ext E1940 f1900
      have f1967 := Fld.ext E1940 f1901
      have f1968 := Fld.ext E1940 f1902
      have f1969 := f1903.ext E1940
      have f1970 := Exa.ext E1940 f1904
      have f1971 := Fld.ext E1940 f1905
      have f1972 := Fld.ext E1940 f1906
      have f1973 := f1907.ext E1940
      have f1974 := Exa.ext E1940 f1908
      have f1975 := Fld.ext E1940 f1909
      have f1976 := Fld.ext E1940 f1910
      have f1977 := f1911.ext E1940
      have f1978 := f1912.ext E1940
      have f1979 := Exa.ext E1940 f1913
      have f1980 := Fld.ext E1940 f1914
      have f1981 := Fld.ext E1940 f1915
      have f1982 := f1916.ext E1940
      have f1983 := Exa.ext E1940 f1917
      have f1984 := Fld.ext E1940 f1918
      have f1985 := Fld.ext E1940 f1919
      have f1986 := f1920.ext E1940
      have f1987 := Exa.ext E1940 f1921
      have f1988 := Fld.ext E1940 f1922
      have f1989 := Fld.ext E1940 f1923
      have f1990 := f1924.ext E1940
      have f1991 := Exa.ext E1940 f1925
      have f1992 := Fld.ext E1940 f1926
      have f1993 := Fld.ext E1940 f1927
      have f1994 := f1928.ext E1940
      have f1995 := Exa.ext E1940 f1929
      have f1996 := Fld.ext E1940 f1930
      have f1997 := Fld.ext E1940 f1931
      have f1998 := Fld.ext E1940 f1932
      have f1999 := Fld.ext E1940 f1933
      have f2000 := Fld.ext E1940 f1934
      have f2001 := Fld.ext E1940 f1935
      have f2002 := Fld.ext E1940 f1936
      have f2003 := Fld.ext E1940 f1937
      have f2004 := Fld.ext E1940 f1938
      have f2005 := Fld.ext E1940 f1939
      have Z1940 := Nat.le_trans Z1874 E1940.1
      refine own_s T1940 (mkF m 149 #[iv p1, iv p2, iv p3, iv p4, iv p5, iv 3, iv 1, rv zd1735, iv 13, u_, u_] [(.ref sl1940), (.ref sl1874), .null, (.ref b1809), (.ref b1809)]) st1940 ?_
      obtain ⟨T2006, h2006, X2006, e2006, E2006, A2006, D2006, -, st2006⟩ := newO X1940 hx hZ hown (own_h hw 16 rfl) (own_h hw 17 rfl) (own_h hw 18 rfl) e1940 (g := (mkF m 149 #[iv p1, iv p2, iv p3, iv p4, iv p5, iv 3, iv 1, rv zd1735, iv 13, u_, u_] [(.ref sl1940), (.ref sl1874), .null, (.ref b1809), (.ref b1809)])) rfl (hb hby at_149) (by decide) (by decide)
      obtain ⟨b2006, g2006⟩ : ∃ z, z = h1940.size := ⟨_, rfl⟩
      have g_b2006 : n0 ≤ b2006 := Nat.le_trans Z1940 (Nat.le_of_eq g2006.symm)
      rw [← g2006] at A2006 D2006 st2006
      have f2007 := Sta.ext E2006 f1941
      have f2008 := Sta.ext E2006 f1942
      have f2009 := Sta.ext E2006 f1943
      have f2010 := f1944.ext E2006
      have f2011 := Sta.ext E2006 f1945
      have f2012 := Exa.ext E2006 f1946
      have f2013 := Fld.ext E2006 f1947
      have f2014 := Fld.ext E2006 f1948
      have f2015 := f1949.ext E2006
      have f2016 := Exa.ext E2006 f1950
      have f2017 := Fld.ext E2006 f1951
      have f2018 := Fld.ext E2006 f1952
      have f2019 := f1953.ext E2006
      have f2020 := Exa.ext E2006 f1954
      have f2021 := Fld.ext E2006 f1955
      have f2022 := Fld.ext E2006 f1956
      have f2023 := f1957.ext E2006
      have f2024 := Exa.ext E2006 f1958
      have f2025 := Fld.ext E2006 f1959
      have f2026 := Fld.ext E2006 f1960
      have f2027 := f1961.ext E2006
      have f2028 := Exa.ext E2006 f1962
      have f2029 := Fld.ext E2006 f1963
      have f2030 := Fld.ext E2006 f1964
      have f2031 := f1965.ext E2006
      have f2032 := Exa.ext E2006 f1966
      have f2033 := Fld.ext E2006 f1967
      have f2034 := Fld.ext E2006 f1968
      have f2035 := f1969.ext E2006
      have f2036 := Exa.ext E2006 f1970
      have f2037 := Fld.ext E2006 f1971
      have f2038 := Fld.ext E2006 f1972
      have f2039 := f1973.ext E2006
      have f2040 := Exa.ext E2006 f1974
      have f2041 := Fld.ext E2006 f1975
      have f2042 := Fld.ext E2006 f1976
      have f2043 := f1977.ext E2006
      have f2044 := f1978.ext E2006
      have f2045 := Exa.ext E2006 f1979
      have f2046 := Fld.ext E2006 f1980
      have f2047 := Fld.ext E2006 f1981
      have f2048 := f1982.ext E2006
      have f2049 := Exa.ext E2006 f1983
      have f2050 := Fld.ext E2006 f1984
      have f2051 := Fld.ext E2006 f1985
      have f2052 := f1986.ext E2006
      have f2053 := Exa.ext E2006 f1987
      have f2054 := Fld.ext E2006 f1988
      have f2055 := Fld.ext E2006 f1989
      have f2056 := f1990.ext E2006
      have f2057 := Exa.ext E2006 f1991
      have f2058 := Fld.ext E2006 f1992
      have f2059 := Fld.ext E2006 f1993
      have f2060 := f1994.ext E2006
      have f2061 := Exa.ext E2006 f1995
      have f2062 := Fld.ext E2006 f1996
      have f2063 := Fld.ext E2006 f1997
      have f2064 := Fld.ext E2006 f1998
      have f2065 := Fld.ext E2006 f1999
      have f2066 := Fld.ext E2006 f2000
      have f2067 := Fld.ext E2006 f2001
      have f2068 := Fld.ext E2006 f2002
      have f2069 := Fld.ext E2006 f2003
      have f2070 := Fld.ext E2006 f2004
      have f2071 := Fld.ext E2006 f2005
      have Z2006 := Nat.le_trans Z1940 E2006.1
      have hk2006 := Nat.le_trans hk1940 E2006.1
      have f2072 : Fld Z h2006 b2006 "java/util/AbstractList" "modCount" "I" (.int 0) := D2006 (Or.inl (own_h hw 38 rfl)) (ty := .int) (by decide)
      have f2073 : Fld Z h2006 b2006 "java/util/ArrayList" "elementData" "[Ljava/lang/Object;" .null := D2006 (Or.inl (own_h hw 41 rfl)) (ty := (.array (.object "java/lang/Object"))) (by decide)
      refine own_s T2006 (mkF m 152 #[iv p1, iv p2, iv p3, iv p4, iv p5, iv 3, iv 1, rv zd1735, iv 13, u_, u_] [(.ref b2006), (.ref sl1940), (.ref sl1874), .null, (.ref b1809), (.ref b1809)]) st2006 ?_
      refine own_s T2006 (mkF m 153 #[iv p1, iv p2, iv p3, iv p4, iv p5, iv 3, iv 1, rv zd1735, iv 13, u_, u_] [(.ref b2006), (.ref b2006), (.ref sl1940), (.ref sl1874), .null, (.ref b1809), (.ref b1809)]) (fun _ k => XS.dup X2006.here hx rfl (hb hby at_152) rfl rfl k) ?_
      obtain ⟨v2074, T2074, L2074, X2074, hQ2074, st2074⟩ := own_callI X2006 hx hZ (y := own_y20) (W := 6) (a := b2006) rfl hown (own_h hw 19 rfl) (own_h hw 20 rfl) (own_h hw 18 rfl) (own_h hw 21 rfl) (by decide) (own_rmal l Z a0 hw [] b2006 oD h2006 n0 Z2006 g_b2006 f2011 A2006 f2072 f2073) (by decide) (by decide) (g := (mkF m 153 #[iv p1, iv p2, iv p3, iv p4, iv p5, iv 3, iv 1, rv zd1735, iv 13, u_, u_] [(.ref b2006), (.ref b2006), (.ref sl1940), (.ref sl1874), .null, (.ref b1809), (.ref b1809)])) rfl (by rw [hml]; rfl) (argsL := []) (rest := [(.ref b2006), (.ref sl1940), (.ref sl1874), .null, (.ref b1809), (.ref b1809)]) rfl (lenOf own_pd10 rfl) rfl (by show 2 * 0 + _ ≤ _; exact Nat.le_of_eq rfl) (hb hby at_153) e2006 (by decide) (by decide)
      obtain ⟨rfl, Nq2074, Kq2074, q2074_0⟩ := hQ2074
      have N2074 := Fr.app N1770 Nq2074
      have f2075 := own_staKeepW f2007 Kq2074 (allS A2006.nostat all0)
      have f2076 := own_staKeepW f2008 Kq2074 (allS A2006.nostat all0)
      have f2077 := own_staKeepW f2009 Kq2074 (allS A2006.nostat all0)
      have f2078 := f2010.keep Kq2074 (ninS (own_nf f1944.lt g2006) nin0)
      have f2079 := own_staKeepW f2011 Kq2074 (allS A2006.nostat all0)
      have f2080 := f2012.keep Kq2074
      have f2081 := f2013.keep Kq2074 (ninS (own_nf f1946.lt g2006) nin0)
      have f2082 := f2014.keep Kq2074 (ninS (own_nf f1946.lt g2006) nin0)
      have f2083 := f2015.keep Kq2074 (ninS (own_nf f1949.lt g2006) nin0)
      have f2084 := f2016.keep Kq2074
      have f2085 := f2017.keep Kq2074 (ninS (own_nf f1950.lt g2006) nin0)
      have f2086 := f2018.keep Kq2074 (ninS (own_nf f1950.lt g2006) nin0)
      have f2087 := f2019.keep Kq2074 (ninS (own_nf f1953.lt g2006) nin0)
      have f2088 := f2020.keep Kq2074
      have f2089 := f2021.keep Kq2074 (ninS (own_nf f1954.lt g2006) nin0)
      have f2090 := f2022.keep Kq2074 (ninS (own_nf f1954.lt g2006) nin0)
      have f2091 := f2023.keep Kq2074 (ninS (own_nf f1957.lt g2006) nin0)
      have f2092 := f2024.keep Kq2074
      have f2093 := f2025.keep Kq2074 (ninS (own_nf f1958.lt g2006) nin0)
      have f2094 := f2026.keep Kq2074 (ninS (own_nf f1958.lt g2006) nin0)
      have f2095 := f2027.keep Kq2074 (ninS (own_nf f1961.lt g2006) nin0)
      have f2096 := f2028.keep Kq2074
      have f2097 := f2029.keep Kq2074 (ninS (own_nf f1962.lt g2006) nin0)
      have f2098 := f2030.keep Kq2074 (ninS (own_nf f1962.lt g2006) nin0)
      have f2099 := f2031.keep Kq2074 (ninS (own_nf f1965.lt g2006) nin0)
      have f2100 := f2032.keep Kq2074
      have f2101 := f2033.keep Kq2074 (ninS (own_nf f1966.lt g2006) nin0)
      have f2102 := f2034.keep Kq2074 (ninS (own_nf f1966.lt g2006) nin0)
      have f2103 := f2035.keep Kq2074 (ninS (own_nf f1969.lt g2006) nin0)
      have f2104 := f2036.keep Kq2074
      have f2105 := f2037.keep Kq2074 (ninS (own_nf f1970.lt g2006) nin0)
      have f2106 := f2038.keep Kq2074 (ninS (own_nf f1970.lt g2006) nin0)
      have f2107 := f2039.keep Kq2074 (ninS (own_nf f1973.lt g2006) nin0)
      have f2108 := f2040.keep Kq2074
      have f2109 := f2041.keep Kq2074 (ninS (own_nf f1974.lt g2006) nin0)
      have f2110 := f2042.keep Kq2074 (ninS (own_nf f1974.lt g2006) nin0)
      have f2111 := f2043.keep Kq2074 (ninS (own_nf f1977.lt g2006) nin0)
      have f2112 := f2044.keep Kq2074 (ninS (own_nf f1978.lt g2006) nin0)
      have f2113 := f2045.keep Kq2074
      have f2114 := f2046.keep Kq2074 (ninS (own_nf f1979.lt g2006) nin0)
      have f2115 := f2047.keep Kq2074 (ninS (own_nf f1979.lt g2006) nin0)
      have f2116 := f2048.keep Kq2074 (ninS (own_nf f1982.lt g2006) nin0)
      have f2117 := f2049.keep Kq2074
      have f2118 := f2050.keep Kq2074 (ninS (own_nf f1983.lt g2006) nin0)
      have f2119 := f2051.keep Kq2074 (ninS (own_nf f1983.lt g2006) nin0)
      have f2120 := f2052.keep Kq2074 (ninS (own_nf f1986.lt g2006) nin0)
      have f2121 := f2053.keep Kq2074
      have f2122 := f2054.keep Kq2074 (ninS (own_nf f1987.lt g2006) nin0)
      have f2123 := f2055.keep Kq2074 (ninS (own_nf f1987.lt g2006) nin0)
      have f2124 := f2056.keep Kq2074 (ninS (own_nf f1990.lt g2006) nin0)
      have f2125 := f2057.keep Kq2074
      have f2126 := f2058.keep Kq2074 (ninS (own_nf f1991.lt g2006) nin0)
      have f2127 := f2059.keep Kq2074 (ninS (own_nf f1991.lt g2006) nin0)
      have f2128 := f2060.keep Kq2074 (ninS (own_nf f1994.lt g2006) nin0)
      have f2129 := f2061.keep Kq2074
      have f2130 := f2062.keep Kq2074 (ninS (own_nf f1995.lt g2006) nin0)
      have f2131 := f2063.keep Kq2074 (ninS (own_nf f1995.lt g2006) nin0)
      have f2132 := f2064.keep Kq2074 (ninS (own_nf f1995.lt g2006) nin0)
      have f2133 := f2065.keep Kq2074 (ninS (own_nf f1995.lt g2006) nin0)
      have f2134 := f2066.keep Kq2074 (ninS (own_nf f1995.lt g2006) nin0)
      have f2135 := f2067.keep Kq2074 (ninS (own_nf f1995.lt g2006) nin0)
      have f2136 := f2068.keep Kq2074 (ninS (own_nf f1995.lt g2006) nin0)
      have f2137 := f2069.keep Kq2074 (ninS (own_nf f1995.lt g2006) nin0)
      have f2138 := f2070.keep Kq2074 (ninS (own_nf f1995.lt g2006) nin0)
      have f2139 := f2071.keep Kq2074 (ninS (own_nf f1995.lt g2006) nin0)
      have f2140 := A2006.keep Kq2074
      have Z2074 := Nat.le_trans Z2006 Kq2074.1
      have hk2074 := Nat.le_trans hk2006 Kq2074.1
      refine own_s T2074 (mkF m 156 #[iv p1, iv p2, iv p3, iv p4, iv p5, iv 3, iv 1, rv zd1735, iv 13, u_, u_] [(.ref b2006), (.ref sl1940), (.ref sl1874), .null, (.ref b1809), (.ref b1809)]) st2074 ?_
      refine own_s T2074 (mkF m 160 #[iv p1, iv p2, iv p3, iv p4, iv p5, iv 3, iv 1, rv zd1735, iv 13, u_, u_] [.null, .null, (.ref zd1735), (.ref b2006), (.ref sl1940), (.ref sl1874), .null, (.ref b1809), (.ref b1809)]) (fun _ k => XS.aload X2074.here hx rfl (hb hby at_156) rfl rfl (XS.aconstNull X2074.here hx rfl (hb hby at_158) (XS.aconstNull X2074.here hx rfl (hb hby at_159) k))) ?_
      obtain ⟨v2141, T2141, L2141, X2141, hQ2141, st2141⟩ := own_callI X2074 hx hZ (y := own_y11) (W := 1) (a := b1809) rfl hown (own_h hw 42 rfl) (own_h hw 43 rfl) (own_h hw 2 rfl) (own_h hw 44 rfl) (by decide) (own_rmxi_o l Z a0 hw [] b1809 sl1874 sl1940 b2006 zd1735 oN oA zkd1735 [(.ref zsn1742), (.ref zsv1742), (.ref zss1742), (.ref zsl1742), (.ref zsn1748), (.ref zsv1748), (.ref zss1748), (.ref zsl1748), (.ref zsn1770), (.ref zsv1770), (.ref zss1770), (.ref zsl1770), .null] (13 : Int32) T2074.heap n0 Z2074 g_b1809 f2129 f2130 f2131 f2132 f2133 f2134 f2135 f2136 f2137 f2138 f2139 f2076 f2077 f2112 (Ne.symm (own_nf q1770_0.lt g1809)) (by decide) (by decide)) (by decide) (by decide) (g := (mkF m 160 #[iv p1, iv p2, iv p3, iv p4, iv p5, iv 3, iv 1, rv zd1735, iv 13, u_, u_] [.null, .null, (.ref zd1735), (.ref b2006), (.ref sl1940), (.ref sl1874), .null, (.ref b1809), (.ref b1809)])) rfl (by rw [hml]; rfl) (argsL := [.null, (.ref sl1874), (.ref sl1940), (.ref b2006), (.ref zd1735), .null, .null]) (rest := [(.ref b1809)]) rfl (lenOf own_pd12 rfl) rfl (by show 2 * 0 + _ ≤ _; exact Nat.le_of_eq rfl) (hb hby at_160) rfl (by decide) (by decide)
      obtain ⟨rfl, Nq2141, Kq2141, q2141_0, q2141_1, q2141_2⟩ := hQ2141
      have N2141 := Fr.app N2074 Nq2141
      have f2142 := own_staKeepW f2075 Kq2141 (allS f2129.nostat all0)
      have f2143 := own_staKeepW f2076 Kq2141 (allS f2129.nostat all0)
      have f2144 := own_staKeepW f2077 Kq2141 (allS f2129.nostat all0)
      have f2145 := f2078.keep Kq2141 (ninS (own_nf f1774.lt g1809) nin0)
      have f2146 := own_staKeepW f2079 Kq2141 (allS f2129.nostat all0)
      have f2147 := f2080.keep Kq2141
      have f2148 := f2081.keep Kq2141 (ninS (own_nf f1776.lt g1809) nin0)
      have f2149 := f2082.keep Kq2141 (ninS (own_nf f1776.lt g1809) nin0)
      have f2150 := f2083.keep Kq2141 (ninS (own_nf f1779.lt g1809) nin0)
      have f2151 := f2084.keep Kq2141
      have f2152 := f2085.keep Kq2141 (ninS (own_nf f1780.lt g1809) nin0)
      have f2153 := f2086.keep Kq2141 (ninS (own_nf f1780.lt g1809) nin0)
      have f2154 := f2087.keep Kq2141 (ninS (own_nf f1783.lt g1809) nin0)
      have f2155 := f2088.keep Kq2141
      have f2156 := f2089.keep Kq2141 (ninS (own_nf f1784.lt g1809) nin0)
      have f2157 := f2090.keep Kq2141 (ninS (own_nf f1784.lt g1809) nin0)
      have f2158 := f2091.keep Kq2141 (ninS (own_nf f1787.lt g1809) nin0)
      have f2159 := f2092.keep Kq2141
      have f2160 := f2093.keep Kq2141 (ninS (own_nf f1788.lt g1809) nin0)
      have f2161 := f2094.keep Kq2141 (ninS (own_nf f1788.lt g1809) nin0)
      have f2162 := f2095.keep Kq2141 (ninS (own_nf f1791.lt g1809) nin0)
      have f2163 := f2096.keep Kq2141
      have f2164 := f2097.keep Kq2141 (ninS (own_nf f1792.lt g1809) nin0)
      have f2165 := f2098.keep Kq2141 (ninS (own_nf f1792.lt g1809) nin0)
      have f2166 := f2099.keep Kq2141 (ninS (own_nf f1795.lt g1809) nin0)
      have f2167 := f2100.keep Kq2141
      have f2168 := f2101.keep Kq2141 (ninS (own_nf f1796.lt g1809) nin0)
      have f2169 := f2102.keep Kq2141 (ninS (own_nf f1796.lt g1809) nin0)
      have f2170 := f2103.keep Kq2141 (ninS (own_nf f1799.lt g1809) nin0)
      have f2171 := f2104.keep Kq2141
      have f2172 := f2105.keep Kq2141 (ninS (own_nf f1800.lt g1809) nin0)
      have f2173 := f2106.keep Kq2141 (ninS (own_nf f1800.lt g1809) nin0)
      have f2174 := f2107.keep Kq2141 (ninS (own_nf f1803.lt g1809) nin0)
      have f2175 := f2108.keep Kq2141
      have f2176 := f2109.keep Kq2141 (ninS (own_nf f1804.lt g1809) nin0)
      have f2177 := f2110.keep Kq2141 (ninS (own_nf f1804.lt g1809) nin0)
      have f2178 := f2111.keep Kq2141 (ninS (own_nf f1807.lt g1809) nin0)
      have f2179 := f2112.keep Kq2141 (ninS (own_nf q1770_0.lt g1809) nin0)
      have f2180 := f2113.keep Kq2141
      have f2181 := f2114.keep Kq2141 (ninS (own_nf q1770_1.lt g1809) nin0)
      have f2182 := f2115.keep Kq2141 (ninS (own_nf q1770_1.lt g1809) nin0)
      have f2183 := f2116.keep Kq2141 (ninS (own_nf q1770_4.lt g1809) nin0)
      have f2184 := f2117.keep Kq2141
      have f2185 := f2118.keep Kq2141 (ninS (own_nf q1770_5.lt g1809) nin0)
      have f2186 := f2119.keep Kq2141 (ninS (own_nf q1770_5.lt g1809) nin0)
      have f2187 := f2120.keep Kq2141 (ninS (own_nf q1770_8.lt g1809) nin0)
      have f2188 := f2121.keep Kq2141
      have f2189 := f2122.keep Kq2141 (ninS (own_nf q1770_9.lt g1809) nin0)
      have f2190 := f2123.keep Kq2141 (ninS (own_nf q1770_9.lt g1809) nin0)
      have f2191 := f2124.keep Kq2141 (ninS (own_nf q1770_12.lt g1809) nin0)
      have f2192 := f2125.keep Kq2141
      have f2193 := f2126.keep Kq2141 (ninS (own_nf q1770_13.lt g1809) nin0)
      have f2194 := f2127.keep Kq2141 (ninS (own_nf q1770_13.lt g1809) nin0)
      have f2195 := f2128.keep Kq2141 (ninS (own_nf q1770_16.lt g1809) nin0)
      have f2196 := f2129.keep Kq2141
      have f2197 := q2074_0.keep Kq2141
      have Z2141 := Nat.le_trans Z2074 Kq2141.1
      have hk2141 := Nat.le_trans hk2074 Kq2141.1
      refine own_s T2141 (mkF m 163 #[iv p1, iv p2, iv p3, iv p4, iv p5, iv 3, iv 1, rv zd1735, iv 13, u_, u_] [(.ref b1809)]) st2141 ?_
      refine own_s T2141 (mkF m 167 #[iv p1, iv p2, iv p3, iv p4, iv p5, iv 3, iv 1, rv zd1735, iv 13, rv b1809, u_] [(.ref b1809)]) (fun _ k => XS.astore X2141.here hx rfl (hb hby at_163) rfl rfl (l' := #[iv p1, iv p2, iv p3, iv p4, iv p5, iv 3, iv 1, rv zd1735, iv 13, rv b1809, u_]) rfl (XS.aload X2141.here hx rfl (hb hby at_165) rfl rfl k)) ?_
      obtain ⟨v2198, T2198, L2198, X2198, hQ2198, st2198⟩ := own_callV X2141 hx hZ (y := own_y12) (z := own_y12) (W := 0) (a := b1809) hown (own_h hw 73 rfl) (own_h hw 74 rfl) (notFace_of_selects (args := #[]) (mvT hZ (own_h hw 76 rfl))) (own_h hw 76 rfl) (own_h hw 75 rfl) (own_h hw 2 rfl) (own_h hw 77 rfl) (by decide) (own_rmcnt4 l Z a0 hw [] b1809 zd1735 zkd1735 [(.ref zsn1742), (.ref zsv1742), (.ref zss1742), (.ref zsl1742), (.ref zsn1748), (.ref zsv1748), (.ref zss1748), (.ref zsl1748), (.ref zsn1770), (.ref zsv1770), (.ref zss1770), (.ref zsl1770), .null] (13 : Int32) T2141.heap n0 Z2141 q2141_1 q2141_2 f2179) (by decide) (by decide) q2141_0 (g := (mkF m 167 #[iv p1, iv p2, iv p3, iv p4, iv p5, iv 3, iv 1, rv zd1735, iv 13, rv b1809, u_] [(.ref b1809)])) rfl (by rw [hml]; rfl) (argsL := []) (rest := []) rfl (lenOf own_pd13 rfl) rfl (by show 2 * 0 + _ ≤ _; exact Nat.le_of_eq rfl) (hb hby at_167) rfl (by decide) (by decide)
      obtain ⟨rfl, Nq2198, e2198⟩ := hQ2198
      have N2198 := Fr.app N2141 Nq2198
      refine own_s T2198 (mkF m 170 #[iv p1, iv p2, iv p3, iv p4, iv p5, iv 3, iv 1, rv zd1735, iv 13, rv b1809, u_] [(.int ((13 : Int32) / (4 : Int32)))]) st2198 ?_
      refine own_s T2198 (mkF m 190 #[iv p1, iv p2, iv p3, iv p4, iv p5, iv 3, iv 1, rv zd1735, iv 13, rv b1809, iv 1] []) (fun _ k => XS.iload X2198.here hx rfl (hb hby at_170) rfl  (XS.icmpYes X2198.here hx rfl (pc0 := 172) (pc' := 177) rfl (hb hby at_172) rfl (teq (by decide)).1 (by decide) (by decide) (XS.iconst X2198.here hx rfl (hb hby at_177) (XS.istore X2198.here hx rfl (hb hby at_178) rfl (l' := #[iv p1, iv p2, iv p3, iv p4, iv p5, iv 3, iv 1, rv zd1735, iv 13, rv b1809, iv 1]) rfl (XS.iload X2198.here hx rfl (hb hby at_180) rfl  (XS.ifNo X2198.here hx rfl (hb hby at_182) rfl ((if0 _ _).trans (tlt (by decide : ((0 : Int32) < (3 : Int32)))).2.2.2) (XS.iload X2198.here hx rfl (hb hby at_185) rfl  (XS.ifNo X2198.here hx rfl (hb hby at_187) rfl ((if0 _ _).trans (feq (by decide : ¬ ((1 : Int32) = (0 : Int32)))).1) k)))))))) ?_
      refine own_s T2198 (mkF m 200 #[iv p1, iv p2, iv p3, iv p4, iv p5, iv 3, iv 1, rv zd1735, iv 13, rv b1809, iv 1] [(.int p5), (.int p4), (.int p3), (.int p2), (.int 1), (.int 0), (.ref b1809)]) (fun _ k => XS.aload X2198.here hx rfl (hb hby at_190) rfl rfl (XS.iconst X2198.here hx rfl (hb hby at_192) (XS.iload X2198.here hx rfl (hb hby at_193) rfl  (XS.iloadN X2198.here hx rfl (hb hby at_195) rfl  (XS.iloadN X2198.here hx rfl (hb hby at_196) rfl  (XS.iloadN X2198.here hx rfl (hb hby at_197) rfl  (XS.iload X2198.here hx rfl (hb hby at_198) rfl  k))))))) ?_
      obtain ⟨v2199, T2199, L2199, X2199, hQ2199, st2199⟩ := own_callS X2198 hx hZ (y := own_y17) (W := 0) hown (own_h hw 112 rfl) (own_h hw 113 rfl) (own_h hw 80 rfl) (own_h hw 114 rfl) (by decide) (own_rmchk0_1 l Z a0 hw [] b1809 p2 p3 p4 p5 zd1735 zkd1735 (13 : Int32) zsn1742 zsv1742 zss1742 zsl1742 (.ref zsn1748) (.ref zsv1748) (.ref zss1748) (.ref zsl1748) (.ref zsn1770) (.ref zsv1770) (.ref zss1770) (.ref zsl1770) .null zbn1742 zkn1742 zbv1742 zkv1742 zbs1742 zks1742 zbl1742 zkl1742 gC T2141.heap n0 Z2141 q2141_0 q2141_1 q2141_2 f2179 f2147 f2148 f2149 f2150 f2151 f2152 f2153 f2154 f2155 f2156 f2157 f2158 f2159 f2160 f2161 f2162 f2142 hG (by decide) (by decide) (by decide) (by decide)) (by decide) (by decide) (g := (mkF m 200 #[iv p1, iv p2, iv p3, iv p4, iv p5, iv 3, iv 1, rv zd1735, iv 13, rv b1809, iv 1] [(.int p5), (.int p4), (.int p3), (.int p2), (.int 1), (.int 0), (.ref b1809)])) rfl (by rw [hml]; rfl) (argsL := [(.ref b1809), (.int 0), (.int 1), (.int p2), (.int p3), (.int p4), (.int p5)]) (rest := []) rfl (lenOf own_pd15 rfl) rfl (by show 2 * 0 + _ ≤ _; exact Nat.le_of_eq rfl) (hb hby at_200) e2198 (by decide) (by decide)
      obtain ⟨rfl, Nq2199, Kq2199⟩ := hQ2199
      have N2199 := Fr.app N2198 Nq2199
      have f2200 := own_staKeep f2142 Kq2199
      have f2201 := own_staKeep f2143 Kq2199
      have f2202 := own_staKeep f2144 Kq2199
      have f2203 := f2145.keep Kq2199 nin0
      have f2204 := own_staKeep f2146 Kq2199
      have f2205 := f2147.keep Kq2199
      have f2206 := f2148.keep Kq2199 nin0
      have f2207 := f2149.keep Kq2199 nin0
      have f2208 := f2150.keep Kq2199 nin0
      have f2209 := f2151.keep Kq2199
      have f2210 := f2152.keep Kq2199 nin0
      have f2211 := f2153.keep Kq2199 nin0
      have f2212 := f2154.keep Kq2199 nin0
      have f2213 := f2155.keep Kq2199
      have f2214 := f2156.keep Kq2199 nin0
      have f2215 := f2157.keep Kq2199 nin0
      have f2216 := f2158.keep Kq2199 nin0
      have f2217 := f2159.keep Kq2199
      have f2218 := f2160.keep Kq2199 nin0
      have f2219 := f2161.keep Kq2199 nin0
      have f2220 := f2162.keep Kq2199 nin0
      have f2221 := f2163.keep Kq2199
      have f2222 := f2164.keep Kq2199 nin0
      have f2223 := f2165.keep Kq2199 nin0
      have f2224 := f2166.keep Kq2199 nin0
      have f2225 := f2167.keep Kq2199
      have f2226 := f2168.keep Kq2199 nin0
      have f2227 := f2169.keep Kq2199 nin0
      have f2228 := f2170.keep Kq2199 nin0
      have f2229 := f2171.keep Kq2199
      have f2230 := f2172.keep Kq2199 nin0
      have f2231 := f2173.keep Kq2199 nin0
      have f2232 := f2174.keep Kq2199 nin0
      have f2233 := f2175.keep Kq2199
      have f2234 := f2176.keep Kq2199 nin0
      have f2235 := f2177.keep Kq2199 nin0
      have f2236 := f2178.keep Kq2199 nin0
      have f2237 := f2179.keep Kq2199 nin0
      have f2238 := f2180.keep Kq2199
      have f2239 := f2181.keep Kq2199 nin0
      have f2240 := f2182.keep Kq2199 nin0
      have f2241 := f2183.keep Kq2199 nin0
      have f2242 := f2184.keep Kq2199
      have f2243 := f2185.keep Kq2199 nin0
      have f2244 := f2186.keep Kq2199 nin0
      have f2245 := f2187.keep Kq2199 nin0
      have f2246 := f2188.keep Kq2199
      have f2247 := f2189.keep Kq2199 nin0
      have f2248 := f2190.keep Kq2199 nin0
      have f2249 := f2191.keep Kq2199 nin0
      have f2250 := f2192.keep Kq2199
      have f2251 := f2193.keep Kq2199 nin0
      have f2252 := f2194.keep Kq2199 nin0
      have f2253 := f2195.keep Kq2199 nin0
      have f2254 := q2141_0.keep Kq2199
      have f2255 := f2197.keep Kq2199
      have f2256 := q2141_1.keep Kq2199 nin0
      have f2257 := q2141_2.keep Kq2199 nin0
      have Z2199 := Nat.le_trans Z2141 Kq2199.1
      have hk2199 := Nat.le_trans hk2141 Kq2199.1
      refine own_s T2199 (mkF m 203 #[iv p1, iv p2, iv p3, iv p4, iv p5, iv 3, iv 1, rv zd1735, iv 13, rv b1809, iv 1] [(.int 1)]) st2199 ?_
      refine own_s T2199 (mkF m 221 #[iv p1, iv p2, iv p3, iv p4, iv p5, iv 3, iv 1, rv zd1735, iv 13, rv b1809, iv 1] [(.int 1)]) (fun _ k => XS.ifNo X2199.here hx rfl (hb hby at_203) rfl ((if0 _ _).trans (feq (by decide : ¬ ((1 : Int32) = (0 : Int32)))).1) (XS.iconst X2199.here hx rfl (hb hby at_206) (XS.goto X2199.here hx rfl (pc0 := 207) (pc' := 211) rfl (hb hby at_207) (by decide) (by decide) (XS.istore X2199.here hx rfl (hb hby at_211) rfl (l' := #[iv p1, iv p2, iv p3, iv p4, iv p5, iv 3, iv 1, rv zd1735, iv 13, rv b1809, iv 1]) rfl (XS.iload X2199.here hx rfl (hb hby at_213) rfl  (XS.iconst X2199.here hx rfl (hb hby at_215) (XS.icmpNo X2199.here hx rfl (hb hby at_216) rfl (tlt (by decide : ((1 : Int32) < (3 : Int32)))).2.2.2 (XS.iload X2199.here hx rfl (hb hby at_219) rfl  k)))))))) ?_
      refine own_s T2199 (mkF m 234 #[iv p1, iv p2, iv p3, iv p4, iv p5, iv 3, iv 1, rv zd1735, iv 13, rv b1809, iv 1] [(.int p5), (.int p4), (.int p3), (.int p2), (.int 1), (.int 1), (.ref b1809)]) (fun _ k => XS.ifNo X2199.here hx rfl (hb hby at_221) rfl ((if0 _ _).trans (feq (by decide : ¬ ((1 : Int32) = (0 : Int32)))).1) (XS.aload X2199.here hx rfl (hb hby at_224) rfl rfl (XS.iconst X2199.here hx rfl (hb hby at_226) (XS.iload X2199.here hx rfl (hb hby at_227) rfl  (XS.iloadN X2199.here hx rfl (hb hby at_229) rfl  (XS.iloadN X2199.here hx rfl (hb hby at_230) rfl  (XS.iloadN X2199.here hx rfl (hb hby at_231) rfl  (XS.iload X2199.here hx rfl (hb hby at_232) rfl  k)))))))) ?_
      obtain ⟨v2258, T2258, L2258, X2258, hQ2258, st2258⟩ := own_callS X2199 hx hZ (y := own_y17) (W := 0) hown (own_h hw 112 rfl) (own_h hw 113 rfl) (own_h hw 80 rfl) (own_h hw 114 rfl) (by decide) (own_rmchk1_1 l Z a0 hw [] b1809 p2 p3 p4 p5 zd1735 zkd1735 (13 : Int32) (.ref zsn1742) (.ref zsv1742) (.ref zss1742) (.ref zsl1742) zsn1748 zsv1748 zss1748 zsl1748 (.ref zsn1770) (.ref zsv1770) (.ref zss1770) (.ref zsl1770) .null zbn1748 zkn1748 zbv1748 zkv1748 zbs1748 zks1748 zbl1748 zkl1748 gC T2199.heap n0 Z2199 f2254 f2256 f2257 f2237 f2221 f2222 f2223 f2224 f2225 f2226 f2227 f2228 f2229 f2230 f2231 f2232 f2233 f2234 f2235 f2236 f2200 hG (by decide) (by decide) (by decide) (by decide)) (by decide) (by decide) (g := (mkF m 234 #[iv p1, iv p2, iv p3, iv p4, iv p5, iv 3, iv 1, rv zd1735, iv 13, rv b1809, iv 1] [(.int p5), (.int p4), (.int p3), (.int p2), (.int 1), (.int 1), (.ref b1809)])) rfl (by rw [hml]; rfl) (argsL := [(.ref b1809), (.int 1), (.int 1), (.int p2), (.int p3), (.int p4), (.int p5)]) (rest := []) rfl (lenOf own_pd15 rfl) rfl (by show 2 * 0 + _ ≤ _; exact Nat.le_of_eq rfl) (hb hby at_234) rfl (by decide) (by decide)
      obtain ⟨rfl, Nq2258, Kq2258⟩ := hQ2258
      have N2258 := Fr.app N2199 Nq2258
      have f2259 := own_staKeep f2200 Kq2258
      have f2260 := own_staKeep f2201 Kq2258
      have f2261 := own_staKeep f2202 Kq2258
      have f2262 := f2203.keep Kq2258 nin0
      have f2263 := own_staKeep f2204 Kq2258
      have f2264 := f2205.keep Kq2258
      have f2265 := f2206.keep Kq2258 nin0
      have f2266 := f2207.keep Kq2258 nin0
      have f2267 := f2208.keep Kq2258 nin0
      have f2268 := f2209.keep Kq2258
      have f2269 := f2210.keep Kq2258 nin0
      have f2270 := f2211.keep Kq2258 nin0
      have f2271 := f2212.keep Kq2258 nin0
      have f2272 := f2213.keep Kq2258
      have f2273 := f2214.keep Kq2258 nin0
      have f2274 := f2215.keep Kq2258 nin0
      have f2275 := f2216.keep Kq2258 nin0
      have f2276 := f2217.keep Kq2258
      have f2277 := f2218.keep Kq2258 nin0
      have f2278 := f2219.keep Kq2258 nin0
      have f2279 := f2220.keep Kq2258 nin0
      have f2280 := f2221.keep Kq2258
      have f2281 := f2222.keep Kq2258 nin0
      have f2282 := f2223.keep Kq2258 nin0
      have f2283 := f2224.keep Kq2258 nin0
      have f2284 := f2225.keep Kq2258
      have f2285 := f2226.keep Kq2258 nin0
      have f2286 := f2227.keep Kq2258 nin0
      have f2287 := f2228.keep Kq2258 nin0
      have f2288 := f2229.keep Kq2258
      have f2289 := f2230.keep Kq2258 nin0
      have f2290 := f2231.keep Kq2258 nin0
      have f2291 := f2232.keep Kq2258 nin0
      have f2292 := f2233.keep Kq2258
      have f2293 := f2234.keep Kq2258 nin0
      have f2294 := f2235.keep Kq2258 nin0
      have f2295 := f2236.keep Kq2258 nin0
      have f2296 := f2237.keep Kq2258 nin0
      have f2297 := f2238.keep Kq2258
      have f2298 := f2239.keep Kq2258 nin0
      have f2299 := f2240.keep Kq2258 nin0
      have f2300 := f2241.keep Kq2258 nin0
      have f2301 := f2242.keep Kq2258
      have f2302 := f2243.keep Kq2258 nin0
      have f2303 := f2244.keep Kq2258 nin0
      have f2304 := f2245.keep Kq2258 nin0
      have f2305 := f2246.keep Kq2258
      have f2306 := f2247.keep Kq2258 nin0
      have f2307 := f2248.keep Kq2258 nin0
      have f2308 := f2249.keep Kq2258 nin0
      have f2309 := f2250.keep Kq2258
      have f2310 := f2251.keep Kq2258 nin0
      have f2311 := f2252.keep Kq2258 nin0
      have f2312 := f2253.keep Kq2258 nin0
      have f2313 := f2254.keep Kq2258
      have f2314 := f2255.keep Kq2258
      have f2315 := f2256.keep Kq2258 nin0
      have f2316 := f2257.keep Kq2258 nin0
      have Z2258 := Nat.le_trans Z2199 Kq2258.1
      have hk2258 := Nat.le_trans hk2199 Kq2258.1
      refine own_s T2258 (mkF m 237 #[iv p1, iv p2, iv p3, iv p4, iv p5, iv 3, iv 1, rv zd1735, iv 13, rv b1809, iv 1] [(.int 1)]) st2258 ?_
      refine own_s T2258 (mkF m 255 #[iv p1, iv p2, iv p3, iv p4, iv p5, iv 3, iv 1, rv zd1735, iv 13, rv b1809, iv 1] [(.int 1)]) (fun _ k => XS.ifNo X2258.here hx rfl (hb hby at_237) rfl ((if0 _ _).trans (feq (by decide : ¬ ((1 : Int32) = (0 : Int32)))).1) (XS.iconst X2258.here hx rfl (hb hby at_240) (XS.goto X2258.here hx rfl (pc0 := 241) (pc' := 245) rfl (hb hby at_241) (by decide) (by decide) (XS.istore X2258.here hx rfl (hb hby at_245) rfl (l' := #[iv p1, iv p2, iv p3, iv p4, iv p5, iv 3, iv 1, rv zd1735, iv 13, rv b1809, iv 1]) rfl (XS.iload X2258.here hx rfl (hb hby at_247) rfl  (XS.iconst X2258.here hx rfl (hb hby at_249) (XS.icmpNo X2258.here hx rfl (hb hby at_250) rfl (tlt (by decide : ((2 : Int32) < (3 : Int32)))).2.2.2 (XS.iload X2258.here hx rfl (hb hby at_253) rfl  k)))))))) ?_
      refine own_s T2258 (mkF m 268 #[iv p1, iv p2, iv p3, iv p4, iv p5, iv 3, iv 1, rv zd1735, iv 13, rv b1809, iv 1] [(.int p5), (.int p4), (.int p3), (.int p2), (.int 1), (.int 2), (.ref b1809)]) (fun _ k => XS.ifNo X2258.here hx rfl (hb hby at_255) rfl ((if0 _ _).trans (feq (by decide : ¬ ((1 : Int32) = (0 : Int32)))).1) (XS.aload X2258.here hx rfl (hb hby at_258) rfl rfl (XS.iconst X2258.here hx rfl (hb hby at_260) (XS.iload X2258.here hx rfl (hb hby at_261) rfl  (XS.iloadN X2258.here hx rfl (hb hby at_263) rfl  (XS.iloadN X2258.here hx rfl (hb hby at_264) rfl  (XS.iloadN X2258.here hx rfl (hb hby at_265) rfl  (XS.iload X2258.here hx rfl (hb hby at_266) rfl  k)))))))) ?_
      obtain ⟨v2317, T2317, L2317, X2317, hQ2317, st2317⟩ := own_callS X2258 hx hZ (y := own_y17) (W := 0) hown (own_h hw 112 rfl) (own_h hw 113 rfl) (own_h hw 80 rfl) (own_h hw 114 rfl) (by decide) (own_rmchk2_1 l Z a0 hw [] b1809 p2 p3 p4 p5 zd1735 zkd1735 (13 : Int32) (.ref zsn1742) (.ref zsv1742) (.ref zss1742) (.ref zsl1742) (.ref zsn1748) (.ref zsv1748) (.ref zss1748) (.ref zsl1748) zsn1770 zsv1770 zss1770 zsl1770 .null zbn1770 zkn1770 zbv1770 zkv1770 zbs1770 zks1770 zbl1770 zkl1770 gC T2258.heap n0 Z2258 f2313 f2315 f2316 f2296 f2297 f2298 f2299 f2300 f2301 f2302 f2303 f2304 f2305 f2306 f2307 f2308 f2309 f2310 f2311 f2312 f2259 hG (by decide) (by decide) (by decide) (by decide)) (by decide) (by decide) (g := (mkF m 268 #[iv p1, iv p2, iv p3, iv p4, iv p5, iv 3, iv 1, rv zd1735, iv 13, rv b1809, iv 1] [(.int p5), (.int p4), (.int p3), (.int p2), (.int 1), (.int 2), (.ref b1809)])) rfl (by rw [hml]; rfl) (argsL := [(.ref b1809), (.int 2), (.int 1), (.int p2), (.int p3), (.int p4), (.int p5)]) (rest := []) rfl (lenOf own_pd15 rfl) rfl (by show 2 * 0 + _ ≤ _; exact Nat.le_of_eq rfl) (hb hby at_268) rfl (by decide) (by decide)
      obtain ⟨rfl, Nq2317, Kq2317⟩ := hQ2317
      have N2317 := Fr.app N2258 Nq2317
      have f2318 := own_staKeep f2259 Kq2317
      have f2319 := own_staKeep f2260 Kq2317
      have f2320 := own_staKeep f2261 Kq2317
      have f2321 := f2262.keep Kq2317 nin0
      have f2322 := own_staKeep f2263 Kq2317
      have f2323 := f2264.keep Kq2317
      have f2324 := f2265.keep Kq2317 nin0
      have f2325 := f2266.keep Kq2317 nin0
      have f2326 := f2267.keep Kq2317 nin0
      have f2327 := f2268.keep Kq2317
      have f2328 := f2269.keep Kq2317 nin0
      have f2329 := f2270.keep Kq2317 nin0
      have f2330 := f2271.keep Kq2317 nin0
      have f2331 := f2272.keep Kq2317
      have f2332 := f2273.keep Kq2317 nin0
      have f2333 := f2274.keep Kq2317 nin0
      have f2334 := f2275.keep Kq2317 nin0
      have f2335 := f2276.keep Kq2317
      have f2336 := f2277.keep Kq2317 nin0
      have f2337 := f2278.keep Kq2317 nin0
      have f2338 := f2279.keep Kq2317 nin0
      have f2339 := f2280.keep Kq2317
      have f2340 := f2281.keep Kq2317 nin0
      have f2341 := f2282.keep Kq2317 nin0
      have f2342 := f2283.keep Kq2317 nin0
      have f2343 := f2284.keep Kq2317
      have f2344 := f2285.keep Kq2317 nin0
      have f2345 := f2286.keep Kq2317 nin0
      have f2346 := f2287.keep Kq2317 nin0
      have f2347 := f2288.keep Kq2317
      have f2348 := f2289.keep Kq2317 nin0
      have f2349 := f2290.keep Kq2317 nin0
      have f2350 := f2291.keep Kq2317 nin0
      have f2351 := f2292.keep Kq2317
      have f2352 := f2293.keep Kq2317 nin0
      have f2353 := f2294.keep Kq2317 nin0
      have f2354 := f2295.keep Kq2317 nin0
      have f2355 := f2296.keep Kq2317 nin0
      have f2356 := f2297.keep Kq2317
      have f2357 := f2298.keep Kq2317 nin0
      have f2358 := f2299.keep Kq2317 nin0
      have f2359 := f2300.keep Kq2317 nin0
      have f2360 := f2301.keep Kq2317
      have f2361 := f2302.keep Kq2317 nin0
      have f2362 := f2303.keep Kq2317 nin0
      have f2363 := f2304.keep Kq2317 nin0
      have f2364 := f2305.keep Kq2317
      have f2365 := f2306.keep Kq2317 nin0
      have f2366 := f2307.keep Kq2317 nin0
      have f2367 := f2308.keep Kq2317 nin0
      have f2368 := f2309.keep Kq2317
      have f2369 := f2310.keep Kq2317 nin0
      have f2370 := f2311.keep Kq2317 nin0
      have f2371 := f2312.keep Kq2317 nin0
      have f2372 := f2313.keep Kq2317
      have f2373 := f2314.keep Kq2317
      have f2374 := f2315.keep Kq2317 nin0
      have f2375 := f2316.keep Kq2317 nin0
      have Z2317 := Nat.le_trans Z2258 Kq2317.1
      have hk2317 := Nat.le_trans hk2258 Kq2317.1
      refine own_s T2317 (mkF m 271 #[iv p1, iv p2, iv p3, iv p4, iv p5, iv 3, iv 1, rv zd1735, iv 13, rv b1809, iv 1] [(.int 1)]) st2317 ?_
      refine own_s T2317 (mkF m 283 #[iv p1, iv p2, iv p3, iv p4, iv p5, iv 3, iv 1, rv zd1735, iv 13, rv b1809, iv 1] [(.int 1)]) (fun _ k => XS.ifNo X2317.here hx rfl (hb hby at_271) rfl ((if0 _ _).trans (feq (by decide : ¬ ((1 : Int32) = (0 : Int32)))).1) (XS.iconst X2317.here hx rfl (hb hby at_274) (XS.goto X2317.here hx rfl (pc0 := 275) (pc' := 279) rfl (hb hby at_275) (by decide) (by decide) (XS.istore X2317.here hx rfl (hb hby at_279) rfl (l' := #[iv p1, iv p2, iv p3, iv p4, iv p5, iv 3, iv 1, rv zd1735, iv 13, rv b1809, iv 1]) rfl (XS.iload X2317.here hx rfl (hb hby at_281) rfl  k))))) ?_
      exact own_finZ X2317 hx (t := .boolean) hret (by simp) (z' := (1 : Int32)) rfl (hb hby at_283) (own_endW (Qv := (own_Q0 Z p1 p2 p3 p4 p5 gC oN oA kA oD h0 n0)) X2317 hS (own_some hret) hlk (by decide) (by decide) rfl hk2317 (fun vm' hv' => ⟨rfl, N2317⟩))
set_option maxRecDepth 65536 in
set_option maxHeartbeats 40000000 in
theorem comes_1 {Post : Tables → Env → Array Value → State → Outcome → State → Prop} (hpost : ∀ tb e args s v u, (limb_1_1.after args s (.returned v) u = true ∧ limb_1_2.after args s (.returned v) u = true ∧ True) → ReturnedEndW s (.returned v) u (Jvm.fieldLocs frame_1_writes args s ++ Jvm.arrayLocs frame_1_arrays args s ++ Jvm.staticLocs frame_1_statics s) 112 1408 → Post tb e args s (.returned v) u) :
    ArmFor flags0 classFile x code maxLocals ret World_1 tables_1 room_1 Calls_1 rest_1 Pre_1 Post := by
  intro l hfl _ _ p e ha hc hk s m args below hf hA hF happ hP
  obtain ⟨hcalls, hrest, hpre⟩ := hP
  obtain ⟨-, -, -, hnamed, -, -, -, hat⟩ := (Spec.applies_iff hf).mp happ
  obtain ⟨hg, hn⟩ := and_e (Cond.before_iff.mp (show (Jvm.Cond.and given_1 narrow_1).before args s = true from hpre))
  obtain ⟨g1, g2⟩ := and_e hg
  obtain ⟨g3, g4⟩ := and_e g2
  obtain ⟨g5, g6⟩ := and_e g4
  obtain ⟨g7, g8⟩ := and_e g6
  obtain ⟨g9, g10⟩ := and_e g8
  obtain ⟨w0, w1, w2, w3, w4, rfl⟩ : ∃ w0 w1 w2 w3 w4 : Value, args = #[w0, w1, w2, w3, w4] := by
    have hs : args.size = 5 := by simpa [Cond.value, given_1] using g1
    obtain ⟨L⟩ := args
    match L, hs with
    | [w0, w1, w2, w3, w4], _ => exact ⟨w0, w1, w2, w3, w4, rfl⟩
  have hw := fun d (hd : d ∈ tables_1) => atoms_spec (ws := Jvm.Cond.code x code maxLocals ret :: tables_1) hat d (List.mem_cons_of_mem _ hd)
  have hfit : Fit s := fun {y c} hc i hi => by
    obtain ⟨ha, rfl⟩ := Array.getElem?_eq_some_iff.mp hc
    have q := List.all_eq_true.mp ((Array.all_eq_true_iff_forall_mem.mp hF) _ (Array.getElem_mem ha)) i (List.mem_range.mpr hi)
    simpa [Array.getElem?_eq_getElem hi] using q
  obtain ⟨hsets, hown0⟩ := atoms_of _ (rest_1_c_eq ▸ (show rest_1_c.before _ s = true from hrest))
  have hr0 := Cond.before_iff.mp hown0
  obtain ⟨i0, ei0⟩ := is_v g3
  obtain rfl : w0 = (.int i0) := Option.some.inj ei0
  obtain ⟨i1, ei1⟩ := is_v g5
  obtain rfl : w1 = (.int i1) := Option.some.inj ei1
  obtain ⟨i2, ei2⟩ := is_v g7
  obtain rfl : w2 = (.int i2) := Option.some.inj ei2
  obtain ⟨i3, ei3⟩ := is_v g9
  obtain rfl : w3 = (.int i3) := Option.some.inj ei3
  obtain ⟨i4, ei4⟩ := is_v g10
  obtain rfl : w4 = (.int i4) := Option.some.inj ei4
  obtain ⟨nE, hn⟩ := and_e hn
  obtain ⟨nA, nL⟩ := and_e hn
  obtain ⟨oN, evN⟩ := exa_v nE
  have SN := Sta.start evN (Or.inr ⟨(own_h hw 2 rfl), (own_h hw 47 rfl)⟩)
  obtain ⟨oA, evA⟩ := arr_v nA
  have SA := Sta.start evA (Or.inr ⟨(own_h hw 2 rfl), (own_h hw 59 rfl)⟩)
  obtain ⟨cA, RA⟩ := Arr.start evA nA
  obtain ⟨lz, ls⟩ := own_lenAt nL evA RA
  have AA := Arv.start (vs := []) (dv := .null) hfit RA lz ls (by decide) rfl trivial
  obtain ⟨gC, SC, eG⟩ := own_staI (Cond.before_iff.mp (hsets _ (List.mem_of_getElem? (i := 10) rfl))) (hsets _ (List.mem_of_getElem? (i := 9) rfl))
  have hG := own_not0 eG (Cond.before_iff.mp (hsets _ (List.mem_of_getElem? (i := 11) rfl)))
  obtain ⟨oD, evD⟩ := arr_v (Cond.before_iff.mp (hsets _ (List.mem_of_getElem? (i := 6) rfl)))
  have SD := Sta.start evD (Or.inr ⟨(own_h hw 18 rfl), hsets _ (List.mem_of_getElem? (i := 2) rfl)⟩)
  obtain ⟨n, o, h1, h2, h3, _, L, rfl, ⟨rfl, N⟩, hq⟩ := own_rm0 l s _ hw tables_1 i0 i1 i2 i3 i4 gC oN oA cA.cls oD s.heap s.heap.size (Nat.le_refl _) SC SN SA AA SD hG p e ha hc hk s m _ below hf ((Spec.applies_iff_loose hf).mp happ).1 ⟨rfl, State.Warmed39.refl s, rfl, trivial⟩ trivial
  refine ⟨n, _, h1, h2, h3, hpost _ _ _ _ _ _ ⟨Cond.after_iff.mpr rfl, Cond.after_iff.mpr (eq_i res_at (Term.int_eval (1)) rfl), trivial⟩ ⟨hq.1, hq.2.1, hq.2.2.1, (hq.2.2.2.sift fun y hy => Or.inr (N y hy)).mono (by decide) (by decide)⟩⟩
theorem main_1_1 : Claimed_1_1 := comes_1 fun _ _ _ _ _ _ h hF => ⟨h.1, hF⟩
theorem main_1_2 : Claimed_1_2 := comes_1 fun _ _ _ _ _ _ h hF => ⟨h.2.1, hF⟩
end Jvm.Pilot.@@N@@
namespace Jvm.Pilot.@@N@@
open Jvm Jvm.ClassFile Sem Op Lib Jvm.Free Jvm.Stand Jvm.Pilot.@@N@@.Jvm.D
/-! MADE BY PROGRAM (witnessworld.py) out of the Statement's table words and the real class files: 30 classes; the members and pool entries that the words name. The judged class is class 1, her method 1. -/
namespace start1
open Jvm.ClassFile
def u (s : String) : CpInfo := .utf8 (stringToUtf16 s)
/-- a pool by its gaps: so many unusable entries, then the entry; so many at the end -/
def gap : Nat → List CpInfo → List CpInfo
  | 0, r => r
  | n + 1, r => .unusable :: gap n r
def poolList (es : List (Nat × CpInfo)) (last : Nat) : List CpInfo := es.foldr (fun e r => gap e.1 (e.2 :: r)) (gap last [])
def pool (es : List (Nat × CpInfo)) (last : Nat) : Array CpInfo := ⟨poolList es last⟩
def fileOf (pool : Array CpInfo) (this : Nat) (attrs : Array Attribute := #[]) (ms : Array MethodInfo := #[]) (fl : Nat := 33) (sup : Nat := 0) (ifs : Array Nat := #[]) (fds : Array FieldInfo := #[]) : ClassFile where
  minorVersion := 0
  majorVersion := 65
  constantPool := pool
  accessFlags := fl
  thisClass := this
  superClass := sup
  interfaces := ifs
  fields := fds
  methods := ms
  attributes := attrs
def plain (name : String) (sup : Option ClassId) : Class where
  name := name
  kind := .ordinary
  loader := none
  accessFlags := 33
  super := sup
  interfaces := #[]
  cf := none
  fields := #[]
  methods := #[]
  instanceTypes := #[]
  staticTypes := #[]
  resolved := #[]
  callSites := []
  init := .initialized
  statics := none
  mirror := none

def pool0 : Array CpInfo := pool [(5, u "<init>"), (0, u "()V"), (1, .class_ 10), (1, u "java/lang/Object")] 113

def k0c0 : Code := { maxStack := 0, maxLocals := 1, code := object_method_1_code, exceptionTable := #[], attributes := #[] }
def k0m0 : Method := { name := "<init>", desc := "()V", sig := { parameters := [], returnType := none }, accessFlags := 1, code := some k0c0 }
/-- java/lang/Object -/
def k0 : Class := { plain "java/lang/Object" none with
  accessFlags := 33
  interfaces := #[]
  cf := some (fileOf pool0 8 #[] #[{ accessFlags := 1, nameIndex := 5, descriptorIndex := 6, attributes := #[] }] 33 0 #[] #[])
  fields := #[]
  methods := #[k0m0]
  instanceTypes := #[]
  staticTypes := #[]
  resolved := Array.replicate 124 none
  statics := none }

def pool1 : Array CpInfo := pool [(2, .class_ 4), (0, .nameAndType 5 6), (0, u "java/lang/Object"), (0, u "<init>"), (0, u "()V"), (0, .methodref 8 9), (0, .class_ 10), (0, .nameAndType 11 12), (0, u "com/example/tagwright/tagwright/XmlElement"), (0, u "newAttributes"), (0, u "(IZ)[Ljava/lang/String;"), (0, .methodref 14 15), (0, .class_ 16), (0, .nameAndType 17 18), (0, u "com/example/tagwright/tagwright/XmlElementNewAttributesPinLaw"), (0, u "put"), (0, u "([Ljava/lang/String;IZIIII)V"), (0, .string 20), (0, u "e"), (0, .class_ 22), (0, u "java/util/ArrayList"), (0, .methodref 21 3), (0, .methodref 8 25), (0, .nameAndType 5 26), (0, u "(Ljava/lang/String;Ljava/lang/String;Ljava/lang/String;Ljava/util/List;[Ljava/lang/String;Lcom/example/tagwright/tagwright/Location;Lcom/example/tagwright/tagwright/XmlElement;)V"), (0, .methodref 8 28), (0, .nameAndType 29 30), (0, u "attributeCount"), (0, u "()I"), (0, .methodref 14 32), (0, .nameAndType 33 34), (0, u "check"), (0, u "(Lcom/example/tagwright/tagwright/XmlElement;IZIIII)Z"), (0, .methodref 36 37), (0, .class_ 38), (0, .nameAndType 39 40), (0, u "java/lang/String"), (0, u "valueOf"), (0, u "(C)Ljava/lang/String;"), (0, .methodref 14 42), (0, .nameAndType 43 44), (0, u "str"), (0, u "(II)Ljava/lang/String;"), (0, .methodref 8 46), (0, .nameAndType 47 48), (0, u "putAttribute"), (0, u "([Ljava/lang/String;ILjava/lang/String;Ljava/lang/String;Ljava/lang/String;Ljava/lang/String;)V"), (0, .methodref 8 50), (0, .nameAndType 51 52), (0, u "attributeName"), (0, u "(I)Ljava/lang/String;"), (0, .methodref 36 54), (0, .nameAndType 55 56), (0, u "equals"), (0, u "(Ljava/lang/Object;)Z"), (0, .methodref 8 58), (0, .nameAndType 59 52), (0, u "attributeValue"), (0, .methodref 8 61), (0, .nameAndType 62 52), (0, u "attributeNamespace"), (0, .methodref 8 64), (0, .nameAndType 65 52), (0, u "attributeLocalName"), (2, u "law"), (0, u "(IIIII)Z")] 5

def k1m0 : Method := { name := "<init>", desc := "()V", sig := { parameters := [], returnType := none }, accessFlags := 1, code := none }
def k1c1 : Code := { maxStack := 9, maxLocals := 11, code := code, exceptionTable := #[], attributes := #[] }
def k1m1 : Method := { name := "law", desc := "(IIIII)Z", sig := { parameters := [.int, .int, .int, .int, .int], returnType := some .boolean }, accessFlags := 9, code := some k1c1 }
def k1c2 : Code := { maxStack := 3, maxLocals := 2, code := method_3_code, exceptionTable := #[], attributes := #[] }
def k1m2 : Method := { name := "str", desc := "(II)Ljava/lang/String;", sig := { parameters := [.int, .int], returnType := some (.object "java/lang/String") }, accessFlags := 10, code := some k1c2 }
def k1c3 : Code := { maxStack := 6, maxLocals := 11, code := method_4_code, exceptionTable := #[], attributes := #[] }
def k1m3 : Method := { name := "put", desc := "([Ljava/lang/String;IZIIII)V", sig := { parameters := [(.array (.object "java/lang/String")), .int, .boolean, .int, .int, .int, .int], returnType := none }, accessFlags := 10, code := some k1c3 }
def k1c4 : Code := { maxStack := 3, maxLocals := 9, code := method_5_code, exceptionTable := #[], attributes := #[] }
def k1m4 : Method := { name := "check", desc := "(Lcom/example/tagwright/tagwright/XmlElement;IZIIII)Z", sig := { parameters := [(.object "com/example/tagwright/tagwright/XmlElement"), .int, .boolean, .int, .int, .int, .int], returnType := some .boolean }, accessFlags := 10, code := some k1c4 }
/-- com/example/tagwright/tagwright/XmlElementNewAttributesPinLaw -/
def k1 : Class := { plain "com/example/tagwright/tagwright/XmlElementNewAttributesPinLaw" (some 0) with
  accessFlags := 49
  interfaces := #[]
  cf := some (fileOf pool1 14 #[] #[{ accessFlags := 1, nameIndex := 5, descriptorIndex := 6, attributes := #[] }, { accessFlags := 9, nameIndex := 68, descriptorIndex := 69, attributes := #[] }, { accessFlags := 10, nameIndex := 43, descriptorIndex := 44, attributes := #[] }, { accessFlags := 10, nameIndex := 17, descriptorIndex := 18, attributes := #[] }, { accessFlags := 10, nameIndex := 33, descriptorIndex := 34, attributes := #[] }] 49 2 #[] #[])
  fields := #[]
  methods := #[k1m0, k1m1, k1m2, k1m3, k1m4]
  instanceTypes := #[]
  staticTypes := #[]
  resolved := Array.replicate 75 none
  statics := none }

def pool2 : Array CpInfo := pool [(1, .methodref 2 3), (0, .class_ 4), (0, .nameAndType 5 6), (0, u "java/lang/Object"), (0, u "<init>"), (0, u "()V"), (0, .fieldref 8 9), (0, .class_ 10), (0, .nameAndType 11 12), (0, u "com/example/tagwright/tagwright/XmlElement"), (0, u "NO_CHILDREN"), (0, u "Ljava/util/List;"), (0, .fieldref 8 14), (0, .nameAndType 15 12), (0, u "children"), (0, .fieldref 8 17), (0, .nameAndType 18 19), (0, u "namespace"), (0, u "Ljava/lang/String;"), (0, .fieldref 8 21), (0, .nameAndType 22 19), (0, u "localName"), (0, .fieldref 8 24), (0, .nameAndType 25 19), (0, u "tagName"), (0, .fieldref 8 27), (0, .nameAndType 28 12), (0, u "declarations"), (0, .fieldref 8 30), (0, .nameAndType 31 32), (0, u "NO_ATTRIBUTES"), (0, u "[Ljava/lang/String;"), (0, .fieldref 8 34), (0, .nameAndType 35 32), (0, u "attributes"), (0, .methodref 8 37), (0, .nameAndType 38 39), (0, u "isNamespaced"), (0, u "([Ljava/lang/String;)Z"), (0, .fieldref 8 41), (0, .nameAndType 42 43), (0, u "stride"), (0, u "B"), (0, .fieldref 8 45), (0, .nameAndType 46 47), (0, u "location"), (0, u "Lcom/example/tagwright/tagwright/Location;"), (0, .fieldref 8 49), (0, .nameAndType 50 51), (0, u "parent"), (0, u "Lcom/example/tagwright/tagwright/XmlElement;"), (4, .fieldref 8 57), (0, .nameAndType 58 59), (0, u "index"), (0, u "I"), (0, .class_ 61), (0, u "java/lang/String"), (0, .methodref 60 63), (0, .nameAndType 64 65), (0, u "equals"), (0, u "(Ljava/lang/Object;)Z"), (14, u "()I"), (17, u "attributeCount"), (3, .class_ 103), (0, u "com/example/tagwright/tagwright/XmlElement$Attribute"), (2, u "attributeNamespace"), (0, u "(I)Ljava/lang/String;"), (2, u "attributeLocalName"), (2, u "attributeName"), (2, u "attributeValue"), (13, u "texts"), (2, u "textBeyondWhiteSpace"), (0, u "Z"), (42, .class_ 178), (0, u "com/example/tagwright/tagwright/XmlElement$Declaration"), (14, u "FIRST_TEXTS"), (2, u "NAME"), (1, u "VALUE"), (1, u "NAMESPACE"), (1, u "LOCAL_NAME"), (1, u "PLAIN"), (0, u "NAMESPACED"), (1, u "(Ljava/lang/String;Ljava/lang/String;Ljava/lang/String;Ljava/util/List;[Ljava/lang/String;Lcom/example/tagwright/tagwright/Location;Lcom/example/tagwright/tagwright/XmlElement;)V"), (6, u "newAttributes"), (0, u "(IZ)[Ljava/lang/String;"), (0, u "putAttribute"), (0, u "([Ljava/lang/String;ILjava/lang/String;Ljava/lang/String;Ljava/lang/String;Ljava/lang/String;)V")] 43

def k2c0 : Code := { maxStack := 3, maxLocals := 8, code := prog_100_method_1_code, exceptionTable := #[], attributes := #[] }
def k2m0 : Method := { name := "<init>", desc := "(Ljava/lang/String;Ljava/lang/String;Ljava/lang/String;Ljava/util/List;[Ljava/lang/String;Lcom/example/tagwright/tagwright/Location;Lcom/example/tagwright/tagwright/XmlElement;)V", sig := { parameters := [(.object "java/lang/String"), (.object "java/lang/String"), (.object "java/lang/String"), (.object "java/util/List"), (.array (.object "java/lang/String")), (.object "com/example/tagwright/tagwright/Location"), (.object "com/example/tagwright/tagwright/XmlElement")], returnType := none }, accessFlags := 0, code := some k2c0 }
def k2c1 : Code := { maxStack := 2, maxLocals := 2, code := prog_100_method_3_code, exceptionTable := #[], attributes := #[] }
def k2m1 : Method := { name := "newAttributes", desc := "(IZ)[Ljava/lang/String;", sig := { parameters := [.int, .boolean], returnType := some (.array (.object "java/lang/String")) }, accessFlags := 8, code := some k2c1 }
def k2c2 : Code := { maxStack := 3, maxLocals := 7, code := prog_100_method_4_code, exceptionTable := #[], attributes := #[] }
def k2m2 : Method := { name := "putAttribute", desc := "([Ljava/lang/String;ILjava/lang/String;Ljava/lang/String;Ljava/lang/String;Ljava/lang/String;)V", sig := { parameters := [(.array (.object "java/lang/String")), .int, (.object "java/lang/String"), (.object "java/lang/String"), (.object "java/lang/String"), (.object "java/lang/String")], returnType := none }, accessFlags := 8, code := some k2c2 }
def k2c3 : Code := { maxStack := 2, maxLocals := 1, code := prog_100_method_5_code, exceptionTable := #[], attributes := #[] }
def k2m3 : Method := { name := "isNamespaced", desc := "([Ljava/lang/String;)Z", sig := { parameters := [(.array (.object "java/lang/String"))], returnType := some .boolean }, accessFlags := 10, code := some k2c3 }
def k2c4 : Code := { maxStack := 2, maxLocals := 1, code := prog_100_method_15_code, exceptionTable := #[], attributes := #[] }
def k2m4 : Method := { name := "attributeCount", desc := "()I", sig := { parameters := [], returnType := some .int }, accessFlags := 0, code := some k2c4 }
def k2c5 : Code := { maxStack := 3, maxLocals := 2, code := prog_100_method_16_code, exceptionTable := #[], attributes := #[] }
def k2m5 : Method := { name := "attributeNamespace", desc := "(I)Ljava/lang/String;", sig := { parameters := [.int], returnType := some (.object "java/lang/String") }, accessFlags := 0, code := some k2c5 }
def k2c6 : Code := { maxStack := 4, maxLocals := 2, code := prog_100_method_17_code, exceptionTable := #[], attributes := #[] }
def k2m6 : Method := { name := "attributeLocalName", desc := "(I)Ljava/lang/String;", sig := { parameters := [.int], returnType := some (.object "java/lang/String") }, accessFlags := 0, code := some k2c6 }
def k2c7 : Code := { maxStack := 3, maxLocals := 2, code := prog_100_method_18_code, exceptionTable := #[], attributes := #[] }
def k2m7 : Method := { name := "attributeName", desc := "(I)Ljava/lang/String;", sig := { parameters := [.int], returnType := some (.object "java/lang/String") }, accessFlags := 0, code := some k2c7 }
def k2c8 : Code := { maxStack := 3, maxLocals := 2, code := prog_100_method_19_code, exceptionTable := #[], attributes := #[] }
def k2m8 : Method := { name := "attributeValue", desc := "(I)Ljava/lang/String;", sig := { parameters := [.int], returnType := some (.object "java/lang/String") }, accessFlags := 0, code := some k2c8 }
/-- com/example/tagwright/tagwright/XmlElement -/
def k2 : Class := { plain "com/example/tagwright/tagwright/XmlElement" (some 0) with
  accessFlags := 48
  interfaces := #[]
  cf := some (fileOf pool2 8 #[.nestMembers #[102, 177]] #[{ accessFlags := 0, nameIndex := 5, descriptorIndex := 207, attributes := #[] }, { accessFlags := 8, nameIndex := 214, descriptorIndex := 215, attributes := #[] }, { accessFlags := 8, nameIndex := 216, descriptorIndex := 217, attributes := #[] }, { accessFlags := 10, nameIndex := 38, descriptorIndex := 39, attributes := #[] }, { accessFlags := 0, nameIndex := 98, descriptorIndex := 80, attributes := #[] }, { accessFlags := 0, nameIndex := 106, descriptorIndex := 107, attributes := #[] }, { accessFlags := 0, nameIndex := 110, descriptorIndex := 107, attributes := #[] }, { accessFlags := 0, nameIndex := 113, descriptorIndex := 107, attributes := #[] }, { accessFlags := 0, nameIndex := 116, descriptorIndex := 107, attributes := #[] }] 48 2 #[] #[{ accessFlags := 26, nameIndex := 11, descriptorIndex := 12, attributes := #[] }, { accessFlags := 26, nameIndex := 31, descriptorIndex := 32, attributes := #[] }, { accessFlags := 26, nameIndex := 193, descriptorIndex := 59, attributes := #[] }, { accessFlags := 26, nameIndex := 196, descriptorIndex := 59, attributes := #[] }, { accessFlags := 26, nameIndex := 198, descriptorIndex := 59, attributes := #[] }, { accessFlags := 26, nameIndex := 200, descriptorIndex := 59, attributes := #[] }, { accessFlags := 26, nameIndex := 202, descriptorIndex := 59, attributes := #[] }, { accessFlags := 26, nameIndex := 204, descriptorIndex := 59, attributes := #[] }, { accessFlags := 26, nameIndex := 205, descriptorIndex := 59, attributes := #[] }, { accessFlags := 18, nameIndex := 18, descriptorIndex := 19, attributes := #[] }, { accessFlags := 18, nameIndex := 22, descriptorIndex := 19, attributes := #[] }, { accessFlags := 18, nameIndex := 25, descriptorIndex := 19, attributes := #[] }, { accessFlags := 18, nameIndex := 28, descriptorIndex := 12, attributes := #[] }, { accessFlags := 18, nameIndex := 35, descriptorIndex := 32, attributes := #[] }, { accessFlags := 18, nameIndex := 42, descriptorIndex := 43, attributes := #[] }, { accessFlags := 18, nameIndex := 46, descriptorIndex := 47, attributes := #[] }, { accessFlags := 18, nameIndex := 50, descriptorIndex := 51, attributes := #[] }, { accessFlags := 18, nameIndex := 58, descriptorIndex := 59, attributes := #[] }, { accessFlags := 2, nameIndex := 15, descriptorIndex := 12, attributes := #[] }, { accessFlags := 2, nameIndex := 130, descriptorIndex := 32, attributes := #[] }, { accessFlags := 2, nameIndex := 133, descriptorIndex := 134, attributes := #[] }])
  fields := #[{ name := "NO_CHILDREN", type := (.object "java/util/List"), accessFlags := 26, slot := 0, constantValue := 0 }, { name := "NO_ATTRIBUTES", type := (.array (.object "java/lang/String")), accessFlags := 26, slot := 1, constantValue := 0 }, { name := "FIRST_TEXTS", type := .int, accessFlags := 26, slot := 2, constantValue := 0 }, { name := "NAME", type := .int, accessFlags := 26, slot := 3, constantValue := 0 }, { name := "VALUE", type := .int, accessFlags := 26, slot := 4, constantValue := 0 }, { name := "NAMESPACE", type := .int, accessFlags := 26, slot := 5, constantValue := 0 }, { name := "LOCAL_NAME", type := .int, accessFlags := 26, slot := 6, constantValue := 0 }, { name := "PLAIN", type := .int, accessFlags := 26, slot := 7, constantValue := 0 }, { name := "NAMESPACED", type := .int, accessFlags := 26, slot := 8, constantValue := 0 }, { name := "namespace", type := (.object "java/lang/String"), accessFlags := 18, slot := 0, constantValue := 0 }, { name := "localName", type := (.object "java/lang/String"), accessFlags := 18, slot := 1, constantValue := 0 }, { name := "tagName", type := (.object "java/lang/String"), accessFlags := 18, slot := 2, constantValue := 0 }, { name := "declarations", type := (.object "java/util/List"), accessFlags := 18, slot := 3, constantValue := 0 }, { name := "attributes", type := (.array (.object "java/lang/String")), accessFlags := 18, slot := 4, constantValue := 0 }, { name := "stride", type := .byte, accessFlags := 18, slot := 5, constantValue := 0 }, { name := "location", type := (.object "com/example/tagwright/tagwright/Location"), accessFlags := 18, slot := 6, constantValue := 0 }, { name := "parent", type := (.object "com/example/tagwright/tagwright/XmlElement"), accessFlags := 18, slot := 7, constantValue := 0 }, { name := "index", type := .int, accessFlags := 18, slot := 8, constantValue := 0 }, { name := "children", type := (.object "java/util/List"), accessFlags := 2, slot := 9, constantValue := 0 }, { name := "texts", type := (.array (.object "java/lang/String")), accessFlags := 2, slot := 10, constantValue := 0 }, { name := "textBeyondWhiteSpace", type := .boolean, accessFlags := 2, slot := 11, constantValue := 0 }]
  methods := #[k2m0, k2m1, k2m2, k2m3, k2m4, k2m5, k2m6, k2m7, k2m8]
  instanceTypes := #[(.object "java/lang/String"), (.object "java/lang/String"), (.object "java/lang/String"), (.object "java/util/List"), (.array (.object "java/lang/String")), .byte, (.object "com/example/tagwright/tagwright/Location"), (.object "com/example/tagwright/tagwright/XmlElement"), .int, (.object "java/util/List"), (.array (.object "java/lang/String")), .boolean]
  staticTypes := #[(.object "java/util/List"), (.array (.object "java/lang/String")), .int, .int, .int, .int, .int, .int, .int]
  resolved := Array.replicate 261 none
  statics := some 0 }

def pool3 : Array CpInfo := pool [(1, .class_ 2), (0, u "java/io/Serializable"), (0, .class_ 4), (0, u "java/lang/Object")] 2

/-- java/io/Serializable -/
def k3 : Class := { plain "java/io/Serializable" (some 0) with
  accessFlags := 1537
  interfaces := #[]
  cf := some (fileOf pool3 1 #[] #[] 1537 3 #[] #[])
  fields := #[]
  methods := #[]
  instanceTypes := #[]
  staticTypes := #[]
  resolved := Array.replicate 7 none
  statics := none }

def pool4 : Array CpInfo := pool [(1, .class_ 2), (0, u "java/lang/Comparable"), (0, .class_ 4), (0, u "java/lang/Object")] 7

/-- java/lang/Comparable -/
def k4 : Class := { plain "java/lang/Comparable" (some 0) with
  accessFlags := 1537
  interfaces := #[]
  cf := some (fileOf pool4 1 #[] #[] 1537 3 #[] #[])
  fields := #[]
  methods := #[]
  instanceTypes := #[]
  staticTypes := #[]
  resolved := Array.replicate 12 none
  statics := none }

def pool5 : Array CpInfo := pool [(2, .class_ 4), (1, u "java/lang/CharSequence"), (42, .class_ 48), (0, u "java/lang/CharSequence$1CodePointIterator"), (10, .class_ 60), (0, u "java/lang/CharSequence$1CharIterator"), (5, .class_ 67), (0, u "java/lang/Object")] 63

/-- java/lang/CharSequence -/
def k5 : Class := { plain "java/lang/CharSequence" (some 0) with
  accessFlags := 1537
  interfaces := #[]
  cf := some (fileOf pool5 2 #[.nestMembers #[47, 59]] #[] 1537 66 #[] #[])
  fields := #[]
  methods := #[]
  instanceTypes := #[]
  staticTypes := #[]
  resolved := Array.replicate 131 none
  statics := none }

def pool6 : Array CpInfo := pool [(1, .class_ 2), (0, u "java/lang/constant/Constable"), (0, .class_ 4), (0, u "java/lang/Object")] 6

/-- java/lang/constant/Constable -/
def k6 : Class := { plain "java/lang/constant/Constable" (some 0) with
  accessFlags := 1537
  interfaces := #[]
  cf := some (fileOf pool6 1 #[] #[] 1537 3 #[] #[])
  fields := #[]
  methods := #[]
  instanceTypes := #[]
  staticTypes := #[]
  resolved := Array.replicate 11 none
  statics := none }

def pool7 : Array CpInfo := pool [(1, .class_ 2), (0, u "java/lang/constant/ConstantDesc"), (0, .class_ 4), (0, u "java/lang/Object")] 32

/-- java/lang/constant/ConstantDesc -/
def k7 : Class := { plain "java/lang/constant/ConstantDesc" (some 0) with
  accessFlags := 1537
  interfaces := #[]
  cf := some (fileOf pool7 1 #[] #[] 1537 3 #[] #[])
  fields := #[]
  methods := #[]
  instanceTypes := #[]
  staticTypes := #[]
  resolved := Array.replicate 37 none
  statics := none }

def pool8 : Array CpInfo := pool [(1, .methodref 2 3), (0, .class_ 4), (0, .nameAndType 5 6), (0, u "java/lang/Object"), (0, u "<init>"), (0, u "()V"), (2, .fieldref 10 11), (0, .class_ 12), (0, .nameAndType 13 14), (0, u "java/lang/String"), (0, u "value"), (0, u "[B"), (0, .fieldref 10 16), (0, .nameAndType 17 18), (0, u "coder"), (0, u "B"), (2, u "hash"), (0, u "I"), (2, u "hashIsZero"), (0, u "Z"), (11, .fieldref 10 39), (0, .nameAndType 40 26), (0, u "COMPACT_STRINGS"), (12, u "toBytes"), (53, .class_ 109), (1, u "java/lang/StringLatin1"), (99, .methodref 10 210), (0, .nameAndType 5 211), (0, u "([BB)V"), (157, u "(C)Z"), (171, .methodref 107 542), (0, .nameAndType 543 544), (0, u "equals"), (0, u "([B[B)Z"), (28, u "(Ljava/lang/Object;)Z"), (1, .class_ 576), (0, u "java/lang/CharSequence"), (22, u "CASE_INSENSITIVE_ORDER"), (0, u "Ljava/util/Comparator;"), (181, u "valueOf"), (0, u "(C)Ljava/lang/String;"), (231, .methodref 107 1016), (0, .nameAndType 1017 369), (0, u "canEncode"), (0, .methodref 107 1019), (0, .nameAndType 53 1020), (0, u "(C)[B"), (80, u "serialPersistentFields"), (0, u "[Ljava/io/ObjectStreamField;"), (0, .class_ 1104), (0, u "java/lang/String$CaseInsensitiveComparator"), (1, .class_ 1107), (0, u "java/io/Serializable"), (0, .class_ 1109), (0, u "java/lang/Comparable"), (0, .class_ 1111), (0, u "java/lang/constant/Constable"), (0, .class_ 1113), (0, u "java/lang/constant/ConstantDesc"), (2, u "serialVersionUID"), (0, u "J"), (3, u "REPL"), (0, u "C"), (2, u "LATIN1"), (1, u "UTF16")] 323

def k8m0 : Method := { name := "<init>", desc := "()V", sig := { parameters := [], returnType := none }, accessFlags := 1, code := none }
def k8c1 : Code := { maxStack := 2, maxLocals := 3, code := jdk_42_method_66_code, exceptionTable := #[], attributes := #[] }
def k8m1 : Method := { name := "equals", desc := "(Ljava/lang/Object;)Z", sig := { parameters := [(.object "java/lang/Object")], returnType := some .boolean }, accessFlags := 1, code := some k8c1 }
def k8c2 : Code := { maxStack := 4, maxLocals := 1, code := jdk_42_method_139_code, exceptionTable := #[], attributes := #[] }
def k8m2 : Method := { name := "valueOf", desc := "(C)Ljava/lang/String;", sig := { parameters := [.char], returnType := some (.object "java/lang/String") }, accessFlags := 9, code := some k8c2 }
def k8c3 : Code := { maxStack := 2, maxLocals := 3, code := jdk_42_method_151_code, exceptionTable := #[], attributes := #[] }
def k8m3 : Method := { name := "<init>", desc := "([BB)V", sig := { parameters := [(.array .byte), .byte], returnType := none }, accessFlags := 0, code := some k8c3 }
/-- java/lang/String -/
def k8 : Class := { plain "java/lang/String" (some 0) with
  accessFlags := 49
  interfaces := #[3, 4, 5, 6, 7]
  cf := some (fileOf pool8 10 #[.nestMembers #[1103]] #[{ accessFlags := 1, nameIndex := 5, descriptorIndex := 6, attributes := #[] }, { accessFlags := 1, nameIndex := 543, descriptorIndex := 573, attributes := #[] }, { accessFlags := 9, nameIndex := 782, descriptorIndex := 783, attributes := #[] }, { accessFlags := 0, nameIndex := 5, descriptorIndex := 211, attributes := #[] }] 49 2 #[1106, 1108, 575, 1110, 1112] #[{ accessFlags := 18, nameIndex := 13, descriptorIndex := 14, attributes := #[] }, { accessFlags := 18, nameIndex := 17, descriptorIndex := 18, attributes := #[] }, { accessFlags := 2, nameIndex := 21, descriptorIndex := 22, attributes := #[] }, { accessFlags := 2, nameIndex := 25, descriptorIndex := 26, attributes := #[] }, { accessFlags := 26, nameIndex := 1116, descriptorIndex := 1117, attributes := #[] }, { accessFlags := 24, nameIndex := 40, descriptorIndex := 26, attributes := #[] }, { accessFlags := 26, nameIndex := 1101, descriptorIndex := 1102, attributes := #[] }, { accessFlags := 26, nameIndex := 1121, descriptorIndex := 1122, attributes := #[] }, { accessFlags := 25, nameIndex := 599, descriptorIndex := 600, attributes := #[] }, { accessFlags := 24, nameIndex := 1125, descriptorIndex := 18, attributes := #[] }, { accessFlags := 24, nameIndex := 1127, descriptorIndex := 18, attributes := #[] }])
  fields := #[{ name := "value", type := (.array .byte), accessFlags := 18, slot := 0, constantValue := 0 }, { name := "coder", type := .byte, accessFlags := 18, slot := 1, constantValue := 0 }, { name := "hash", type := .int, accessFlags := 2, slot := 2, constantValue := 0 }, { name := "hashIsZero", type := .boolean, accessFlags := 2, slot := 3, constantValue := 0 }, { name := "serialVersionUID", type := .long, accessFlags := 26, slot := 0, constantValue := 0 }, { name := "COMPACT_STRINGS", type := .boolean, accessFlags := 24, slot := 1, constantValue := 0 }, { name := "serialPersistentFields", type := (.array (.object "java/io/ObjectStreamField")), accessFlags := 26, slot := 2, constantValue := 0 }, { name := "REPL", type := .char, accessFlags := 26, slot := 3, constantValue := 0 }, { name := "CASE_INSENSITIVE_ORDER", type := (.object "java/util/Comparator"), accessFlags := 25, slot := 4, constantValue := 0 }, { name := "LATIN1", type := .byte, accessFlags := 24, slot := 5, constantValue := 0 }, { name := "UTF16", type := .byte, accessFlags := 24, slot := 6, constantValue := 0 }]
  methods := #[k8m0, k8m1, k8m2, k8m3]
  instanceTypes := #[(.array .byte), .byte, .int, .boolean]
  staticTypes := #[.long, .boolean, (.array (.object "java/io/ObjectStreamField")), .char, (.object "java/util/Comparator"), .byte, .byte]
  resolved := Array.replicate 1451 none
  statics := some 1 }

def pool9 : Array CpInfo := pool [(8, .class_ 10), (1, u "java/lang/Iterable"), (24, .class_ 36), (0, u "java/lang/Object")] 25

/-- java/lang/Iterable -/
def k9 : Class := { plain "java/lang/Iterable" (some 0) with
  accessFlags := 1537
  interfaces := #[]
  cf := some (fileOf pool9 8 #[] #[] 1537 35 #[] #[])
  fields := #[]
  methods := #[]
  instanceTypes := #[]
  staticTypes := #[]
  resolved := Array.replicate 62 none
  statics := none }

def pool10 : Array CpInfo := pool [(10, .class_ 12), (1, u "java/util/Collection"), (47, .class_ 61), (0, u "java/lang/Object"), (0, .class_ 63), (0, u "java/lang/Iterable")] 51

/-- java/util/Collection -/
def k10 : Class := { plain "java/util/Collection" (some 0) with
  accessFlags := 1537
  interfaces := #[9]
  cf := some (fileOf pool10 10 #[] #[] 1537 60 #[62] #[])
  fields := #[]
  methods := #[]
  instanceTypes := #[]
  staticTypes := #[]
  resolved := Array.replicate 115 none
  statics := none }

def pool11 : Array CpInfo := pool [(1, .methodref 2 3), (0, .class_ 4), (0, .nameAndType 5 6), (0, u "java/lang/Object"), (0, u "<init>"), (0, u "()V"), (1, .class_ 10), (1, u "java/util/AbstractCollection"), (66, .class_ 78), (0, u "java/util/Collection")] 81

def k11c0 : Code := { maxStack := 1, maxLocals := 1, code := jdk_22_method_1_code, exceptionTable := #[], attributes := #[] }
def k11m0 : Method := { name := "<init>", desc := "()V", sig := { parameters := [], returnType := none }, accessFlags := 4, code := some k11c0 }
/-- java/util/AbstractCollection -/
def k11 : Class := { plain "java/util/AbstractCollection" (some 0) with
  accessFlags := 1057
  interfaces := #[10]
  cf := some (fileOf pool11 8 #[] #[{ accessFlags := 4, nameIndex := 5, descriptorIndex := 6, attributes := #[] }] 1057 2 #[77] #[])
  fields := #[]
  methods := #[k11m0]
  instanceTypes := #[]
  staticTypes := #[]
  resolved := Array.replicate 160 none
  statics := none }

def pool12 : Array CpInfo := pool [(8, .class_ 10), (1, u "java/util/SequencedCollection"), (15, .class_ 27), (0, u "java/lang/Object"), (0, .class_ 29), (0, u "java/util/Collection")] 27

/-- java/util/SequencedCollection -/
def k12 : Class := { plain "java/util/SequencedCollection" (some 0) with
  accessFlags := 1537
  interfaces := #[10]
  cf := some (fileOf pool12 8 #[] #[] 1537 26 #[28] #[])
  fields := #[]
  methods := #[]
  instanceTypes := #[]
  staticTypes := #[]
  resolved := Array.replicate 57 none
  statics := none }

def pool13 : Array CpInfo := pool [(8, .class_ 10), (1, u "java/util/List"), (92, .class_ 104), (0, u "java/lang/Object"), (15, .class_ 121), (0, u "java/util/SequencedCollection")] 129

/-- java/util/List -/
def k13 : Class := { plain "java/util/List" (some 0) with
  accessFlags := 1537
  interfaces := #[12]
  cf := some (fileOf pool13 8 #[] #[] 1537 103 #[120] #[])
  fields := #[]
  methods := #[]
  instanceTypes := #[]
  staticTypes := #[]
  resolved := Array.replicate 251 none
  statics := none }

def pool14 : Array CpInfo := pool [(1, .methodref 2 3), (0, .class_ 4), (0, .nameAndType 5 6), (0, u "java/util/AbstractCollection"), (0, u "<init>"), (0, u "()V"), (0, .fieldref 8 9), (0, .class_ 10), (0, .nameAndType 11 12), (0, u "java/util/AbstractList"), (0, u "modCount"), (0, u "I"), (64, .class_ 78), (0, u "java/util/AbstractList$Itr"), (3, .class_ 83), (0, u "java/util/AbstractList$ListItr"), (9, .class_ 94), (0, u "java/util/AbstractList$RandomAccessSubList"), (3, .class_ 99), (0, u "java/util/AbstractList$SubList"), (33, .class_ 134), (0, u "java/util/List"), (73, .class_ 209), (0, u "java/util/AbstractList$SubList$1"), (0, .class_ 211), (0, u "java/util/AbstractList$RandomAccessSpliterator")] 6

def k14c0 : Code := { maxStack := 2, maxLocals := 1, code := jdk_39_method_1_code, exceptionTable := #[], attributes := #[] }
def k14m0 : Method := { name := "<init>", desc := "()V", sig := { parameters := [], returnType := none }, accessFlags := 4, code := some k14c0 }
/-- java/util/AbstractList -/
def k14 : Class := { plain "java/util/AbstractList" (some 11) with
  accessFlags := 1057
  interfaces := #[13]
  cf := some (fileOf pool14 8 #[.nestMembers #[93, 98, 208, 210, 82, 77]] #[{ accessFlags := 4, nameIndex := 5, descriptorIndex := 6, attributes := #[] }] 1057 2 #[133] #[{ accessFlags := 132, nameIndex := 11, descriptorIndex := 12, attributes := #[] }])
  fields := #[{ name := "modCount", type := .int, accessFlags := 132, slot := 0, constantValue := 0 }]
  methods := #[k14m0]
  instanceTypes := #[.int]
  staticTypes := #[]
  resolved := Array.replicate 218 none
  statics := none }

def pool15 : Array CpInfo := pool [(1, .class_ 2), (0, u "java/util/RandomAccess"), (0, .class_ 4), (0, u "java/lang/Object")] 2

/-- java/util/RandomAccess -/
def k15 : Class := { plain "java/util/RandomAccess" (some 0) with
  accessFlags := 1537
  interfaces := #[]
  cf := some (fileOf pool15 1 #[] #[] 1537 3 #[] #[])
  fields := #[]
  methods := #[]
  instanceTypes := #[]
  staticTypes := #[]
  resolved := Array.replicate 7 none
  statics := none }

def pool16 : Array CpInfo := pool [(1, .class_ 2), (0, u "java/lang/Cloneable"), (0, .class_ 4), (0, u "java/lang/Object")] 2

/-- java/lang/Cloneable -/
def k16 : Class := { plain "java/lang/Cloneable" (some 0) with
  accessFlags := 1537
  interfaces := #[]
  cf := some (fileOf pool16 1 #[] #[] 1537 3 #[] #[])
  fields := #[]
  methods := #[]
  instanceTypes := #[]
  staticTypes := #[]
  resolved := Array.replicate 7 none
  statics := none }

def pool17 : Array CpInfo := pool [(1, .methodref 2 3), (0, .class_ 4), (0, .nameAndType 5 6), (0, u "java/util/AbstractList"), (0, u "<init>"), (0, u "()V"), (2, .fieldref 10 11), (0, .class_ 12), (0, .nameAndType 13 14), (0, u "java/util/ArrayList"), (0, u "elementData"), (0, u "[Ljava/lang/Object;"), (2, u "EMPTY_ELEMENTDATA"), (21, .fieldref 10 40), (0, .nameAndType 41 14), (0, u "DEFAULTCAPACITY_EMPTY_ELEMENTDATA"), (8, u "size"), (0, u "I"), (96, .class_ 149), (0, u "java/util/List"), (112, .class_ 263), (0, u "java/util/ArrayList$ListItr"), (3, .class_ 268), (0, u "java/util/ArrayList$Itr"), (7, .class_ 277), (0, u "java/util/ArrayList$SubList"), (12, .class_ 291), (0, u "java/util/ArrayList$ArrayListSpliterator"), (37, .class_ 330), (0, u "java/util/RandomAccess"), (0, .class_ 332), (0, u "java/lang/Cloneable"), (0, .class_ 334), (0, u "java/io/Serializable"), (0, u "serialVersionUID"), (0, u "J"), (3, u "DEFAULT_CAPACITY"), (159, .class_ 501), (0, u "java/util/ArrayList$SubList$2"), (0, .class_ 503), (0, u "java/util/ArrayList$SubList$1")] 5

def k17c0 : Code := { maxStack := 2, maxLocals := 1, code := jdk_38_method_2_code, exceptionTable := #[], attributes := #[] }
def k17m0 : Method := { name := "<init>", desc := "()V", sig := { parameters := [], returnType := none }, accessFlags := 1, code := some k17c0 }
/-- java/util/ArrayList -/
def k17 : Class := { plain "java/util/ArrayList" (some 14) with
  accessFlags := 33
  interfaces := #[13, 15, 16, 3]
  cf := some (fileOf pool17 10 #[.nestMembers #[290, 276, 500, 502, 262, 267]] #[{ accessFlags := 1, nameIndex := 5, descriptorIndex := 6, attributes := #[] }] 33 2 #[148, 329, 331, 333] #[{ accessFlags := 26, nameIndex := 335, descriptorIndex := 336, attributes := #[] }, { accessFlags := 26, nameIndex := 340, descriptorIndex := 51, attributes := #[] }, { accessFlags := 26, nameIndex := 17, descriptorIndex := 14, attributes := #[] }, { accessFlags := 26, nameIndex := 41, descriptorIndex := 14, attributes := #[] }, { accessFlags := 128, nameIndex := 13, descriptorIndex := 14, attributes := #[] }, { accessFlags := 2, nameIndex := 50, descriptorIndex := 51, attributes := #[] }])
  fields := #[{ name := "serialVersionUID", type := .long, accessFlags := 26, slot := 0, constantValue := 0 }, { name := "DEFAULT_CAPACITY", type := .int, accessFlags := 26, slot := 1, constantValue := 0 }, { name := "EMPTY_ELEMENTDATA", type := (.array (.object "java/lang/Object")), accessFlags := 26, slot := 2, constantValue := 0 }, { name := "DEFAULTCAPACITY_EMPTY_ELEMENTDATA", type := (.array (.object "java/lang/Object")), accessFlags := 26, slot := 3, constantValue := 0 }, { name := "elementData", type := (.array (.object "java/lang/Object")), accessFlags := 128, slot := 1, constantValue := 0 }, { name := "size", type := .int, accessFlags := 2, slot := 2, constantValue := 0 }]
  methods := #[k17m0]
  instanceTypes := #[.int, (.array (.object "java/lang/Object")), .int]
  staticTypes := #[.long, .int, (.array (.object "java/lang/Object")), (.array (.object "java/lang/Object"))]
  resolved := Array.replicate 509 none
  statics := some 2 }

def pool18 : Array CpInfo := pool [(4, .class_ 6), (1, u "java/lang/Object"), (0, u "<init>"), (0, u "()V"), (5, .class_ 16), (1, u "java/lang/StringLatin1"), (73, u "canEncode"), (14, u "(C)Z"), (15, u "$assertionsDisabled"), (0, u "Z"), (98, .class_ 223), (1, u "java/lang/StringLatin1$LinesSpliterator"), (57, u "equals"), (0, u "([B[B)Z"), (97, u "toBytes"), (1, u "(C)[B"), (7, .class_ 391), (0, u "java/lang/StringLatin1$CharsSpliterator")] 3

def k18m0 : Method := { name := "<init>", desc := "()V", sig := { parameters := [], returnType := none }, accessFlags := 0, code := none }
def k18c1 : Code := { maxStack := 2, maxLocals := 1, code := jdk_43_method_3_code, exceptionTable := #[], attributes := #[] }
def k18m1 : Method := { name := "canEncode", desc := "(C)Z", sig := { parameters := [.char], returnType := some .boolean }, accessFlags := 9, code := some k18c1 }
def k18c2 : Code := { maxStack := 3, maxLocals := 3, code := jdk_43_method_13_code, exceptionTable := #[], attributes := #[] }
def k18m2 : Method := { name := "equals", desc := "([B[B)Z", sig := { parameters := [(.array .byte), (.array .byte)], returnType := some .boolean }, accessFlags := 9, code := some k18c2 }
def k18c3 : Code := { maxStack := 4, maxLocals := 1, code := jdk_43_method_46_code, exceptionTable := #[], attributes := #[] }
def k18m3 : Method := { name := "toBytes", desc := "(C)[B", sig := { parameters := [.char], returnType := some (.array .byte) }, accessFlags := 9, code := some k18c3 }
/-- java/lang/StringLatin1 -/
def k18 : Class := { plain "java/lang/StringLatin1" (some 0) with
  accessFlags := 48
  interfaces := #[]
  cf := some (fileOf pool18 14 #[.nestMembers #[390, 221]] #[{ accessFlags := 0, nameIndex := 7, descriptorIndex := 8, attributes := #[] }, { accessFlags := 9, nameIndex := 90, descriptorIndex := 105, attributes := #[] }, { accessFlags := 9, nameIndex := 281, descriptorIndex := 282, attributes := #[] }, { accessFlags := 9, nameIndex := 380, descriptorIndex := 382, attributes := #[] }] 48 4 #[] #[{ accessFlags := 4120, nameIndex := 121, descriptorIndex := 122, attributes := #[] }])
  fields := #[{ name := "$assertionsDisabled", type := .boolean, accessFlags := 4120, slot := 0, constantValue := 0 }]
  methods := #[k18m0, k18m1, k18m2, k18m3]
  instanceTypes := #[]
  staticTypes := #[.boolean]
  resolved := Array.replicate 395 none
  statics := none }

def pool19 : Array CpInfo := pool [(2, .class_ 4), (1, u "java/lang/Object"), (0, u "<init>"), (0, u "()V"), (17, .class_ 26), (1, u "jdk/internal/util/Preconditions"), (28, .class_ 56), (0, u "jdk/internal/util/Preconditions$4"), (57, .class_ 115), (0, u "jdk/internal/util/Preconditions$1"), (7, u "SIOOBE_FORMATTER"), (0, u "Ljava/util/function/BiFunction;"), (0, .class_ 126), (0, u "jdk/internal/util/Preconditions$2"), (3, u "AIOOBE_FORMATTER"), (0, .class_ 132), (0, u "jdk/internal/util/Preconditions$3"), (3, u "IOOBE_FORMATTER")] 57

def k19m0 : Method := { name := "<init>", desc := "()V", sig := { parameters := [], returnType := none }, accessFlags := 1, code := none }
/-- jdk/internal/util/Preconditions -/
def k19 : Class := { plain "jdk/internal/util/Preconditions" (some 0) with
  accessFlags := 33
  interfaces := #[]
  cf := some (fileOf pool19 24 #[.nestMembers #[55, 131, 125, 114]] #[{ accessFlags := 1, nameIndex := 5, descriptorIndex := 6, attributes := #[] }] 33 2 #[] #[{ accessFlags := 25, nameIndex := 123, descriptorIndex := 124, attributes := #[] }, { accessFlags := 25, nameIndex := 130, descriptorIndex := 124, attributes := #[] }, { accessFlags := 25, nameIndex := 136, descriptorIndex := 124, attributes := #[] }])
  fields := #[{ name := "SIOOBE_FORMATTER", type := (.object "java/util/function/BiFunction"), accessFlags := 25, slot := 0, constantValue := 0 }, { name := "AIOOBE_FORMATTER", type := (.object "java/util/function/BiFunction"), accessFlags := 25, slot := 1, constantValue := 0 }, { name := "IOOBE_FORMATTER", type := (.object "java/util/function/BiFunction"), accessFlags := 25, slot := 2, constantValue := 0 }]
  methods := #[k19m0]
  instanceTypes := #[]
  staticTypes := #[(.object "java/util/function/BiFunction"), (.object "java/util/function/BiFunction"), (.object "java/util/function/BiFunction")]
  resolved := Array.replicate 194 none
  statics := some 3 }

def pool20 : Array CpInfo := pool [(9, u "<init>"), (6, .class_ 18), (1, u "java/lang/Object"), (0, u "()V"), (1, .class_ 23), (1, u "jdk/internal/util/ArraysSupport"), (0, u "LOG2_ARRAY_LONG_INDEX_SCALE"), (0, u "I"), (2, u "U"), (0, u "Ljdk/internal/misc/Unsafe;"), (8, u "BIG_ENDIAN"), (0, u "Z"), (8, u "LOG2_BYTE_BIT_SIZE"), (4, u "LOG2_ARRAY_INT_INDEX_SCALE"), (54, u "JLA"), (0, u "Ljdk/internal/access/JavaLangAccess;"), (11, u "LOG2_ARRAY_BOOLEAN_INDEX_SCALE"), (9, u "LOG2_ARRAY_BYTE_INDEX_SCALE"), (5, u "LOG2_ARRAY_CHAR_INDEX_SCALE"), (5, u "LOG2_ARRAY_SHORT_INDEX_SCALE"), (18, u "LOG2_ARRAY_FLOAT_INDEX_SCALE"), (24, u "LOG2_ARRAY_DOUBLE_INDEX_SCALE"), (89, u "T_BOOLEAN"), (2, u "T_CHAR"), (1, u "T_FLOAT"), (1, u "T_DOUBLE"), (1, u "T_BYTE"), (1, u "T_SHORT"), (1, u "T_INT"), (1, u "T_LONG"), (1, u "SOFT_MAX_ARRAY_LENGTH")] 83

def k20m0 : Method := { name := "<init>", desc := "()V", sig := { parameters := [], returnType := none }, accessFlags := 2, code := none }
/-- jdk/internal/util/ArraysSupport -/
def k20 : Class := { plain "jdk/internal/util/ArraysSupport" (some 0) with
  accessFlags := 33
  interfaces := #[]
  cf := some (fileOf pool20 21 #[] #[{ accessFlags := 2, nameIndex := 9, descriptorIndex := 19, attributes := #[] }] 33 16 #[] #[{ accessFlags := 24, nameIndex := 28, descriptorIndex := 29, attributes := #[] }, { accessFlags := 26, nameIndex := 38, descriptorIndex := 39, attributes := #[] }, { accessFlags := 25, nameIndex := 121, descriptorIndex := 25, attributes := #[] }, { accessFlags := 25, nameIndex := 131, descriptorIndex := 25, attributes := #[] }, { accessFlags := 25, nameIndex := 137, descriptorIndex := 25, attributes := #[] }, { accessFlags := 25, nameIndex := 143, descriptorIndex := 25, attributes := #[] }, { accessFlags := 25, nameIndex := 53, descriptorIndex := 25, attributes := #[] }, { accessFlags := 25, nameIndex := 24, descriptorIndex := 25, attributes := #[] }, { accessFlags := 25, nameIndex := 162, descriptorIndex := 25, attributes := #[] }, { accessFlags := 25, nameIndex := 187, descriptorIndex := 25, attributes := #[] }, { accessFlags := 26, nameIndex := 48, descriptorIndex := 25, attributes := #[] }, { accessFlags := 25, nameIndex := 277, descriptorIndex := 25, attributes := #[] }, { accessFlags := 25, nameIndex := 280, descriptorIndex := 25, attributes := #[] }, { accessFlags := 25, nameIndex := 282, descriptorIndex := 25, attributes := #[] }, { accessFlags := 25, nameIndex := 284, descriptorIndex := 25, attributes := #[] }, { accessFlags := 25, nameIndex := 286, descriptorIndex := 25, attributes := #[] }, { accessFlags := 25, nameIndex := 288, descriptorIndex := 25, attributes := #[] }, { accessFlags := 25, nameIndex := 290, descriptorIndex := 25, attributes := #[] }, { accessFlags := 25, nameIndex := 292, descriptorIndex := 25, attributes := #[] }, { accessFlags := 26, nameIndex := 108, descriptorIndex := 109, attributes := #[] }, { accessFlags := 25, nameIndex := 294, descriptorIndex := 25, attributes := #[] }])
  fields := #[{ name := "U", type := (.object "jdk/internal/misc/Unsafe"), accessFlags := 24, slot := 0, constantValue := 0 }, { name := "BIG_ENDIAN", type := .boolean, accessFlags := 26, slot := 1, constantValue := 0 }, { name := "LOG2_ARRAY_BOOLEAN_INDEX_SCALE", type := .int, accessFlags := 25, slot := 2, constantValue := 0 }, { name := "LOG2_ARRAY_BYTE_INDEX_SCALE", type := .int, accessFlags := 25, slot := 3, constantValue := 0 }, { name := "LOG2_ARRAY_CHAR_INDEX_SCALE", type := .int, accessFlags := 25, slot := 4, constantValue := 0 }, { name := "LOG2_ARRAY_SHORT_INDEX_SCALE", type := .int, accessFlags := 25, slot := 5, constantValue := 0 }, { name := "LOG2_ARRAY_INT_INDEX_SCALE", type := .int, accessFlags := 25, slot := 6, constantValue := 0 }, { name := "LOG2_ARRAY_LONG_INDEX_SCALE", type := .int, accessFlags := 25, slot := 7, constantValue := 0 }, { name := "LOG2_ARRAY_FLOAT_INDEX_SCALE", type := .int, accessFlags := 25, slot := 8, constantValue := 0 }, { name := "LOG2_ARRAY_DOUBLE_INDEX_SCALE", type := .int, accessFlags := 25, slot := 9, constantValue := 0 }, { name := "LOG2_BYTE_BIT_SIZE", type := .int, accessFlags := 26, slot := 10, constantValue := 0 }, { name := "T_BOOLEAN", type := .int, accessFlags := 25, slot := 11, constantValue := 0 }, { name := "T_CHAR", type := .int, accessFlags := 25, slot := 12, constantValue := 0 }, { name := "T_FLOAT", type := .int, accessFlags := 25, slot := 13, constantValue := 0 }, { name := "T_DOUBLE", type := .int, accessFlags := 25, slot := 14, constantValue := 0 }, { name := "T_BYTE", type := .int, accessFlags := 25, slot := 15, constantValue := 0 }, { name := "T_SHORT", type := .int, accessFlags := 25, slot := 16, constantValue := 0 }, { name := "T_INT", type := .int, accessFlags := 25, slot := 17, constantValue := 0 }, { name := "T_LONG", type := .int, accessFlags := 25, slot := 18, constantValue := 0 }, { name := "JLA", type := (.object "jdk/internal/access/JavaLangAccess"), accessFlags := 26, slot := 19, constantValue := 0 }, { name := "SOFT_MAX_ARRAY_LENGTH", type := .int, accessFlags := 25, slot := 20, constantValue := 0 }]
  methods := #[k20m0]
  instanceTypes := #[]
  staticTypes := #[(.object "jdk/internal/misc/Unsafe"), .boolean, .int, .int, .int, .int, .int, .int, .int, .int, .int, .int, .int, .int, .int, .int, .int, .int, .int, (.object "jdk/internal/access/JavaLangAccess"), .int]
  resolved := Array.replicate 378 none
  statics := none }

def pool21 : Array CpInfo := pool [(2, .class_ 4), (1, u "java/util/AbstractCollection"), (0, u "<init>"), (0, u "()V"), (1, .class_ 10), (1, u "java/util/ImmutableCollections"), (2, .class_ 14), (0, u "java/util/ImmutableCollections$AbstractImmutableCollection")] 41

def k21m0 : Method := { name := "<init>", desc := "()V", sig := { parameters := [], returnType := none }, accessFlags := 0, code := none }
/-- java/util/ImmutableCollections$AbstractImmutableCollection -/
def k21 : Class := { plain "java/util/ImmutableCollections$AbstractImmutableCollection" (some 11) with
  accessFlags := 1056
  interfaces := #[]
  cf := some (fileOf pool21 13 #[.nestHost 8] #[{ accessFlags := 0, nameIndex := 5, descriptorIndex := 6, attributes := #[] }] 1056 2 #[] #[])
  fields := #[]
  methods := #[k21m0]
  instanceTypes := #[]
  staticTypes := #[]
  resolved := Array.replicate 56 none
  statics := none }

def pool22 : Array CpInfo := pool [(2, .class_ 4), (1, u "java/util/ImmutableCollections$AbstractImmutableCollection"), (0, u "<init>"), (0, u "()V"), (1, .class_ 10), (1, u "java/util/ImmutableCollections"), (3, .class_ 16), (1, u "java/util/ImmutableCollections$AbstractImmutableList"), (60, .class_ 78), (0, u "java/util/List"), (45, .class_ 125), (0, u "java/util/RandomAccess")] 70

def k22m0 : Method := { name := "<init>", desc := "()V", sig := { parameters := [], returnType := none }, accessFlags := 0, code := none }
/-- java/util/ImmutableCollections$AbstractImmutableList -/
def k22 : Class := { plain "java/util/ImmutableCollections$AbstractImmutableList" (some 21) with
  accessFlags := 1056
  interfaces := #[13, 15]
  cf := some (fileOf pool22 14 #[.nestHost 8] #[{ accessFlags := 0, nameIndex := 5, descriptorIndex := 6, attributes := #[] }] 1056 2 #[77, 124] #[])
  fields := #[]
  methods := #[k22m0]
  instanceTypes := #[]
  staticTypes := #[]
  resolved := Array.replicate 196 none
  statics := none }

def pool23 : Array CpInfo := pool [(2, .class_ 4), (1, u "java/util/ImmutableCollections$AbstractImmutableList"), (3, .class_ 10), (1, u "java/util/ImmutableCollections$ListN"), (0, u "elements"), (0, u "[Ljava/lang/Object;"), (2, u "allowNulls"), (0, u "Z"), (42, .class_ 60), (0, u "java/io/Serializable"), (53, .class_ 115), (0, u "java/util/ImmutableCollections")] 3

/-- java/util/ImmutableCollections$ListN -/
def k23 : Class := { plain "java/util/ImmutableCollections$ListN" (some 22) with
  accessFlags := 48
  interfaces := #[3]
  cf := some (fileOf pool23 8 #[.nestHost 114] #[] 48 2 #[59] #[{ accessFlags := 18, nameIndex := 11, descriptorIndex := 12, attributes := #[] }, { accessFlags := 18, nameIndex := 15, descriptorIndex := 16, attributes := #[] }])
  fields := #[{ name := "elements", type := (.array (.object "java/lang/Object")), accessFlags := 18, slot := 0, constantValue := 0 }, { name := "allowNulls", type := .boolean, accessFlags := 18, slot := 1, constantValue := 0 }]
  methods := #[]
  instanceTypes := #[(.array (.object "java/lang/Object")), .boolean]
  staticTypes := #[]
  resolved := Array.replicate 119 none
  statics := none }

/-- the primitive byte -/
def k24 : Class := { plain "byte" none with kind := .primitive 'B', accessFlags := 0x411 }
/-- [B -/
def k25 : Class := { plain "[B" (some 0) with kind := .array 24 .byte, interfaces := #[16, 3], accessFlags := 1041 }

/-- the primitive int -/
def k26 : Class := { plain "int" none with kind := .primitive 'I', accessFlags := 0x411 }
/-- [I -/
def k27 : Class := { plain "[I" (some 0) with kind := .array 26 .int, interfaces := #[16, 3], accessFlags := 1041 }

/-- [Ljava/lang/Object; -/
def k28 : Class := { plain "[Ljava/lang/Object;" (some 0) with kind := .array 0 (.object "java/lang/Object"), interfaces := #[16, 3], accessFlags := 1041 }

/-- [Ljava/lang/String; -/
def k29 : Class := { plain "[Ljava/lang/String;" (some 0) with kind := .array 8 (.object "java/lang/String"), interfaces := #[16, 3], accessFlags := 1041 }

def heap : Heap := #[{ cls := 2, slots := #[.ref 5, .ref 6, .int 0, .int 0, .int 0, .int 0, .int 0, .int 0, .int 0], vm := .statics 2 },
  { cls := 8, slots := #[.long 0, .int 1, .null, .int 0, .null, .int 0, .int 0], vm := .statics 8 },
  { cls := 17, slots := #[.long 0, .int 0, .ref 7, .ref 8], vm := .statics 17 },
  { cls := 19, slots := #[.null, .null, .null], vm := .statics 19 },
  { cls := 28, slots := #[], vm := .none },
  { cls := 23, slots := #[.ref 4, .int 0], vm := .none },
  { cls := 29, slots := #[], vm := .none },
  { cls := 28, slots := #[], vm := .none },
  { cls := 28, slots := #[], vm := .none }]
def classes : Array Class := #[k0, k1, k2, k3, k4, k5, k6, k7, k8, k9, k10, k11, k12, k13, k14, k15, k16, k17, k18, k19, k20, k21, k22, k23, k24, k25, k26, k27, k28, k29]
def interned : List (Array UInt16 × Addr) := []
def slotsUsed : Nat := 25
def theMethod : MethodId := ⟨1, 1⟩
def args0 : Array Value := #[.int 6, .int 5, .int 7, .int 8, .int 9]
def aboutOver (below : List Frame) : State where
  vm := { classes := classes, interned := interned.toArray }
  heap := heap
  slotsUsed := slotsUsed
  threads := #[{ frames := .invoking theMethod args0 :: below }]
def below0 : List Frame := [.native { method := ⟨0, 0⟩, args := #[] }]
def about1 : State := aboutOver below0
def p0 : Program := .bare "" "" ""
def e0 : Env := launch0.env 0 0 0
theorem w_frames : about1.frames = Frame.invoking theMethod args0 :: below0 := rfl
set_option maxRecDepth 65536 in
theorem w_args : argsFit about1.vm theMethod args0 = true := by decide +kernel
set_option maxRecDepth 65536 in
theorem w_heap : heapFits about1 = true := by decide +kernel
set_option maxRecDepth 65536 in
theorem w_runnable : about1.curStatus? = some .runnable := by decide +kernel
set_option maxRecDepth 65536 in
theorem w_alone : about1.alone = true := by decide +kernel
set_option maxRecDepth 65536 in
theorem w_named : about1.methodNamed? x = some theMethod := by decide +kernel
set_option maxRecDepth 65536 in
theorem w_hears : about1.hears theMethod below0 = true := by decide +kernel
set_option maxRecDepth 65536 in
theorem w_ripe : about1.ripe theMethod args0 below0 = true := by decide +kernel
theorem w_running : about1.status = .running := rfl
set_option maxRecDepth 65536 in
theorem w_room : about1.hasRoom e0.platform room_1 = true :=
  launch0.hasRoom_least _ room_1 (by decide +kernel) (by decide +kernel) (by decide +kernel) (by decide +kernel) (by decide +kernel) (by decide +kernel)
theorem allAtoms_all (ts : List Jvm.Cond) (a : Array Jvm.Value) (st : Jvm.State) : (allAtoms ts).before a st = ts.all (fun c => c.before a st) := by
  induction ts with
  | nil => rfl
  | cons c t ih =>
    show (Jvm.Cond.and c (allAtoms t)).before a st = _
    rw [Jvm.Cond.before_and, ih, List.all_cons]
def words1 : List Jvm.Cond := Jvm.Cond.code x code maxLocals ret :: tables_1
/-- a 'code' word, met by the world's own term for the bytes: nothing is compared byte by byte -/
theorem code_word {y : MethodName} {bytes : ByteArray} {mx : Nat} {rt : Option FieldType} {a : Array Value} {s : State} {m : MethodId} {meth : Method} {c : Code} (h1 : s.methodNamed? y = some m) (h2 : s.vm.method? m = some meth) (h3 : meth.code = some c) (h4 : c.code = bytes)
    (h5 : (c.maxLocals == mx && c.exceptionTable.isEmpty && decide (c.maxStack ≤ mostOperands) && decide (meth.sig.returnType = rt) && !meth.locks && decide (parseMethodDescriptor y.desc = some meth.sig)) = true) : (Jvm.Cond.code y bytes mx rt).before a s = true := by
  simp only [Bool.and_eq_true, beq_iff_eq, Bool.not_eq_true', decide_eq_true_eq] at h5
  obtain ⟨⟨⟨⟨⟨g1, g2⟩, g3⟩, g4⟩, g5⟩, g6⟩ := h5
  simp [Cond.before, Cond.holds, Cond.value, h1, h2, h3, h4, g1, g2, g3, g4, g5, g6]
def isCode : Jvm.Cond → Bool
  | .code _ _ _ _ => true
  | _ => false
theorem all_split {L : List Jvm.Cond} {P : Jvm.Cond → Bool} (h1 : L.all (fun c => isCode c || P c) = true) (h2 : ∀ c ∈ L.filter isCode, P c = true) : L.all P = true := by
  refine List.all_eq_true.mpr fun c hc => ?_
  have h := List.all_eq_true.mp h1 c hc
  rcases Bool.eq_false_or_eq_true (isCode c) with hi | hi
  · exact h2 c (List.mem_filter.mpr ⟨hc, hi⟩)
  · simpa [hi] using h
set_option maxRecDepth 65536 in
theorem w_c0 : (Jvm.Cond.code x code maxLocals ret).before args0 about1 = true := code_word (m := ⟨1, 1⟩) (meth := k1m1) (c := k1c1) (by decide +kernel) rfl rfl rfl (by decide +kernel)
set_option maxRecDepth 65536 in
theorem w_c1 : (Jvm.Cond.code ({ cls := "com/example/tagwright/tagwright/XmlElement", name := "newAttributes", desc := "(IZ)[Ljava/lang/String;" } : Jvm.MethodName) prog_100_method_3_code (2 : Nat) (Option.some (Jvm.ClassFile.FieldType.array (Jvm.ClassFile.FieldType.object "java/lang/String")))).before args0 about1 = true := code_word (m := ⟨2, 1⟩) (meth := k2m1) (c := k2c1) (by decide +kernel) rfl rfl rfl (by decide +kernel)
set_option maxRecDepth 65536 in
theorem w_c2 : (Jvm.Cond.code ({ cls := "java/util/ArrayList", name := "<init>", desc := "()V" } : Jvm.MethodName) jdk_38_method_2_code (1 : Nat) (Option.none : Option Jvm.ClassFile.FieldType)).before args0 about1 = true := code_word (m := ⟨17, 0⟩) (meth := k17m0) (c := k17c0) (by decide +kernel) rfl rfl rfl (by decide +kernel)
set_option maxRecDepth 65536 in
theorem w_c3 : (Jvm.Cond.code ({ cls := "java/util/AbstractList", name := "<init>", desc := "()V" } : Jvm.MethodName) jdk_39_method_1_code (1 : Nat) (Option.none : Option Jvm.ClassFile.FieldType)).before args0 about1 = true := code_word (m := ⟨14, 0⟩) (meth := k14m0) (c := k14c0) (by decide +kernel) rfl rfl rfl (by decide +kernel)
set_option maxRecDepth 65536 in
theorem w_c4 : (Jvm.Cond.code ({ cls := "java/util/AbstractCollection", name := "<init>", desc := "()V" } : Jvm.MethodName) jdk_22_method_1_code (1 : Nat) (Option.none : Option Jvm.ClassFile.FieldType)).before args0 about1 = true := code_word (m := ⟨11, 0⟩) (meth := k11m0) (c := k11c0) (by decide +kernel) rfl rfl rfl (by decide +kernel)
set_option maxRecDepth 65536 in
theorem w_c5 : (Jvm.Cond.code ({ cls := "java/lang/Object", name := "<init>", desc := "()V" } : Jvm.MethodName) object_method_1_code (1 : Nat) (Option.none : Option Jvm.ClassFile.FieldType)).before args0 about1 = true := code_word (m := ⟨0, 0⟩) (meth := k0m0) (c := k0c0) (by decide +kernel) rfl rfl rfl (by decide +kernel)
set_option maxRecDepth 65536 in
theorem w_c6 : (Jvm.Cond.code ({ cls := "com/example/tagwright/tagwright/XmlElement", name := "<init>", desc := "(Ljava/lang/String;Ljava/lang/String;Ljava/lang/String;Ljava/util/List;[Ljava/lang/String;Lcom/example/tagwright/tagwright/Location;Lcom/example/tagwright/tagwright/XmlElement;)V" } : Jvm.MethodName) prog_100_method_1_code (8 : Nat) (Option.none : Option Jvm.ClassFile.FieldType)).before args0 about1 = true := code_word (m := ⟨2, 0⟩) (meth := k2m0) (c := k2c0) (by decide +kernel) rfl rfl rfl (by decide +kernel)
set_option maxRecDepth 65536 in
theorem w_c7 : (Jvm.Cond.code ({ cls := "com/example/tagwright/tagwright/XmlElement", name := "isNamespaced", desc := "([Ljava/lang/String;)Z" } : Jvm.MethodName) prog_100_method_5_code (1 : Nat) (Option.some Jvm.ClassFile.FieldType.boolean)).before args0 about1 = true := code_word (m := ⟨2, 3⟩) (meth := k2m3) (c := k2c3) (by decide +kernel) rfl rfl rfl (by decide +kernel)
set_option maxRecDepth 65536 in
theorem w_c8 : (Jvm.Cond.code ({ cls := "com/example/tagwright/tagwright/XmlElement", name := "attributeCount", desc := "()I" } : Jvm.MethodName) prog_100_method_15_code (1 : Nat) (Option.some Jvm.ClassFile.FieldType.int)).before args0 about1 = true := code_word (m := ⟨2, 4⟩) (meth := k2m4) (c := k2c4) (by decide +kernel) rfl rfl rfl (by decide +kernel)
set_option maxRecDepth 65536 in
theorem w_c9 : (Jvm.Cond.code ({ cls := "com/example/tagwright/tagwright/XmlElementNewAttributesPinLaw", name := "put", desc := "([Ljava/lang/String;IZIIII)V" } : Jvm.MethodName) method_4_code (11 : Nat) (Option.none : Option Jvm.ClassFile.FieldType)).before args0 about1 = true := code_word (m := ⟨1, 3⟩) (meth := k1m3) (c := k1c3) (by decide +kernel) rfl rfl rfl (by decide +kernel)
set_option maxRecDepth 65536 in
theorem w_c10 : (Jvm.Cond.code ({ cls := "com/example/tagwright/tagwright/XmlElementNewAttributesPinLaw", name := "str", desc := "(II)Ljava/lang/String;" } : Jvm.MethodName) method_3_code (2 : Nat) (Option.some (Jvm.ClassFile.FieldType.object "java/lang/String"))).before args0 about1 = true := code_word (m := ⟨1, 2⟩) (meth := k1m2) (c := k1c2) (by decide +kernel) rfl rfl rfl (by decide +kernel)
set_option maxRecDepth 65536 in
theorem w_c11 : (Jvm.Cond.code ({ cls := "java/lang/String", name := "valueOf", desc := "(C)Ljava/lang/String;" } : Jvm.MethodName) jdk_42_method_139_code (1 : Nat) (Option.some (Jvm.ClassFile.FieldType.object "java/lang/String"))).before args0 about1 = true := code_word (m := ⟨8, 2⟩) (meth := k8m2) (c := k8c2) (by decide +kernel) rfl rfl rfl (by decide +kernel)
set_option maxRecDepth 65536 in
theorem w_c12 : (Jvm.Cond.code ({ cls := "java/lang/StringLatin1", name := "canEncode", desc := "(C)Z" } : Jvm.MethodName) jdk_43_method_3_code (1 : Nat) (Option.some Jvm.ClassFile.FieldType.boolean)).before args0 about1 = true := code_word (m := ⟨18, 1⟩) (meth := k18m1) (c := k18c1) (by decide +kernel) rfl rfl rfl (by decide +kernel)
set_option maxRecDepth 65536 in
theorem w_c13 : (Jvm.Cond.code ({ cls := "java/lang/StringLatin1", name := "toBytes", desc := "(C)[B" } : Jvm.MethodName) jdk_43_method_46_code (1 : Nat) (Option.some (Jvm.ClassFile.FieldType.array Jvm.ClassFile.FieldType.byte))).before args0 about1 = true := code_word (m := ⟨18, 3⟩) (meth := k18m3) (c := k18c3) (by decide +kernel) rfl rfl rfl (by decide +kernel)
set_option maxRecDepth 65536 in
theorem w_c14 : (Jvm.Cond.code ({ cls := "java/lang/String", name := "<init>", desc := "([BB)V" } : Jvm.MethodName) jdk_42_method_151_code (3 : Nat) (Option.none : Option Jvm.ClassFile.FieldType)).before args0 about1 = true := code_word (m := ⟨8, 3⟩) (meth := k8m3) (c := k8c3) (by decide +kernel) rfl rfl rfl (by decide +kernel)
set_option maxRecDepth 65536 in
theorem w_c15 : (Jvm.Cond.code ({ cls := "com/example/tagwright/tagwright/XmlElement", name := "putAttribute", desc := "([Ljava/lang/String;ILjava/lang/String;Ljava/lang/String;Ljava/lang/String;Ljava/lang/String;)V" } : Jvm.MethodName) prog_100_method_4_code (7 : Nat) (Option.none : Option Jvm.ClassFile.FieldType)).before args0 about1 = true := code_word (m := ⟨2, 2⟩) (meth := k2m2) (c := k2c2) (by decide +kernel) rfl rfl rfl (by decide +kernel)
set_option maxRecDepth 65536 in
theorem w_c16 : (Jvm.Cond.code ({ cls := "java/lang/String", name := "equals", desc := "(Ljava/lang/Object;)Z" } : Jvm.MethodName) jdk_42_method_66_code (3 : Nat) (Option.some Jvm.ClassFile.FieldType.boolean)).before args0 about1 = true := code_word (m := ⟨8, 1⟩) (meth := k8m1) (c := k8c1) (by decide +kernel) rfl rfl rfl (by decide +kernel)
set_option maxRecDepth 65536 in
theorem w_c17 : (Jvm.Cond.code ({ cls := "com/example/tagwright/tagwright/XmlElementNewAttributesPinLaw", name := "check", desc := "(Lcom/example/tagwright/tagwright/XmlElement;IZIIII)Z" } : Jvm.MethodName) method_5_code (9 : Nat) (Option.some Jvm.ClassFile.FieldType.boolean)).before args0 about1 = true := code_word (m := ⟨1, 4⟩) (meth := k1m4) (c := k1c4) (by decide +kernel) rfl rfl rfl (by decide +kernel)
set_option maxRecDepth 65536 in
theorem w_c18 : (Jvm.Cond.code ({ cls := "com/example/tagwright/tagwright/XmlElement", name := "attributeName", desc := "(I)Ljava/lang/String;" } : Jvm.MethodName) prog_100_method_18_code (2 : Nat) (Option.some (Jvm.ClassFile.FieldType.object "java/lang/String"))).before args0 about1 = true := code_word (m := ⟨2, 7⟩) (meth := k2m7) (c := k2c7) (by decide +kernel) rfl rfl rfl (by decide +kernel)
set_option maxRecDepth 65536 in
theorem w_c19 : (Jvm.Cond.code ({ cls := "java/lang/StringLatin1", name := "equals", desc := "([B[B)Z" } : Jvm.MethodName) jdk_43_method_13_code (3 : Nat) (Option.some Jvm.ClassFile.FieldType.boolean)).before args0 about1 = true := code_word (m := ⟨18, 2⟩) (meth := k18m2) (c := k18c2) (by decide +kernel) rfl rfl rfl (by decide +kernel)
set_option maxRecDepth 65536 in
theorem w_c20 : (Jvm.Cond.code ({ cls := "com/example/tagwright/tagwright/XmlElement", name := "attributeValue", desc := "(I)Ljava/lang/String;" } : Jvm.MethodName) prog_100_method_19_code (2 : Nat) (Option.some (Jvm.ClassFile.FieldType.object "java/lang/String"))).before args0 about1 = true := code_word (m := ⟨2, 8⟩) (meth := k2m8) (c := k2c8) (by decide +kernel) rfl rfl rfl (by decide +kernel)
set_option maxRecDepth 65536 in
theorem w_c21 : (Jvm.Cond.code ({ cls := "com/example/tagwright/tagwright/XmlElement", name := "attributeNamespace", desc := "(I)Ljava/lang/String;" } : Jvm.MethodName) prog_100_method_16_code (2 : Nat) (Option.some (Jvm.ClassFile.FieldType.object "java/lang/String"))).before args0 about1 = true := code_word (m := ⟨2, 5⟩) (meth := k2m5) (c := k2c5) (by decide +kernel) rfl rfl rfl (by decide +kernel)
set_option maxRecDepth 65536 in
theorem w_c22 : (Jvm.Cond.code ({ cls := "com/example/tagwright/tagwright/XmlElement", name := "attributeLocalName", desc := "(I)Ljava/lang/String;" } : Jvm.MethodName) prog_100_method_17_code (2 : Nat) (Option.some (Jvm.ClassFile.FieldType.object "java/lang/String"))).before args0 about1 = true := code_word (m := ⟨2, 6⟩) (meth := k2m6) (c := k2c6) (by decide +kernel) rfl rfl rfl (by decide +kernel)
def codes1 : List Jvm.Cond := [Jvm.Cond.code x code maxLocals ret, Jvm.Cond.code ({ cls := "com/example/tagwright/tagwright/XmlElement", name := "newAttributes", desc := "(IZ)[Ljava/lang/String;" } : Jvm.MethodName) prog_100_method_3_code (2 : Nat) (Option.some (Jvm.ClassFile.FieldType.array (Jvm.ClassFile.FieldType.object "java/lang/String"))), Jvm.Cond.code ({ cls := "java/util/ArrayList", name := "<init>", desc := "()V" } : Jvm.MethodName) jdk_38_method_2_code (1 : Nat) (Option.none : Option Jvm.ClassFile.FieldType), Jvm.Cond.code ({ cls := "java/util/AbstractList", name := "<init>", desc := "()V" } : Jvm.MethodName) jdk_39_method_1_code (1 : Nat) (Option.none : Option Jvm.ClassFile.FieldType), Jvm.Cond.code ({ cls := "java/util/AbstractCollection", name := "<init>", desc := "()V" } : Jvm.MethodName) jdk_22_method_1_code (1 : Nat) (Option.none : Option Jvm.ClassFile.FieldType), Jvm.Cond.code ({ cls := "java/lang/Object", name := "<init>", desc := "()V" } : Jvm.MethodName) object_method_1_code (1 : Nat) (Option.none : Option Jvm.ClassFile.FieldType), Jvm.Cond.code ({ cls := "com/example/tagwright/tagwright/XmlElement", name := "<init>", desc := "(Ljava/lang/String;Ljava/lang/String;Ljava/lang/String;Ljava/util/List;[Ljava/lang/String;Lcom/example/tagwright/tagwright/Location;Lcom/example/tagwright/tagwright/XmlElement;)V" } : Jvm.MethodName) prog_100_method_1_code (8 : Nat) (Option.none : Option Jvm.ClassFile.FieldType), Jvm.Cond.code ({ cls := "com/example/tagwright/tagwright/XmlElement", name := "isNamespaced", desc := "([Ljava/lang/String;)Z" } : Jvm.MethodName) prog_100_method_5_code (1 : Nat) (Option.some Jvm.ClassFile.FieldType.boolean), Jvm.Cond.code ({ cls := "com/example/tagwright/tagwright/XmlElement", name := "attributeCount", desc := "()I" } : Jvm.MethodName) prog_100_method_15_code (1 : Nat) (Option.some Jvm.ClassFile.FieldType.int), Jvm.Cond.code ({ cls := "com/example/tagwright/tagwright/XmlElementNewAttributesPinLaw", name := "put", desc := "([Ljava/lang/String;IZIIII)V" } : Jvm.MethodName) method_4_code (11 : Nat) (Option.none : Option Jvm.ClassFile.FieldType), Jvm.Cond.code ({ cls := "com/example/tagwright/tagwright/XmlElementNewAttributesPinLaw", name := "str", desc := "(II)Ljava/lang/String;" } : Jvm.MethodName) method_3_code (2 : Nat) (Option.some (Jvm.ClassFile.FieldType.object "java/lang/String")), Jvm.Cond.code ({ cls := "java/lang/String", name := "valueOf", desc := "(C)Ljava/lang/String;" } : Jvm.MethodName) jdk_42_method_139_code (1 : Nat) (Option.some (Jvm.ClassFile.FieldType.object "java/lang/String")), Jvm.Cond.code ({ cls := "java/lang/StringLatin1", name := "canEncode", desc := "(C)Z" } : Jvm.MethodName) jdk_43_method_3_code (1 : Nat) (Option.some Jvm.ClassFile.FieldType.boolean), Jvm.Cond.code ({ cls := "java/lang/StringLatin1", name := "toBytes", desc := "(C)[B" } : Jvm.MethodName) jdk_43_method_46_code (1 : Nat) (Option.some (Jvm.ClassFile.FieldType.array Jvm.ClassFile.FieldType.byte)), Jvm.Cond.code ({ cls := "java/lang/String", name := "<init>", desc := "([BB)V" } : Jvm.MethodName) jdk_42_method_151_code (3 : Nat) (Option.none : Option Jvm.ClassFile.FieldType), Jvm.Cond.code ({ cls := "com/example/tagwright/tagwright/XmlElement", name := "putAttribute", desc := "([Ljava/lang/String;ILjava/lang/String;Ljava/lang/String;Ljava/lang/String;Ljava/lang/String;)V" } : Jvm.MethodName) prog_100_method_4_code (7 : Nat) (Option.none : Option Jvm.ClassFile.FieldType), Jvm.Cond.code ({ cls := "java/lang/String", name := "equals", desc := "(Ljava/lang/Object;)Z" } : Jvm.MethodName) jdk_42_method_66_code (3 : Nat) (Option.some Jvm.ClassFile.FieldType.boolean), Jvm.Cond.code ({ cls := "com/example/tagwright/tagwright/XmlElementNewAttributesPinLaw", name := "check", desc := "(Lcom/example/tagwright/tagwright/XmlElement;IZIIII)Z" } : Jvm.MethodName) method_5_code (9 : Nat) (Option.some Jvm.ClassFile.FieldType.boolean), Jvm.Cond.code ({ cls := "com/example/tagwright/tagwright/XmlElement", name := "attributeName", desc := "(I)Ljava/lang/String;" } : Jvm.MethodName) prog_100_method_18_code (2 : Nat) (Option.some (Jvm.ClassFile.FieldType.object "java/lang/String")), Jvm.Cond.code ({ cls := "java/lang/StringLatin1", name := "equals", desc := "([B[B)Z" } : Jvm.MethodName) jdk_43_method_13_code (3 : Nat) (Option.some Jvm.ClassFile.FieldType.boolean), Jvm.Cond.code ({ cls := "com/example/tagwright/tagwright/XmlElement", name := "attributeValue", desc := "(I)Ljava/lang/String;" } : Jvm.MethodName) prog_100_method_19_code (2 : Nat) (Option.some (Jvm.ClassFile.FieldType.object "java/lang/String")), Jvm.Cond.code ({ cls := "com/example/tagwright/tagwright/XmlElement", name := "attributeNamespace", desc := "(I)Ljava/lang/String;" } : Jvm.MethodName) prog_100_method_16_code (2 : Nat) (Option.some (Jvm.ClassFile.FieldType.object "java/lang/String")), Jvm.Cond.code ({ cls := "com/example/tagwright/tagwright/XmlElement", name := "attributeLocalName", desc := "(I)Ljava/lang/String;" } : Jvm.MethodName) prog_100_method_17_code (2 : Nat) (Option.some (Jvm.ClassFile.FieldType.object "java/lang/String"))]
set_option maxRecDepth 65536 in
theorem codes_eq : words1.filter isCode = codes1 := rfl
theorem w_codes : ∀ c ∈ words1.filter isCode, c.before args0 about1 = true := by
  rw [codes_eq]
  intro c hc
  simp only [codes1, List.mem_cons, List.not_mem_nil, or_false] at hc
  rcases hc with rfl | rfl | rfl | rfl | rfl | rfl | rfl | rfl | rfl | rfl | rfl | rfl | rfl | rfl | rfl | rfl | rfl | rfl | rfl | rfl | rfl | rfl | rfl
  · exact w_c0
  · exact w_c1
  · exact w_c2
  · exact w_c3
  · exact w_c4
  · exact w_c5
  · exact w_c6
  · exact w_c7
  · exact w_c8
  · exact w_c9
  · exact w_c10
  · exact w_c11
  · exact w_c12
  · exact w_c13
  · exact w_c14
  · exact w_c15
  · exact w_c16
  · exact w_c17
  · exact w_c18
  · exact w_c19
  · exact w_c20
  · exact w_c21
  · exact w_c22
set_option maxRecDepth 65536 in
theorem w_t1 : (words1.take 24).all (fun c => isCode c || c.before args0 about1) = true := by decide +kernel
set_option maxRecDepth 65536 in
theorem w_t2 : ((words1.drop 24).take 24).all (fun c => isCode c || c.before args0 about1) = true := by decide +kernel
set_option maxRecDepth 65536 in
theorem w_t3 : (((words1.drop 24).drop 24).take 24).all (fun c => isCode c || c.before args0 about1) = true := by decide +kernel
set_option maxRecDepth 65536 in
theorem w_t4 : ((((words1.drop 24).drop 24).drop 24).take 24).all (fun c => isCode c || c.before args0 about1) = true := by decide +kernel
set_option maxRecDepth 65536 in
theorem w_t5 : (((((words1.drop 24).drop 24).drop 24).drop 24).take 24).all (fun c => isCode c || c.before args0 about1) = true := by decide +kernel
set_option maxRecDepth 65536 in
theorem w_t6 : (((((words1.drop 24).drop 24).drop 24).drop 24).drop 24).all (fun c => isCode c || c.before args0 about1) = true := by decide +kernel
theorem w_tables : (allAtoms (Jvm.Cond.code x code maxLocals ret :: tables_1)).before args0 about1 = true := by
  rw [allAtoms_all]
  show words1.all (fun c => c.before args0 about1) = true
  refine all_split ?_ w_codes
  rw [← List.take_append_drop 24 words1, List.all_append, w_t1, ← List.take_append_drop 24 (words1.drop 24), List.all_append, w_t2, ← List.take_append_drop 24 ((words1.drop 24).drop 24), List.all_append, w_t3, ← List.take_append_drop 24 (((words1.drop 24).drop 24).drop 24), List.all_append, w_t4, ← List.take_append_drop 24 ((((words1.drop 24).drop 24).drop 24).drop 24), List.all_append, w_t5, w_t6]
  rfl
set_option maxRecDepth 65536 in
theorem w_rest : rest_1_c.before args0 about1 = true := by decide +kernel
set_option maxRecDepth 65536 in
theorem w_case : (Jvm.Cond.and given_1 narrow_1).before args0 about1 = true := by decide +kernel
theorem w_applies : (headSpec (Jvm.Cond.code x code maxLocals ret :: tables_1) room_1).applies x e0.platform about1 = true :=
  (Spec.applies_iff w_frames).mpr ⟨w_running, w_runnable, w_alone, w_named, w_hears, w_ripe, w_room, w_tables⟩
theorem atStart : AtStart classFile x code maxLocals ret World_1 tables_1 room_1 Calls_1 rest_1 Pre_1 launch0 p0 e0 about1 theMethod args0 below0 :=
  ⟨lists_1, trivial, launch0.admits_env _ _ _, launch0.least_env, fairChoices_fair.cas, fairChoices_fair.clock, w_frames, w_args, w_heap, w_applies, trivial, w_rest, w_case⟩
end start1
theorem witness_1 : WitnessClaimed_1 := ⟨start1.p0, start1.e0, start1.about1, start1.theMethod, start1.args0, start1.below0, start1.atStart⟩
end Jvm.Pilot.@@N@@
