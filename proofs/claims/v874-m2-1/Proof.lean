import JvmDerived
import JvmDerived.Pilot.@@N@@Statement
import JvmDerived.Pilot.@@N@@Code
set_option linter.unusedVariables false
set_option linter.unusedSimpArgs false
@@BLOCK:Masks.lean.txt@@
namespace Jvm.Pilot.@@N@@
open Jvm Jvm.ClassFile Sem Op Lib Jvm.Free Jvm.Stand Jvm.LawKit Jvm.RoadKit Bundle Jvm.Pilot.@@N@@.Jvm.D
section Own
variable {p : Program} {l : Launch} {e : Env} {R : Room} {s : State} {m : MethodId} {args : Array Value} {below : List Frame} {meth : Method} {c : Code} {T : State} {locs : List Loc} {cells slots : Nat} {Z : State} {a0 : Array Value} {h : Heap}
def own_Go (p : Program) (e : Env) (below : List Frame) (Q : Outcome → State → Prop) (T : State) (g : JFrame) : Prop := ∃ s₂ o, Steps p.tables e below (T.setTop g) s₂ ∧ s₂.status = .running ∧ Ended s₂ below o ∧ Q o s₂
theorem own_st {Q : Outcome → State → Prop} {T T' : State} {g g' : JFrame} (h : ∀ t, Steps p.tables e below (T'.setTop g') t → Steps p.tables e below (T.setTop g) t) (k : own_Go p e below Q T' g') : own_Go p e below Q T g := by
  obtain ⟨s₂, o, h1, h2⟩ := k
  exact ⟨s₂, o, h _ h1, h2⟩
theorem own_s {Q : Outcome → State → Prop} {T : State} {g : JFrame} (T' : State) (g' : JFrame) (h : ∀ t, Steps p.tables e below (T'.setTop g') t → Steps p.tables e below (T.setTop g) t) (k : own_Go p e below Q T' g') : own_Go p e below Q T g := own_st h k
abbrev u_ : Slot := .unset
abbrev v_ : Slot := .second
theorem own_cast {Q : Outcome → State → Prop} {T : State} {g g' : JFrame} (q : g = g') (k : own_Go p e below Q T g') : own_Go p e below Q T g := q ▸ k
def own_Post (Qv : Option Value → Heap → List Loc → Prop) (kc ks : Nat) (U : State) (o : Outcome) (U' : State) : Prop := ∃ v L, o = .returned v ∧ Qv v U'.heap L ∧ FrameEnd U o U' L kc ks
def own_Met (l : Launch) (Z : State) (y : MethodName) (bytes : ByteArray) (maxL : Nat) (ret : Option FieldType) (ws : List Jvm.Cond) (rm : Room) (h0 : Heap) (as' : Array Value) (Qv : Option Value → Heap → List Loc → Prop) (kc ks : Nat) : Prop :=
  MetFree l y (head1 (Jvm.Cond.code y bytes maxL ret :: ws) rm) (fun a U => a = as' ∧ Z.Warmed39 U.vm ∧ U.heap = h0) (fun _ _ _ _ _ => True) (fun _ U o U' => own_Post Qv kc ks U o U')
theorem own_start {y : MethodName} {bytes : ByteArray} {maxL : Nat} {ret : Option FieldType} {ws : List Jvm.Cond} {rm : Room} {h0 : Heap} {as' : Array Value} {Qv : Option Value → Heap → List Loc → Prop} {kc ks : Nat} (hpl : plainFor y = true)
    (body : ∀ (p : Program) (e : Env) (s : State) (m : MethodId) (below : List Frame) (meth : Method) (c : Code) (s₁ : State), Stand p l e rm s m as' below meth c s₁ [] 0 0 → p.tables.exec = Jvm.exec → Z.Warmed39 s.vm → c.code = bytes → c.maxLocals = maxL → meth.sig.returnType = ret → meth.locks = false → s.vm.findClass y.cls = some m.cls → meth.name = y.name → s₁.heap = h0 → own_Go p e below (own_Post Qv kc ks s) s₁ (entryFrame m as' maxL)) :
    own_Met l Z y bytes maxL ret ws rm h0 as' Qv kc ks := by
  refine MetFree.of_bodySF hpl hisR ?_
  intro p e s m args below meth c s₁ Bd hml0 hP hK
  obtain ⟨rfl, hZ, hh⟩ := hP
  exact body p e s m below meth c s₁ (Stand.of_body Bd) Bd.exec hZ Bd.bytes hml0 Bd.returns Bd.notSynchronized (findClass_of_methodNamed Bd.named) (name_of_methodNamed Bd.named Bd.method).1 (by rw [← hh, Bd.state]; rfl)
def own_PostW (Qv : Option Value → Heap → Vm → List Loc → Prop) (kc ks : Nat) (U : State) (o : Outcome) (U' : State) : Prop := ∃ v L, o = .returned v ∧ Qv v U'.heap U'.vm L ∧ ReturnedEndW U o U' L kc ks
def own_MetW (l : Launch) (Z : State) (y : MethodName) (bytes : ByteArray) (maxL : Nat) (ret : Option FieldType) (ws : List Jvm.Cond) (rm : Room) (h0 : Heap) (J : Vm → Prop) (as' : Array Value) (Qv : Option Value → Heap → Vm → List Loc → Prop) (kc ks : Nat) : Prop :=
  MetFree l y (head1 (Jvm.Cond.code y bytes maxL ret :: ws) rm) (fun a U => a = as' ∧ Z.Warmed39 U.vm ∧ U.heap = h0 ∧ J U.vm) (fun _ _ _ _ _ => True) (fun _ U o U' => own_PostW Qv kc ks U o U')
theorem own_startW {y : MethodName} {bytes : ByteArray} {maxL : Nat} {ret : Option FieldType} {ws : List Jvm.Cond} {rm : Room} {h0 : Heap} {J : Vm → Prop} {as' : Array Value} {Qv : Option Value → Heap → Vm → List Loc → Prop} {kc ks : Nat} (hpl : plainFor y = true)
    (body : ∀ (p : Program) (e : Env) (s : State) (m : MethodId) (below : List Frame) (meth : Method) (c : Code) (s₁ : State), Stand p l e rm (s.setVm s.vm) m as' below meth c s₁ [] 0 0 → p.tables.exec = Jvm.exec → Z.Warmed39 s.vm → c.code = bytes → c.maxLocals = maxL → meth.sig.returnType = ret → meth.locks = false → s.vm.findClass y.cls = some m.cls → meth.name = y.name → s₁.heap = h0 → s.Since s.vm 0 → s.heap = h0 → J s.vm → own_Go p e below (own_PostW Qv kc ks s) s₁ (entryFrame m as' maxL)) :
    own_MetW l Z y bytes maxL ret ws rm h0 J as' Qv kc ks := by
  refine MetFree.of_bodySF hpl hisR ?_
  intro p e s m args below meth c s₁ Bd hml0 hP hK
  obtain ⟨rfl, hZ, hh, hJ⟩ := hP
  exact body p e s m below meth c s₁ (Stand.of_body Bd) Bd.exec hZ Bd.bytes hml0 Bd.returns Bd.notSynchronized (findClass_of_methodNamed Bd.named) (name_of_methodNamed Bd.named Bd.method).1 (by rw [← hh, Bd.state]; rfl) ((State.WarmedH.refl s).since 0) hh hJ
def own_End (e : Env) (below : List Frame) (m : MethodId) (T : State) (v : Option Value) (P : Outcome → State → Prop) : Prop := ∃ fs, (∀ (f : JFrame) (acts : List Action), f.method = m → f.locked = none → f.entered = [] → (doReturn e (T.setTop f) acts v).1 = T.setFrames fs) ∧ (T.setFrames fs).status = .running ∧ Ended (T.setFrames fs) below (.returned v) ∧ P (.returned v) (T.setFrames fs)
theorem own_end {Qv : Option Value → Heap → List Loc → Prop} {kc ks : Nat} (X : Stand p l e R s m args below meth c T locs cells slots) {v : Option Value} (hv : meth.sig.returnType = none → v = none) (hlocks : meth.locks = false) (hc : cells ≤ kc) (hs : slots ≤ ks) (eT : T.heap = h) (q : Qv v h locs) : own_End e below m T v (own_Post Qv kc ks s) := by
  obtain ⟨fs, hr, hrun, hended, hW, hsame⟩ := X.leave hv hlocks
  exact ⟨fs, hr, hrun, hended, _, _, rfl, (by show Qv v T.heap locs; rw [eT]; exact q), ⟨_, rfl⟩, hW, hsame.mono hc hs⟩
theorem own_endW {Qv : Option Value → Heap → Vm → List Loc → Prop} {kc ks : Nat} {vm1 : Vm} (X : Stand p l e R (s.setVm vm1) m args below meth c T locs cells slots) {n : Nat} (hS : s.Since vm1 n) {v : Option Value} (hv : meth.sig.returnType = none → v = none) (hlocks : meth.locks = false) (hc : cells ≤ kc) (hs : slots ≤ ks) (eT : T.heap = h) (hk : n ≤ h.size) (q : ∀ vm', (s.setVm vm1).WarmedH vm' → Qv v h vm' locs) : own_End e below m T v (own_PostW Qv kc ks s) := by
  obtain ⟨fs, hr, hrun, hended, hE⟩ := X.leaveW hS (by rw [eT]; exact hk) hv hlocks
  exact ⟨fs, hr, hrun, hended, _, _, rfl, (by show Qv v T.heap T.vm locs; rw [eT]; exact q _ X.warmed), hE.1, hE.2.1, hE.2.2.1, hE.2.2.2.mono hc hs⟩
theorem own_fin {P : Outcome → State → Prop} {v : Option Value} {g : JFrame} (E : own_End e below m T v P) (st : ∀ fs, (∀ (f : JFrame) (acts : List Action), f.method = m → f.locked = none → f.entered = [] → (doReturn e (T.setTop f) acts v).1 = T.setFrames fs) → Steps p.tables e below (T.setTop g) (T.setFrames fs)) : own_Go p e below P T g := by
  obtain ⟨fs, hr, hrun, hended, q⟩ := E
  exact ⟨_, _, st fs hr, hrun, hended, q⟩
theorem own_some {t : FieldType} {v : Option Value} (hret : meth.sig.returnType = some t) : meth.sig.returnType = none → v = none := fun h => by rw [hret] at h; cases h
theorem own_finV {P : Outcome → State → Prop} (X : Stand p l e R s m args below meth c T locs cells slots) (hx : p.tables.exec = Jvm.exec) (hret : meth.sig.returnType = none) {pc : Nat} {Ls : Array Slot} (hd : decode c.code pc = .ok (.return_, 1)) (E : own_End e below m T none P) : own_Go p e below P T (mkF m pc Ls []) :=
  own_fin E (fun fs hr => X.returnOut hx hret hd hr)
theorem own_finX {P : Outcome → State → Prop} (X : Stand p l e R s m args below meth c T locs cells slots) (hx : p.tables.exec = Jvm.exec) {t : FieldType} (hret : meth.sig.returnType = some t) {pc : Nat} {Ls : Array Slot} {w : Value} {i : Instr} {rest : List Value} (hn : narrow t w = w)
    (hi : (i = .ireturn ∧ (t = .int ∨ t = .boolean ∨ t = .byte ∨ t = .char ∨ t = .short) ∧ ∃ z, w = .int z) ∨ (i = .lreturn ∧ t = .long ∧ ∃ z, w = .long z) ∨ (i = .dreturn ∧ t = .double ∧ ∃ z, w = .double z) ∨ (i = .freturn ∧ t = .float ∧ ∃ z, w = .float z) ∨ (i = .areturn ∧ t.isReference = true ∧ w.isRef = true))
    (hd : decode c.code pc = .ok (i, 1)) (E : own_End e below m T (some w) P) : own_Go p e below P T (mkF m pc Ls (w :: rest)) :=
  own_fin E (fun fs hr => retOut X hx hret hn hi hd hr)
theorem own_finI {P : Outcome → State → Prop} (X : Stand p l e R s m args below meth c T locs cells slots) (hx : p.tables.exec = Jvm.exec) (hret : meth.sig.returnType = some .int) {pc : Nat} {Ls : Array Slot} {z : Int32} {rest : List Value} (hd : decode c.code pc = .ok (.ireturn, 1)) (E : own_End e below m T (some (.int z)) P) : own_Go p e below P T (mkF m pc Ls (.int z :: rest)) :=
  own_finX X hx hret rfl (Or.inl ⟨rfl, Or.inl rfl, _, rfl⟩) hd E
theorem own_finL {P : Outcome → State → Prop} (X : Stand p l e R s m args below meth c T locs cells slots) (hx : p.tables.exec = Jvm.exec) (hret : meth.sig.returnType = some .long) {pc : Nat} {Ls : Array Slot} {z : Int64} {rest : List Value} (hd : decode c.code pc = .ok (.lreturn, 1)) (E : own_End e below m T (some (.long z)) P) : own_Go p e below P T (mkF m pc Ls (.long z :: rest)) :=
  own_finX X hx hret rfl (Or.inr (Or.inl ⟨rfl, rfl, _, rfl⟩)) hd E
theorem own_finD {P : Outcome → State → Prop} (X : Stand p l e R s m args below meth c T locs cells slots) (hx : p.tables.exec = Jvm.exec) (hret : meth.sig.returnType = some .double) {pc : Nat} {Ls : Array Slot} {z : UInt64} {rest : List Value} (hd : decode c.code pc = .ok (.dreturn, 1)) (E : own_End e below m T (some (.double z)) P) : own_Go p e below P T (mkF m pc Ls (.double z :: rest)) :=
  own_finX X hx hret rfl (Or.inr (Or.inr (Or.inl ⟨rfl, rfl, _, rfl⟩))) hd E
theorem own_finA {P : Outcome → State → Prop} (X : Stand p l e R s m args below meth c T locs cells slots) (hx : p.tables.exec = Jvm.exec) {t : FieldType} (hret : meth.sig.returnType = some t) (ht : t.isReference = true) {pc : Nat} {Ls : Array Slot} {w : Value} {rest : List Value} (hw : w.isRef = true) (hd : decode c.code pc = .ok (.areturn, 1)) (E : own_End e below m T (some w) P) : own_Go p e below P T (mkF m pc Ls (w :: rest)) :=
  own_finX X hx hret (by rcases ref_cases hw with rfl | ⟨z, rfl⟩ <;> cases t <;> first | rfl | cases ht) (Or.inr (Or.inr (Or.inr (Or.inr ⟨rfl, ht, hw⟩)))) hd E
theorem own_finZ {P : Outcome → State → Prop} (X : Stand p l e R s m args below meth c T locs cells slots) (hx : p.tables.exec = Jvm.exec) {t : FieldType} (hret : meth.sig.returnType = some t) (ht : t = .boolean ∨ t = .byte ∨ t = .char ∨ t = .short) {pc : Nat} {Ls : Array Slot} {z z' : Int32} {rest : List Value} (hz : nar t z = z') (hd : decode c.code pc = .ok (.ireturn, 1)) (E : own_End e below m T (some (.int z')) P) : own_Go p e below P T (mkF m pc Ls (.int z :: rest)) :=
  own_fin E (fun fs hr => by subst hz; exact retN X hx hret ht hd hr)
theorem own_callS (X : Stand p l e R s m args below meth c T locs cells slots) (hx : p.tables.exec = Jvm.exec) (hZ : Z.Warmed39 s.vm) {own : String} {index : Nat} {y : MethodName} {bytes : ByteArray} {maxL : Nat} {ret : Option FieldType} {rm : Room} {W : Nat} {Q : Option Value → Heap → List Loc → Prop} {argsL rest : List Value} {as' : Array Value}
    (hown : s.vm.findClass own = some m.cls) (w1 : (Cond.methodLink own index y).before a0 Z = true) (w2 : (Cond.static y).before a0 Z = true) (w3 : (Cond.initialized y.cls).before a0 Z = true) (w4 : (Cond.code y bytes maxL ret).before a0 Z = true) (hy : y.cls ≠ "java/lang/invoke/MethodHandle" ∧ y.cls ≠ "java/lang/invoke/VarHandle")
    (hM : own_Met l Z y bytes maxL ret [] rm h as' Q rm.cells rm.slots) (hf : rm.frames + 1 ≤ R.frames) (hl : W + (maxL + 11) + rm.locals ≤ R.locals) {g : JFrame} (hg : g.method = m) (hsz : g.locals.size = c.maxLocals) (has : argsL.toArray = as') (hlen : ∀ sig, parseMethodDescriptor y.desc = some sig → argsL.length = sig.parameters.length) (hstk : g.stack = argsL.reverse ++ rest) (hW : 2 * g.monitorRoom + (rest.map fun v => v.category).sum ≤ W)
    (hd : decode c.code g.pc = .ok (.invokestatic index, 3)) (eT : T.heap = h) (hc : cells + rm.cells ≤ R.cells) (hs : slots + rm.slots ≤ R.slots) :
    ∃ v T' L, Stand p l e R s m args below meth c T' (locs ++ L) (cells + rm.cells) (slots + rm.slots) ∧ Q v T'.heap L ∧ ∀ target, Steps p.tables e below (T'.setTop { g with pc := g.pc + 3, stack := v.toList ++ rest }) target → Steps p.tables e below (T.setTop g) target := by
  obtain ⟨v, _, ⟨T', L', k', n'⟩, -, X', ⟨Lc, hQ, l', y', z'⟩, st⟩ := Jvm.LawKit.callS X hx (y := y) hown (mvT hZ w1) (mvT hZ w2) (mvT hZ w3) (mvT hZ w4) hy (backOf (W := W) hM hZ w4 w3 hf hl) (g := g) hg hsz (argsL := argsL) (rest := rest) hlen hstk hW hd (fun _ _ => ⟨has, eT, hc, hs⟩)
  dsimp only [Pt.U, Pt.locs, Pt.cells, Pt.slots] at X' l' y' z' st hQ
  subst l' y' z'
  exact ⟨v, T', Lc, X', hQ, st⟩
theorem own_callI (X : Stand p l e R s m args below meth c T locs cells slots) (hx : p.tables.exec = Jvm.exec) (hZ : Z.Warmed39 s.vm) {own : String} {index : Nat} {y : MethodName} {bytes : ByteArray} {maxL : Nat} {rm : Room} {W : Nat} {Q : Option Value → Heap → List Loc → Prop} {a : Addr} {argsL rest : List Value} {as' : Array Value} (hyn : y.name = "<init>")
    (hown : s.vm.findClass own = some m.cls) (w1 : (Cond.methodLink own index y).before a0 Z = true) (w2 : (Cond.instanceMethod y).before a0 Z = true) (w3 : (Cond.initialized y.cls).before a0 Z = true) (w4 : (Cond.code y bytes maxL none).before a0 Z = true) (hy : y.cls ≠ "java/lang/invoke/MethodHandle" ∧ y.cls ≠ "java/lang/invoke/VarHandle")
    (hM : own_Met l Z y bytes maxL none [] rm h as' Q rm.cells rm.slots) (hf : rm.frames + 1 ≤ R.frames) (hl : W + (maxL + 11) + rm.locals ≤ R.locals) {g : JFrame} (hg : g.method = m) (hsz : g.locals.size = c.maxLocals) (has : (Value.ref a :: argsL).toArray = as') (hlen : ∀ sig, parseMethodDescriptor y.desc = some sig → argsL.length = sig.parameters.length) (hstk : g.stack = argsL.reverse ++ .ref a :: rest) (hW : 2 * g.monitorRoom + (rest.map fun v => v.category).sum ≤ W)
    (hd : decode c.code g.pc = .ok (.invokespecial index, 3)) (eT : T.heap = h) (hc : cells + rm.cells ≤ R.cells) (hs : slots + rm.slots ≤ R.slots) :
    ∃ v T' L, Stand p l e R s m args below meth c T' (locs ++ L) (cells + rm.cells) (slots + rm.slots) ∧ Q v T'.heap L ∧ ∀ target, Steps p.tables e below (T'.setTop { g with pc := g.pc + 3, stack := v.toList ++ rest }) target → Steps p.tables e below (T.setTop g) target := by
  obtain ⟨v, _, ⟨T', L', k', n'⟩, -, X', ⟨Lc, hQ, l', y', z'⟩, st⟩ := X.specialBack hx (y := y) hyn hown (mvT hZ w1) (mvT hZ w2) (mvT hZ w4) hy (backOf (W := W) hM hZ w4 w3 hf hl) (g := g) hg hsz (Steps.refl _) (a := a) (argsL := argsL) (rest := rest) hlen hstk hW hd (fun _ _ => ⟨has, eT, hc, hs⟩)
  dsimp only [Pt.U, Pt.locs, Pt.cells, Pt.slots] at X' l' y' z' st hQ
  subst l' y' z'
  exact ⟨v, T', Lc, X', hQ, fun t k => st.trans k⟩
theorem own_callV (X : Stand p l e R s m args below meth c T locs cells slots) (hx : p.tables.exec = Jvm.exec) (hZ : Z.Warmed39 s.vm) {own C : String} {index : Nat} {y z : MethodName} {bytes : ByteArray} {maxL : Nat} {ret : Option FieldType} {rm : Room} {W : Nat} {Q : Option Value → Heap → List Loc → Prop} {a : Addr} {argsL rest : List Value} {as' : Array Value}
    (hown : s.vm.findClass own = some m.cls) (w1 : (Cond.methodLink own index y).before a0 Z = true) (w2 : (Cond.declares y).before a0 Z = true) (hnf : NotFace s y) (wsel : (Cond.selects C y z).before a0 Z = true) (wi : (Cond.instanceMethod z).before a0 Z = true) (w3 : (Cond.initialized z.cls).before a0 Z = true) (w4 : (Cond.code z bytes maxL ret).before a0 Z = true) (hy : y.cls ≠ "java/lang/invoke/MethodHandle" ∧ y.cls ≠ "java/lang/invoke/VarHandle")
    (hM : own_Met l Z z bytes maxL ret [] rm h as' Q rm.cells rm.slots) (hf : rm.frames + 1 ≤ R.frames) (hl : W + (maxL + 11) + rm.locals ≤ R.locals) (E : Exa Z h a C) {g : JFrame} (hg : g.method = m) (hsz : g.locals.size = c.maxLocals) (has : (Value.ref a :: argsL).toArray = as') (hlen : ∀ sig, parseMethodDescriptor y.desc = some sig → argsL.length = sig.parameters.length) (hstk : g.stack = argsL.reverse ++ .ref a :: rest) (hW : 2 * g.monitorRoom + (rest.map fun v => v.category).sum ≤ W)
    (hd : decode c.code g.pc = .ok (.invokevirtual index, 3)) (eT : T.heap = h) (hc : cells + rm.cells ≤ R.cells) (hs : slots + rm.slots ≤ R.slots) :
    ∃ v T' L, Stand p l e R s m args below meth c T' (locs ++ L) (cells + rm.cells) (slots + rm.slots) ∧ Q v T'.heap L ∧ ∀ target, Steps p.tables e below (T'.setTop { g with pc := g.pc + 3, stack := v.toList ++ rest }) target → Steps p.tables e below (T.setTop g) target := by
  obtain ⟨cq, kq, qa, qb, qc⟩ := isOf hZ eT E
  obtain ⟨v, _, ⟨T', L', k', n'⟩, -, X', ⟨Lc, hQ, l', y', z'⟩, st⟩ := X.virtualBack hx (y := y) (z := z) hown (mvT hZ w1) (mvT hZ w2) hnf (mvT hZ wsel) (mvT hZ wi) hy (backOf (W := W) hM hZ w4 w3 hf hl) qa qc (g := g) hg hsz (Steps.refl _) (argsL := argsL) (rest := rest) hlen hstk hW hd (fun _ _ => ⟨has, eT, hc, hs⟩)
  dsimp only [Pt.U, Pt.locs, Pt.cells, Pt.slots] at X' l' y' z' st hQ
  subst l' y' z'
  exact ⟨v, T', Lc, X', hQ, fun t k => st.trans k⟩
theorem own_callP (X : Stand p l e R s m args below meth c T locs cells slots) (hx : p.tables.exec = Jvm.exec) (hZ : Z.Warmed39 s.vm) {own C : String} {index : Nat} {y : MethodName} {bytes : ByteArray} {maxL : Nat} {ret : Option FieldType} {rm : Room} {W : Nat} {Q : Option Value → Heap → List Loc → Prop} {a : Addr} {argsL rest : List Value} {as' : Array Value}
    (hown : s.vm.findClass own = some m.cls) (w1 : (Cond.methodLink own index y).before a0 Z = true) (wi : (Cond.instanceMethod y).before a0 Z = true) {kk : Nat} (wn : (Cond.instantiable y.cls kk).before a0 Z = true) (wp : (Cond.privateMethod y).before a0 Z = true) (w3 : (Cond.initialized y.cls).before a0 Z = true) (w4 : (Cond.code y bytes maxL ret).before a0 Z = true) (hy : y.cls ≠ "java/lang/invoke/MethodHandle" ∧ y.cls ≠ "java/lang/invoke/VarHandle")
    (hM : own_Met l Z y bytes maxL ret [] rm h as' Q rm.cells rm.slots) (hf : rm.frames + 1 ≤ R.frames) (hl : W + (maxL + 11) + rm.locals ≤ R.locals) (E : Exa Z h a C) {g : JFrame} (hg : g.method = m) (hsz : g.locals.size = c.maxLocals) (has : (Value.ref a :: argsL).toArray = as') (hlen : ∀ sig, parseMethodDescriptor y.desc = some sig → argsL.length = sig.parameters.length) (hstk : g.stack = argsL.reverse ++ .ref a :: rest) (hW : 2 * g.monitorRoom + (rest.map fun v => v.category).sum ≤ W)
    (hd : decode c.code g.pc = .ok (.invokevirtual index, 3)) (eT : T.heap = h) (hc : cells + rm.cells ≤ R.cells) (hs : slots + rm.slots ≤ R.slots) :
    ∃ v T' L, Stand p l e R s m args below meth c T' (locs ++ L) (cells + rm.cells) (slots + rm.slots) ∧ Q v T'.heap L ∧ ∀ target, Steps p.tables e below (T'.setTop { g with pc := g.pc + 3, stack := v.toList ++ rest }) target → Steps p.tables e below (T.setTop g) target := by
  obtain ⟨cq, q1, q2⟩ := E.cell
  obtain ⟨ci, ki, hi1, hi2, -, hi4, -⟩ := Cond.instantiable_spec (mvT (args := args) hZ wn)
  have hsel : (Cond.selects y.cls y y).before args s = true := selects_self_of_private hi1 hi2 (by simp only [Bool.or_eq_false_iff] at hi4; exact hi4.1) (Cond.privateMethod_at (mvP hZ wp (args := #[]))) (mvT hZ wi) hy
  obtain ⟨v, _, ⟨T', L', k', n'⟩, -, X', ⟨Lc, hQ, l', y', z'⟩, st⟩ := X.privateBack hx (y := y) hown (mvT hZ w1) (mvT hZ wi) hsel (Cond.privateMethod_at (mvP hZ wp (args := #[]))) (mvT hZ w4) hy (backOf (W := W) hM hZ w4 w3 hf hl) (g := g) hg hsz (Steps.refl _) (a := a) (by rw [eT]; exact q1) q2 (argsL := argsL) (rest := rest) hlen hstk hW hd (fun _ _ => ⟨has, eT, hc, hs⟩)
  dsimp only [Pt.U, Pt.locs, Pt.cells, Pt.slots] at X' l' y' z' st hQ
  subst l' y' z'
  exact ⟨v, T', Lc, X', hQ, fun t k => st.trans k⟩
end Own

theorem own_h {a0 : Array Value} {Z : State} (hw : ∀ d ∈ tables_1, d.before a0 Z = true) (i : Nat) {d : Jvm.Cond} (h : tables_1[i]? = some d) : d.before a0 Z = true := hw d (List.mem_of_getElem? h)
theorem own_at {T : State} {h : Heap} {a : Addr} {c : Cell} (eT : T.heap = h) (q : h[a]? = some c) : T.heap[a]? = some c := by rw [eT]; exact q
def own_b (b : Bool) : Int32 := cond b 1 0
theorem own_b0 {b : Bool} (h : b = false) : own_b b = 0 := by subst h; rfl
theorem own_b1 {b : Bool} (h : ¬ b = false) : ¬ own_b b = 0 := by cases b; exact absurd rfl h; decide
theorem own_narb (b : Bool) : nar .boolean (own_b b) = own_b b := by cases b <;> rfl
theorem own_lclt {a b : Int64} (h : a < b) : lcmpW a b < 0 := by rw [lcW]; exact (lc_lt a b).mpr h
theorem own_lcltN {a b : Int64} (h : ¬ a < b) : ¬ lcmpW a b < 0 := fun q => by rw [lcW] at q; exact h ((lc_lt a b).mp q)
theorem own_lcgt {a b : Int64} (h : b < a) : 0 < lcmpW a b := by rw [lcW]; exact (lc_gt a b).mpr h
theorem own_lcgtN {a b : Int64} (h : ¬ b < a) : ¬ 0 < lcmpW a b := fun q => by rw [lcW] at q; exact h ((lc_gt a b).mp q)
theorem own_lceq {a b : Int64} (h : a = b) : lcmpW a b = 0 := by rw [lcW]; exact (lc_eq a b).mpr h
theorem own_lceqN {a b : Int64} (h : ¬ a = b) : ¬ lcmpW a b = 0 := fun q => by rw [lcW] at q; exact h ((lc_eq a b).mp q)
theorem own_insKeep {Z : State} {h h' : Heap} {a : Addr} {C : String} {bo : Bool} {ws : List Addr} (F : Ins Z h a C bo) (K : Keep h h' ws) : Ins Z h' a C bo := by
  obtain ⟨cell, cT, h1, h2, h3⟩ := F
  obtain ⟨c', q1, q2, q3, -⟩ := K.2.2 _ _ h1
  exact ⟨c', cT, q1, h2, by rw [q2, q3]; exact h3⟩
theorem own_staKeep {Z : State} {h h' : Heap} {C n d : String} {v : Value} (F : Sta Z h C n d v) (K : Keep h h' []) : Sta Z h' C n d v := by
  obtain ⟨cf, i, k, f, st, cell, h1, h2, h3, h4, h5, r⟩ := F
  exact ⟨cf, i, k, f, st, cell, h1, h2, h3, h4, K.2.1 _ _ h5 nin0, r⟩
theorem own_staKeepW {Z : State} {h h' : Heap} {C n d : String} {v : Value} {ws : List Addr} (F : Sta Z h C n d v) (K : Keep h h' ws) (hw : ∀ x ∈ ws, ∀ cell : Cell, h[x]? = some cell → cell.vm.isStatics = false) : Sta Z h' C n d v := by
  obtain ⟨cf, i, k, f, st, cell, h1, h2, h3, h4, h5, h6, r⟩ := F
  exact ⟨cf, i, k, f, st, cell, h1, h2, h3, h4, K.2.1 _ _ h5 (fun q => by rw [hw _ q _ h5] at h6; cases h6), h6, r⟩
theorem own_narR {t : FieldType} {w : Value} (hw : w.isRef = true) : narrow t w = w := by rcases ref_cases hw with rfl | ⟨z, rfl⟩ <;> cases t <;> rfl
theorem own_fitR {t : FieldType} {w : Value} (hw : w.isRef = true) (ht : t.isReference = true := by rfl) : fits t w = true := by rcases ref_cases hw with rfl | ⟨z, rfl⟩ <;> cases t <;> first | rfl | cases ht
theorem own_catR {w : Value} (hw : w.isRef = true) : w.category = 1 := by rcases ref_cases hw with rfl | ⟨z, rfl⟩ <;> rfl
theorem own_stV {l l' : Array Slot} {i : Nat} {w : Value} {o : Slot} (hw : w.isRef = true) (hold : l[i]? = some o) (ho : o = .unset ∨ ∃ x, o = .val x ∧ x.category = 1) (e : l.setIfInBounds i (.val w) = l') : storeLocals l i w = some l' := (XS.store1 hold ho (own_catR hw)).trans (congrArg some e)
theorem own_len {p : Program} {l : Launch} {e : Env} {R : Room} {s : State} {m : MethodId} {args : Array Value} {below : List Frame} {meth : Method} {c : Code} {T : State} {locs : List Loc} {cells slots : Nat} {Z : State} {h : Heap} (X : Stand p l e R s m args below meth c T locs cells slots) (hx : p.tables.exec = Jvm.exec) (hZ : Z.Warmed39 s.vm) (eT : T.heap = h) {a : Addr} {cl : Cell} {ty : FieldType} {z : Int32} (A : Arr Z h a cl ty) (S : cl.slots.size = z.toNatClampNeg) (hz : ¬ z < 0)
    {g : JFrame} (hg : g.method = m) {rest : List Value} (hs : g.stack = .ref a :: rest) (hd : decode c.code g.pc = .ok (.arraylength, 1)) {target : State} (k : Steps p.tables e below (T.setTop { g with pc := g.pc + 1, stack := .int z :: rest }) target) : Steps p.tables e below (T.setTop g) target := by
  refine X.arraylength hx (by rw [eT]; exact A.1) (State.isArrayOf_alike hZ.alike A.2.1) (g := g) hg hs hd _ ?_
  rw [len_of S hz]
  exact k
section OwnW
variable {p : Program} {l : Launch} {e : Env} {R : Room} {s : State} {vm0 : Vm} {m : MethodId} {args : Array Value} {below : List Frame} {meth : Method} {c : Code} {T : State} {locs : List Loc} {cells slots : Nat} {Z : State} {a0 : Array Value} {h : Heap}
theorem own_backS {y : MethodName} {bytes : ByteArray} {maxL : Nat} {ret : Option FieldType} {rm : Room} {len W : Nat} {J : Vm → Prop} {as' : Array Value} {Q : Option Value → Heap → Vm → List Loc → Prop} (hM : own_MetW l Z y bytes maxL ret [] rm h J as' Q rm.cells rm.slots)
    (hZ : Z.Warmed39 s.vm) (wc : (Cond.code y bytes maxL ret).before a0 Z = true) (wz : (Cond.initialized y.cls).before a0 Z = true) (hf : rm.frames + 1 ≤ R.frames) (hl : W + (maxL + 11) + rm.locals ≤ R.locals) :
    BackS l R p e below s args y len W (fun A a => a = as' ∧ A.U.heap = h ∧ J A.U.vm ∧ A.cells + rm.cells ≤ R.cells ∧ A.slots + rm.slots ≤ R.slots)
      (fun A _ v B => ∃ L, Q v B.U.heap B.U.vm L ∧ B.locs = A.locs ++ L ∧ B.cells = A.cells + rm.cells ∧ B.slots = A.slots + rm.slots) :=
  BackS.of_freeW (bytes := bytes) (maxL := maxL) (ret := ret) (E := fun _ _ o t L k n => k = rm.cells ∧ n = rm.slots ∧ ∃ v, o = .returned v ∧ Q v t.heap t.vm L) hM hf hl
    (fun m meth c A a Y hp => have hU : Z.Warmed39 A.U.vm := wtrans hZ Y.warmed
      ⟨by show (Cond.and _ .tt).before a A.U = true; rw [Cond.before_and, mv hU wc]; rfl, mv hU wc, mv hU wz, hp.2.2.2.1, hp.2.2.2.2⟩)
    (fun m meth c A a g mk Y hp => ⟨hp.1, wtrans hZ Y.warmed, hp.2.1, hp.2.2.1⟩) (fun _ _ _ _ _ _ _ _ _ => trivial)
    (fun _ _ _ _ ⟨v, L, h1, h2, h3⟩ => ⟨L, _, _, h3, rfl, rfl, v, h1, h2⟩)
    (fun m meth c A a g mk v t L k n Y hp _ _ ⟨e1, e2, v', e3, e4⟩ => by cases e3; subst e1 e2; exact ⟨L, e4, rfl, rfl, rfl⟩)
theorem own_callSW (X : Stand p l e R (s.setVm vm0) m args below meth c T locs cells slots) (hx : p.tables.exec = Jvm.exec) (hZ : Z.Warmed39 vm0) {k0 : Nat} (hS : s.Since vm0 k0) (hk : k0 ≤ h.size) {own : String} {index : Nat} {y : MethodName} {bytes : ByteArray} {maxL : Nat} {ret : Option FieldType} {rm : Room} {W : Nat} {J : Vm → Prop} {Q : Option Value → Heap → Vm → List Loc → Prop} {argsL rest : List Value} {as' : Array Value}
    (hown : vm0.findClass own = some m.cls) (w1 : (Cond.methodLink own index y).before a0 Z = true) (w2 : (Cond.static y).before a0 Z = true) (w3 : (Cond.initialized y.cls).before a0 Z = true) (w4 : (Cond.code y bytes maxL ret).before a0 Z = true) (hy : y.cls ≠ "java/lang/invoke/MethodHandle" ∧ y.cls ≠ "java/lang/invoke/VarHandle")
    (hM : own_MetW l Z y bytes maxL ret [] rm h J as' Q rm.cells rm.slots) (hJ : ∀ vm', (s.setVm vm0).WarmedH vm' → J vm') (hf : rm.frames + 1 ≤ R.frames) (hl : W + (maxL + 11) + rm.locals ≤ R.locals) {g : JFrame} (hg : g.method = m) (hsz : g.locals.size = c.maxLocals) (has : argsL.toArray = as') (hlen : ∀ sig, parseMethodDescriptor y.desc = some sig → argsL.length = sig.parameters.length) (hstk : g.stack = argsL.reverse ++ rest) (hW : 2 * g.monitorRoom + (rest.map fun v => v.category).sum ≤ W)
    (hd : decode c.code g.pc = .ok (.invokestatic index, 3)) (eT : T.heap = h) (hc : cells + rm.cells ≤ R.cells) (hs : slots + rm.slots ≤ R.slots) :
    ∃ v T' L, Stand p l e R (s.setVm T'.vm) m args below meth c T' (locs ++ L) (cells + rm.cells) (slots + rm.slots) ∧ Q v T'.heap T'.vm L ∧ s.Since T'.vm T'.heap.size ∧ h.size ≤ T'.heap.size ∧ Z.Warmed39 (s.setVm T'.vm).vm ∧ (s.setVm T'.vm).vm.findClass own = some m.cls ∧ ∀ target, Steps p.tables e below (T'.setTop { g with pc := g.pc + 3, stack := v.toList ++ rest }) target → Steps p.tables e below (T.setTop g) target := by
  obtain ⟨v, _, ⟨T', L', k', n'⟩, -, X', hS', hg', ⟨Lc, hQ, l', y', z'⟩, st⟩ := callSS X hx (y := y) hown (mvT hZ w1) (mvT hZ w2) (mvT hZ w3) (mvT hZ w4) hy (own_backS (W := W) hM hZ w4 w3 hf hl) (g := g) hg hsz (argsL := argsL) (rest := rest) hlen hstk hW hd (fun vm' hv => ⟨has, eT, hJ vm' hv, hc, hs⟩)
  dsimp only [Pt.U, Pt.locs, Pt.cells, Pt.slots] at X' l' y' z' st hQ hS' hg'
  subst l' y' z'
  rw [eT] at hg'
  exact ⟨v, T', Lc, X', hQ, hS.trans hS' (Nat.le_trans hk hg'), hg', State.Warmed39.trans (t := s.setVm vm0) hZ hS'.1, by rw [show (s.setVm T'.vm).vm = T'.vm from rfl, hS'.1.alike.findClass]; exact hown, fun t k => st.trans k⟩
theorem own_callIW (X : Stand p l e R (s.setVm vm0) m args below meth c T locs cells slots) (hx : p.tables.exec = Jvm.exec) (hZ : Z.Warmed39 vm0) {k0 : Nat} (hS : s.Since vm0 k0) (hk : k0 ≤ h.size) {own : String} {index : Nat} {y : MethodName} {bytes : ByteArray} {maxL : Nat} {rm : Room} {W : Nat} {J : Vm → Prop} {Q : Option Value → Heap → Vm → List Loc → Prop} {a : Addr} {argsL rest : List Value} {as' : Array Value} (hyn : y.name = "<init>")
    (hown : vm0.findClass own = some m.cls) (w1 : (Cond.methodLink own index y).before a0 Z = true) (w2 : (Cond.instanceMethod y).before a0 Z = true) (w3 : (Cond.initialized y.cls).before a0 Z = true) (w4 : (Cond.code y bytes maxL none).before a0 Z = true) (hy : y.cls ≠ "java/lang/invoke/MethodHandle" ∧ y.cls ≠ "java/lang/invoke/VarHandle")
    (hM : own_MetW l Z y bytes maxL none [] rm h J as' Q rm.cells rm.slots) (hJ : ∀ vm', (s.setVm vm0).WarmedH vm' → J vm') (hf : rm.frames + 1 ≤ R.frames) (hl : W + (maxL + 11) + rm.locals ≤ R.locals) {g : JFrame} (hg : g.method = m) (hsz : g.locals.size = c.maxLocals) (has : (Value.ref a :: argsL).toArray = as') (hlen : ∀ sig, parseMethodDescriptor y.desc = some sig → argsL.length = sig.parameters.length) (hstk : g.stack = argsL.reverse ++ .ref a :: rest) (hW : 2 * g.monitorRoom + (rest.map fun v => v.category).sum ≤ W)
    (hd : decode c.code g.pc = .ok (.invokespecial index, 3)) (eT : T.heap = h) (hc : cells + rm.cells ≤ R.cells) (hs : slots + rm.slots ≤ R.slots) :
    ∃ v T' L, Stand p l e R (s.setVm T'.vm) m args below meth c T' (locs ++ L) (cells + rm.cells) (slots + rm.slots) ∧ Q v T'.heap T'.vm L ∧ s.Since T'.vm T'.heap.size ∧ h.size ≤ T'.heap.size ∧ Z.Warmed39 (s.setVm T'.vm).vm ∧ (s.setVm T'.vm).vm.findClass own = some m.cls ∧ ∀ target, Steps p.tables e below (T'.setTop { g with pc := g.pc + 3, stack := v.toList ++ rest }) target → Steps p.tables e below (T.setTop g) target := by
  obtain ⟨v, _, ⟨T', L', k', n'⟩, -, X', hS', hg', ⟨Lc, hQ, l', y', z'⟩, st⟩ := X.specialBackS hx (y := y) hyn hown (mvT hZ w1) (mvT hZ w2) (mvT hZ w4) hy (own_backS (W := W) hM hZ w4 w3 hf hl) (g := g) hg hsz (Steps.refl _) (a := a) (argsL := argsL) (rest := rest) hlen hstk hW hd (fun vm' hv => ⟨has, eT, hJ vm' hv, hc, hs⟩)
  dsimp only [Pt.U, Pt.locs, Pt.cells, Pt.slots] at X' l' y' z' st hQ hS' hg'
  subst l' y' z'
  rw [eT] at hg'
  exact ⟨v, T', Lc, X', hQ, hS.trans hS' (Nat.le_trans hk hg'), hg', State.Warmed39.trans (t := s.setVm vm0) hZ hS'.1, by rw [show (s.setVm T'.vm).vm = T'.vm from rfl, hS'.1.alike.findClass]; exact hown, fun t k => st.trans k⟩
theorem own_callVW (X : Stand p l e R (s.setVm vm0) m args below meth c T locs cells slots) (hx : p.tables.exec = Jvm.exec) (hZ : Z.Warmed39 vm0) {k0 : Nat} (hS : s.Since vm0 k0) (hk : k0 ≤ h.size) {own C : String} {index : Nat} {y z : MethodName} {bytes : ByteArray} {maxL : Nat} {ret : Option FieldType} {rm : Room} {W : Nat} {J : Vm → Prop} {Q : Option Value → Heap → Vm → List Loc → Prop} {a : Addr} {argsL rest : List Value} {as' : Array Value}
    (hown : vm0.findClass own = some m.cls) (w1 : (Cond.methodLink own index y).before a0 Z = true) (w2 : (Cond.declares y).before a0 Z = true) (hnf : NotFace (s.setVm vm0) y) (wsel : (Cond.selects C y z).before a0 Z = true) (wi : (Cond.instanceMethod z).before a0 Z = true) (w3 : (Cond.initialized z.cls).before a0 Z = true) (w4 : (Cond.code z bytes maxL ret).before a0 Z = true) (hy : y.cls ≠ "java/lang/invoke/MethodHandle" ∧ y.cls ≠ "java/lang/invoke/VarHandle")
    (hM : own_MetW l Z z bytes maxL ret [] rm h J as' Q rm.cells rm.slots) (hJ : ∀ vm', (s.setVm vm0).WarmedH vm' → J vm') (hf : rm.frames + 1 ≤ R.frames) (hl : W + (maxL + 11) + rm.locals ≤ R.locals) (E : Exa Z h a C) {g : JFrame} (hg : g.method = m) (hsz : g.locals.size = c.maxLocals) (has : (Value.ref a :: argsL).toArray = as') (hlen : ∀ sig, parseMethodDescriptor y.desc = some sig → argsL.length = sig.parameters.length) (hstk : g.stack = argsL.reverse ++ .ref a :: rest) (hW : 2 * g.monitorRoom + (rest.map fun v => v.category).sum ≤ W)
    (hd : decode c.code g.pc = .ok (.invokevirtual index, 3)) (eT : T.heap = h) (hc : cells + rm.cells ≤ R.cells) (hs : slots + rm.slots ≤ R.slots) :
    ∃ v T' L, Stand p l e R (s.setVm T'.vm) m args below meth c T' (locs ++ L) (cells + rm.cells) (slots + rm.slots) ∧ Q v T'.heap T'.vm L ∧ s.Since T'.vm T'.heap.size ∧ h.size ≤ T'.heap.size ∧ Z.Warmed39 (s.setVm T'.vm).vm ∧ (s.setVm T'.vm).vm.findClass own = some m.cls ∧ ∀ target, Steps p.tables e below (T'.setTop { g with pc := g.pc + 3, stack := v.toList ++ rest }) target → Steps p.tables e below (T.setTop g) target := by
  obtain ⟨cq, kq, qa, qb, qc⟩ := isOf (s := s.setVm vm0) hZ eT E
  obtain ⟨v, _, ⟨T', L', k', n'⟩, -, X', hS', hg', ⟨Lc, hQ, l', y', z'⟩, st⟩ := X.virtualBackS hx (y := y) (z := z) hown (mvT hZ w1) (mvT hZ w2) hnf (mvT hZ wsel) (mvT hZ wi) hy (own_backS (W := W) hM hZ w4 w3 hf hl) qa qc (g := g) hg hsz (Steps.refl _) (argsL := argsL) (rest := rest) hlen hstk hW hd (fun vm' hv => ⟨has, eT, hJ vm' hv, hc, hs⟩)
  dsimp only [Pt.U, Pt.locs, Pt.cells, Pt.slots] at X' l' y' z' st hQ hS' hg'
  subst l' y' z'
  rw [eT] at hg'
  exact ⟨v, T', Lc, X', hQ, hS.trans hS' (Nat.le_trans hk hg'), hg', State.Warmed39.trans (t := s.setVm vm0) hZ hS'.1, by rw [show (s.setVm T'.vm).vm = T'.vm from rfl, hS'.1.alike.findClass]; exact hown, fun t k => st.trans k⟩
theorem own_ibW {Ts : List String} {vm' : Vm} (I : IB Z vm0 Ts) (hv : (s.setVm vm0).WarmedH vm') : IB Z vm' Ts := by
  obtain ⟨more, h1, h2⟩ := I
  exact ⟨more, by rw [hv.interned_eq]; exact h1, h2⟩
theorem own_litW {own : String} {index : Nat} {a : Addr} {vm' : Vm} (L : Lit (s.setVm vm0) own index a) (hv : (s.setVm vm0).WarmedH vm') : Lit (s.setVm vm') own index a := Lit.stays L hv.wide
end OwnW
theorem own_callF {p : Program} {l : Launch} {e : Env} {R : Room} {s : State} {m : MethodId} {args : Array Value} {below : List Frame} {meth : Method} {c : Code} {T : State} {locs : List Loc} {cells slots : Nat} {Z : State} {a0 : Array Value} {h : Heap} (X : Stand p l e R s m args below meth c T locs cells slots) (hx : p.tables.exec = Jvm.exec) (hZ : Z.Warmed39 s.vm) {own C : String} {index count : Nat} {y z : MethodName} {bytes : ByteArray} {maxL : Nat} {ret : Option FieldType} {rm : Room} {W : Nat} {Q : Option Value → Heap → List Loc → Prop} {a : Addr} {argsL rest : List Value} {as' : Array Value}
    (hown : s.vm.findClass own = some m.cls) (w1 : (Cond.methodLink own index y).before a0 Z = true) (w2 : (Cond.declares y).before a0 Z = true) (wf : (Cond.interfaceMethod y.cls y.cls y.name y.desc).before args s = true) (wsel : (Cond.selects C y z).before a0 Z = true) (wi : (Cond.instanceMethod z).before a0 Z = true) (wp : (Cond.publicMethod z).before a0 Z = true) (wu : (Cond.unhidden C y.name y.desc).before a0 Z = true) (wc : (Cond.castable C y.cls).before a0 Z = true) (w3 : (Cond.initialized z.cls).before a0 Z = true) (w4 : (Cond.code z bytes maxL ret).before a0 Z = true) (hy : y.cls ≠ "java/lang/invoke/MethodHandle" ∧ y.cls ≠ "java/lang/invoke/VarHandle")
    (hM : own_Met l Z z bytes maxL ret [] rm h as' Q rm.cells rm.slots) (hf : rm.frames + 1 ≤ R.frames) (hl : W + (maxL + 11) + rm.locals ≤ R.locals) (E : Exa Z h a C) {g : JFrame} (hg : g.method = m) (hsz : g.locals.size = c.maxLocals) (has : (Value.ref a :: argsL).toArray = as') (hlen : ∀ sig, parseMethodDescriptor y.desc = some sig → argsL.length = sig.parameters.length) (hstk : g.stack = argsL.reverse ++ .ref a :: rest) (hW : 2 * g.monitorRoom + (rest.map fun v => v.category).sum ≤ W)
    (hd : decode c.code g.pc = .ok (.invokeinterface index count, 5)) (eT : T.heap = h) (hc : cells + rm.cells ≤ R.cells) (hs : slots + rm.slots ≤ R.slots) :
    ∃ v T' L, Stand p l e R s m args below meth c T' (locs ++ L) (cells + rm.cells) (slots + rm.slots) ∧ Q v T'.heap L ∧ ∀ target, Steps p.tables e below (T'.setTop { g with pc := g.pc + 5, stack := v.toList ++ rest }) target → Steps p.tables e below (T.setTop g) target := by
  obtain ⟨cq, kq, qa, qb, qc⟩ := isOf hZ eT E
  obtain ⟨v, _, ⟨T', L', k', n'⟩, -, X', ⟨Lc, hQ, l', y', z'⟩, st⟩ := X.interfaceBack hx (xi := y) (y := z) hown (mvT hZ w1) (mvT hZ w2) wf (mvT hZ wsel) (mvT hZ wi) (mvT hZ wp) (mvT hZ wu) (mvT hZ wc) hy (backOf (W := W) hM hZ w4 w3 hf hl) qa qb qc (g := g) hg hsz (Steps.refl _) (argsL := argsL) (rest := rest) hlen hstk hW hd (fun _ _ => ⟨has, eT, hc, hs⟩)
  dsimp only [Pt.U, Pt.locs, Pt.cells, Pt.slots] at X' l' y' z' st hQ
  subst l' y' z'
  exact ⟨v, T', Lc, X', hQ, fun t k => st.trans k⟩
theorem own_wS {a0 : Array Value} {Z : State} (hw : ∀ d ∈ tables_1, d.before a0 Z = true) : ∀ a ∈ Bundle.stringAtoms, a.before a0 Z = true := fun d hd => by
  simp only [Bundle.stringAtoms, List.mem_cons, List.not_mem_nil, or_false] at hd
  rcases hd with rfl | rfl | rfl | rfl | rfl | rfl | rfl
  · exact own_h hw 19 rfl
  · exact own_h hw 20 rfl
  · exact own_h hw 21 rfl
  · exact own_h hw 22 rfl
  · exact own_h hw 23 rfl
  · exact own_h hw 24 rfl
  · exact own_h hw 25 rfl
theorem own_eqI {args : Array Value} {s : State} {a b : Term} {z k : Int32} (hx : a.eval args s none [] s = some (.int z)) (hy : b.eval args s none [] s = some (.int k)) (h : (Jvm.Cond.eq a b).value args s none s [] = some true) : z = k := by
  simpa [Cond.value, hx, hy] using h
theorem own_fldAt {args : Array Value} {s : State} {t : Term} {a : Addr} {Cc n d : String} {k : Int32} (h : (Jvm.Cond.eq (.field t Cc n d) (.int k)).value args s none s [] = some true) (ht : t.eval args s none [] s = some (.ref a)) : Fld s s.heap a Cc n d (.int k) := by
  obtain ⟨x, y, hx, hy, k1, k2⟩ := cmp_v (Or.inl h)
  have hy' : some (Value.int k) = some y := hy
  cases hy'
  obtain ⟨z, rfl⟩ := k2
  have e : z = k := own_eqI hx hy h
  subst e
  exact Fld.start ((fld_at ht).symm.trans hx)
theorem own_fldR {args : Array Value} {s : State} {t : Term} {a b : Addr} {Cc n d : String} (ht : t.eval args s none [] s = some (.ref a)) (hx : (Term.field t Cc n d).eval args s none [] s = some (.ref b)) : Fld s s.heap a Cc n d (.ref b) := Fld.start ((fld_at ht).symm.trans hx)
theorem own_elemAt {args : Array Value} {s : State} {t u : Term} {a o : Addr} {cl : Cell} {i : Int32} {j : Nat} (h : (Jvm.Cond.eq (.elem t (.int i)) u).value args s none s [] = some true) (ht : t.eval args s none [] s = some (.ref a)) (hu : u.eval args s none [] s = some (.ref o)) (hc : s.heap[a]? = some cl) (hij : i.toNatClampNeg = j) : cl.slots[j]? = some (.ref o) := by
  obtain ⟨x, y, hx, hy, k1, k2⟩ := cmp_v (Or.inl h)
  cases hu.symm.trans hy
  have q := gotT (eq_R hx hy k2.2 rfl) h
  subst q
  have := (elem_in hx ht rfl hc).2
  rw [hij] at this
  exact this
theorem own_elemI {args : Array Value} {s : State} {t : Term} {a : Addr} {cl : Cell} {i k : Int32} {j : Nat} (h : (Jvm.Cond.eq (.elem t (.int i)) (.int k)).value args s none s [] = some true) (ht : t.eval args s none [] s = some (.ref a)) (hc : s.heap[a]? = some cl) (hij : i.toNatClampNeg = j) : cl.slots[j]? = some (.int k) := by
  obtain ⟨x, y, hx, hy, k1, k2⟩ := cmp_v (Or.inl h)
  have hy' : some (Value.int k) = some y := hy
  cases hy'
  obtain ⟨z, rfl⟩ := k2
  have e : z = k := own_eqI hx hy h
  subst e
  have := (elem_in hx ht rfl hc).2
  rw [hij] at this
  exact this
theorem own_lenAt {args : Array Value} {s : State} {t : Term} {a : Addr} {cl : Cell} {ty : FieldType} {k : Int32} (h : (Jvm.Cond.eq (.length t) (.int k)).value args s none s [] = some true) (ht : t.eval args s none [] s = some (.ref a)) (A : Arr s s.heap a cl ty) : cl.slots.size < 2 ^ 31 ∧ cl.slots.size.toInt32 = k := by
  obtain ⟨x, y, hx, hy, k1, k2⟩ := cmp_v (Or.inl h)
  have hy' : some (Value.int k) = some y := hy
  cases hy'
  obtain ⟨z, rfl⟩ := k2
  have e : z = k := own_eqI hx hy h
  subst e
  have ha := Arr.fin (U := s) (Vm.Alike.refl _) A
  simp only [Term.eval, ht, ha, Option.bind_eq_bind, Option.bind_some] at hx
  split at hx
  · rename_i q; exact ⟨q, Value.int.inj (Option.some.inj hx)⟩
  · cases hx
theorem own_staI {args : Array Value} {s : State} {Cc n d : String} (h : (Jvm.Cond.isInt (.static Cc n d)).value args s none s [] = some true) (hi : (Jvm.Cond.initializedFor Cc n d).before args s = true) : ∃ z, Sta s s.heap Cc n d (.int z) ∧ (Term.static Cc n d).eval args s none [] s = some (.int z) := by
  obtain ⟨z, e⟩ := is_v h
  exact ⟨z, Sta.start e (Or.inl hi), e⟩
theorem own_not0 {args : Array Value} {s : State} {t : Term} {z k : Int32} (e : t.eval args s none [] s = some (.int z)) (h : (Jvm.Cond.not (.eq t (.int k))).value args s none s [] = some true) : ¬ z = k := fun q => by
  subst q
  have h2 := not_v h
  simp [Cond.value, e, Term.eval] at h2
theorem own_staR {args : Array Value} {s : State} {Cc n d : String} (h : (Jvm.Cond.isRef (.static Cc n d)).value args s none s [] = some true) (hi : (Jvm.Cond.initializedFor Cc n d).before args s = true) : ∃ z, Sta s s.heap Cc n d z ∧ z.isRef = true := by
  obtain ⟨z, e, r⟩ := isR_v h
  exact ⟨z, Sta.start e (Or.inl hi), r⟩
theorem own_andP (x : Int32) : 0 ≤ (x &&& (2147483647 : Int32)).toInt := by
  have := (Jvm.Kit.i32_and_bounds x (m := 2147483647) (by decide)).1
  rw [Int32.le_iff_toInt_le] at this
  exact this
theorem own_eqT {a b : Int32} (h : a.toInt = b.toInt) : a = b := Int32.toInt_inj.mp h
theorem own_remT (x : Int32) (k : Int32) (hk : 0 < k.toInt) : 0 ≤ ((x &&& (2147483647 : Int32)) % k).toInt ∧ ((x &&& (2147483647 : Int32)) % k).toInt < k.toInt := by
  have h := own_andP x
  rw [Int32.toInt_mod, Int.tmod_eq_emod_of_nonneg h]
  exact ⟨Int.emod_nonneg _ (by omega), Int.emod_lt_of_pos _ hk⟩
theorem own_add1 {a : Int32} {k : Int} (j : Int32) (h : a.toInt = k) (e : j.toInt = k + 1) (hk : k < 5) (hk2 : 0 ≤ k) : (1 : Int32) + a = j := by
  apply own_eqT
  have e1 : (1 : Int32).toInt = 1 := rfl
  rw [Int32.toInt_add, h, e1, e]
  have := Int.bmod_eq_of_le (n := 1 + k) (m := 2 ^ 32) (by omega) (by omega)
  rw [this]; omega
theorem own_n3 (x : Int32) : (1 : Int32) + ((x &&& (2147483647 : Int32)) % (3 : Int32)) = (1 : Int32) ∨ (1 : Int32) + ((x &&& (2147483647 : Int32)) % (3 : Int32)) = (2 : Int32) ∨ (1 : Int32) + ((x &&& (2147483647 : Int32)) % (3 : Int32)) = (3 : Int32) := by
  obtain ⟨h1, h2⟩ := own_remT x 3 (by decide)
  have e3 : (3 : Int32).toInt = 3 := rfl
  rw [e3] at h2
  rcases (by omega : ((x &&& (2147483647 : Int32)) % (3 : Int32)).toInt = 0 ∨ ((x &&& (2147483647 : Int32)) % (3 : Int32)).toInt = 1 ∨ ((x &&& (2147483647 : Int32)) % (3 : Int32)).toInt = 2) with h | h | h
  · exact Or.inl (own_add1 1 h rfl (by omega) (by omega))
  · exact Or.inr (Or.inl (own_add1 2 h rfl (by omega) (by omega)))
  · exact Or.inr (Or.inr (own_add1 3 h rfl (by omega) (by omega)))
theorem own_n2 (x : Int32) : (1 : Int32) + ((x &&& (2147483647 : Int32)) % (2 : Int32)) = (1 : Int32) ∨ (1 : Int32) + ((x &&& (2147483647 : Int32)) % (2 : Int32)) = (2 : Int32) := by
  obtain ⟨h1, h2⟩ := own_remT x 2 (by decide)
  have e3 : (2 : Int32).toInt = 2 := rfl
  rw [e3] at h2
  rcases (by omega : ((x &&& (2147483647 : Int32)) % (2 : Int32)).toInt = 0 ∨ ((x &&& (2147483647 : Int32)) % (2 : Int32)).toInt = 1) with h | h
  · exact Or.inl (own_add1 1 h rfl (by omega) (by omega))
  · exact Or.inr (own_add1 2 h rfl (by omega) (by omega))
theorem own_n1 (x : Int32) : (1 : Int32) + ((x &&& (2147483647 : Int32)) % (1 : Int32)) = (1 : Int32) := by
  obtain ⟨h1, h2⟩ := own_remT x 1 (by decide)
  have e3 : (1 : Int32).toInt = 1 := rfl
  rw [e3] at h2
  exact own_add1 1 (by omega : ((x &&& (2147483647 : Int32)) % (1 : Int32)).toInt = 0) rfl (by omega) (by omega)
abbrev own_y0 : MethodName := ⟨"java/util/AbstractCollection", "<init>", "()V"⟩
theorem own_pn0 : plainName "java/util/AbstractCollection" = true := by first | (simp [plainName, overriddenIn]; done) | decide +kernel
theorem own_dabc_0 : decode jdk_22_method_1_code 0 = .ok (.aload_n 0, 1) := by decide +kernel
theorem own_dabc_1 : decode jdk_22_method_1_code 1 = .ok (.invokespecial 1, 3) := by decide +kernel
theorem own_dabc_4 : decode jdk_22_method_1_code 4 = .ok (.return_, 1) := by decide +kernel
theorem own_efabc (m : MethodId) (x0 : Addr) : entryFrame m #[(.ref x0)] 1 = mkF m 0 #[rv x0] [] := by first | (simp [entryFrame, mkF, argsToLocals, Value.category]; done) | rfl
def own_Qabc (Z : State) (a1 : Addr) (h0 : Heap) (n0 : Nat) : Option Value → Heap → List Loc → Prop := fun v h L => v = none ∧ Fr n0 L ∧ h = h0
def own_Rabc : Room := { frames := 1, cells := 0, slots := 0, locals := 12 }
set_option maxRecDepth 65536 in
set_option maxHeartbeats 40000000 in
theorem own_rmabc (l : Launch) (Z : State) (a0 : Array Value) (hw : ∀ d ∈ tables_1, d.before a0 Z = true) (ws : List Jvm.Cond) (a1 : Addr) (h0 : Heap) (n0 : Nat) (Z0 : n0 ≤ h0.size) :
    own_Met l Z own_y0 jdk_22_method_1_code 1 none ws own_Rabc h0 #[(.ref a1)] (own_Qabc Z a1 h0 n0) own_Rabc.cells own_Rabc.slots := by
  refine own_start (plainFor_of_name own_pn0) ?_
  intro p e s m below meth c s₁ X0 hx hZ hby hml hret hlk hown hnm e0
  have hown : s.vm.findClass "java/util/AbstractCollection" = some m.cls := hown
  have hml : c.maxLocals = 1 := hml
  have N0 := Fr.nil n0
  refine own_cast (own_efabc m a1) ?_
  refine own_s s₁ (mkF m 1 #[rv a1] [(.ref a1)]) (fun _ k => XS.aloadN X0.here hx rfl (hb hby own_dabc_0) rfl rfl k) ?_
  obtain ⟨T1, X1, e1, st1⟩ := initO X0 hx hZ hown (own_h hw 133 rfl) (own_h hw 8 rfl) (own_h hw 9 rfl) e0 (g := (mkF m 1 #[rv a1] [(.ref a1)])) rfl (by rw [hml]; rfl) rfl (hb hby own_dabc_1) (by decide) (W := 0) (by show 2 * 0 + _ ≤ _; exact Nat.le_of_eq rfl) (by decide)
  refine own_s T1 (mkF m 4 #[rv a1] []) st1 ?_
  exact own_finV X1 hx hret (hb hby own_dabc_4) (own_end (Qv := (own_Qabc Z a1 h0 n0)) X1 (fun _ => rfl) hlk (by decide) (by decide) e1 ⟨rfl, N0, rfl⟩)
theorem own_pd0 : parseMethodDescriptor "()V" = some ⟨[], none⟩ := by decide +kernel
abbrev own_y1 : MethodName := ⟨"java/util/AbstractList", "<init>", "()V"⟩
theorem own_pn1 : plainName "java/util/AbstractList" = true := by first | (simp [plainName, overriddenIn]; done) | decide +kernel
theorem own_dabl_0 : decode jdk_39_method_1_code 0 = .ok (.aload_n 0, 1) := by decide +kernel
theorem own_dabl_1 : decode jdk_39_method_1_code 1 = .ok (.invokespecial 1, 3) := by decide +kernel
theorem own_dabl_4 : decode jdk_39_method_1_code 4 = .ok (.aload_n 0, 1) := by decide +kernel
theorem own_dabl_5 : decode jdk_39_method_1_code 5 = .ok (.iconst 0, 1) := by decide +kernel
theorem own_dabl_6 : decode jdk_39_method_1_code 6 = .ok (.putfield 7, 3) := by decide +kernel
theorem own_dabl_9 : decode jdk_39_method_1_code 9 = .ok (.return_, 1) := by decide +kernel
theorem own_efabl (m : MethodId) (x0 : Addr) : entryFrame m #[(.ref x0)] 1 = mkF m 0 #[rv x0] [] := by first | (simp [entryFrame, mkF, argsToLocals, Value.category]; done) | rfl
def own_Qabl (Z : State) (a1 : Addr) (h0 : Heap) (n0 : Nat) : Option Value → Heap → List Loc → Prop := fun v h L => v = none ∧ Fr n0 L ∧ Keep h0 h [a1] ∧ Exa Z h a1 "java/util/ArrayList" ∧ Fld Z h a1 "java/util/AbstractList" "modCount" "I" (.int 0) ∧ Fld Z h a1 "java/util/ArrayList" "elementData" "[Ljava/lang/Object;" .null ∧ Fld Z h a1 "java/util/ArrayList" "size" "I" (.int 0)
def own_Rabl : Room := { frames := 2, cells := 0, slots := 0, locals := 24 }
set_option maxRecDepth 65536 in
set_option maxHeartbeats 40000000 in
theorem own_rmabl (l : Launch) (Z : State) (a0 : Array Value) (hw : ∀ d ∈ tables_1, d.before a0 Z = true) (ws : List Jvm.Cond) (a1 : Addr) (h0 : Heap) (n0 : Nat) (Z0 : n0 ≤ h0.size) (g_a1 : n0 ≤ a1) (pr1 : Exa Z h0 a1 "java/util/ArrayList") (pr2 : Fld Z h0 a1 "java/util/AbstractList" "modCount" "I" (.int 0)) (pr3 : Fld Z h0 a1 "java/util/ArrayList" "elementData" "[Ljava/lang/Object;" .null) (pr4 : Fld Z h0 a1 "java/util/ArrayList" "size" "I" (.int 0)) :
    own_Met l Z own_y1 jdk_39_method_1_code 1 none ws own_Rabl h0 #[(.ref a1)] (own_Qabl Z a1 h0 n0) own_Rabl.cells own_Rabl.slots := by
  refine own_start (plainFor_of_name own_pn1) ?_
  intro p e s m below meth c s₁ X0 hx hZ hby hml hret hlk hown hnm e0
  have hown : s.vm.findClass "java/util/AbstractList" = some m.cls := hown
  have hml : c.maxLocals = 1 := hml
  have N0 := Fr.nil n0
  refine own_cast (own_efabl m a1) ?_
  refine own_s s₁ (mkF m 1 #[rv a1] [(.ref a1)]) (fun _ k => XS.aloadN X0.here hx rfl (hb hby own_dabl_0) rfl rfl k) ?_
  obtain ⟨v1, T1, L1, X1, hQ1, st1⟩ := own_callI X0 hx hZ (y := own_y0) (W := 0) (a := a1) rfl hown (own_h hw 127 rfl) (own_h hw 128 rfl) (own_h hw 131 rfl) (own_h hw 132 rfl) (by decide) (own_rmabc l Z a0 hw [] a1 h0 n0 Z0) (by decide) (by decide) (g := (mkF m 1 #[rv a1] [(.ref a1)])) rfl (by rw [hml]; rfl) (argsL := []) (rest := []) rfl (lenOf own_pd0 rfl) rfl (by show 2 * 0 + _ ≤ _; exact Nat.le_of_eq rfl) (hb hby own_dabl_1) e0 (by decide) (by decide)
  obtain ⟨rfl, Nq1, e1⟩ := hQ1
  have N1 := Fr.app N0 Nq1
  refine own_s T1 (mkF m 4 #[rv a1] []) st1 ?_
  refine own_s T1 (mkF m 6 #[rv a1] [(.int 0), (.ref a1)]) (fun _ k => XS.aloadN X1.here hx rfl (hb hby own_dabl_4) rfl rfl (XS.iconst X1.here hx rfl (hb hby own_dabl_5) k)) ?_
  obtain ⟨T2, h2, X2, e2, W2, st2⟩ := putF X1 hx hZ hown (host := "") (Or.inl (own_h hw 134 rfl)) Via.refl e1 pr2 pr1 (Or.inl (own_h hw 135 rfl)) (own_h hw 116 rfl) (ty := .int) (by decide) rfl rfl (g := (mkF m 6 #[rv a1] [(.int 0), (.ref a1)])) rfl rfl (hb hby own_dabl_6)
  have Fw2 := Fld.same W2 pr2
  have f3 := Exa.wr W2 pr1
  have f4 := Fld.other W2 pr3 (Or.inr (slot_ne (Or.inl (own_h hw 139 rfl)) (Or.inl (own_h hw 135 rfl)) (by decide) (t := (.array (.object "java/lang/Object"))) (t' := .int) (by decide) (by decide)))
  have f5 := Fld.other W2 pr4 (Or.inr (slot_ne (Or.inl (own_h hw 152 rfl)) (Or.inl (own_h hw 135 rfl)) (by decide) (t := .int) (t' := .int) (by decide) (by decide)))
  have K2 : Keep h0 h2 [a1] := (Keep.refl h0 [a1]).wr W2 (Or.inl (List.mem_of_getElem? (i := 0) rfl))
  have Z2 := Nat.le_trans Z0 (Nat.le_of_eq W2.size.symm)
  have N2 := Fr.snoc X2 N1 g_a1
  refine own_s T2 (mkF m 9 #[rv a1] []) st2 ?_
  exact own_finV X2 hx hret (hb hby own_dabl_9) (own_end (Qv := (own_Qabl Z a1 h0 n0)) X2 (fun _ => rfl) hlk (by decide) (by decide) e2 ⟨rfl, N2, K2, f3, Fw2, f4, f5⟩)
abbrev own_y2 : MethodName := ⟨"java/util/ArrayList", "<init>", "(I)V"⟩
theorem own_pn2 : plainName "java/util/ArrayList" = true := by first | (simp [plainName, overriddenIn]; done) | decide +kernel
theorem own_dali_0 : decode jdk_38_method_1_code 0 = .ok (.aload_n 0, 1) := by decide +kernel
theorem own_dali_1 : decode jdk_38_method_1_code 1 = .ok (.invokespecial 1, 3) := by decide +kernel
theorem own_dali_4 : decode jdk_38_method_1_code 4 = .ok (.iload_n 1, 1) := by decide +kernel
theorem own_dali_5 : decode jdk_38_method_1_code 5 = .ok (.ifCond .le 14, 3) := by decide +kernel
theorem own_dali_8 : decode jdk_38_method_1_code 8 = .ok (.aload_n 0, 1) := by decide +kernel
theorem own_dali_9 : decode jdk_38_method_1_code 9 = .ok (.iload_n 1, 1) := by decide +kernel
theorem own_dali_10 : decode jdk_38_method_1_code 10 = .ok (.anewarray 7, 3) := by decide +kernel
theorem own_dali_13 : decode jdk_38_method_1_code 13 = .ok (.putfield 9, 3) := by decide +kernel
theorem own_dali_16 : decode jdk_38_method_1_code 16 = .ok (.goto 44, 3) := by decide +kernel
theorem own_dali_60 : decode jdk_38_method_1_code 60 = .ok (.return_, 1) := by decide +kernel
theorem own_efali (m : MethodId) (x0 : Addr) (x1 : Int32) : entryFrame m #[(.ref x0), (.int x1)] 2 = mkF m 0 #[rv x0, iv x1] [] := by first | (simp [entryFrame, mkF, argsToLocals, Value.category]; done) | rfl
def own_Qali (Z : State) (a1 : Addr) (h0 : Heap) (n0 : Nat) : Option Value → Heap → List Loc → Prop := fun v h L => ∃ (d : Addr) (kd : ClassId), v = none ∧ Fr n0 L ∧ Keep h0 h [a1] ∧ n0 ≤ d ∧ h0.size ≤ d ∧ Exa Z h a1 "java/util/ArrayList" ∧ Fld Z h a1 "java/util/AbstractList" "modCount" "I" (.int 0) ∧ Fld Z h a1 "java/util/ArrayList" "elementData" "[Ljava/lang/Object;" (.ref d) ∧ Fld Z h a1 "java/util/ArrayList" "size" "I" (.int 0) ∧ Arv Z h d kd (.object "java/lang/Object") (4 : Int32) [.null, .null, .null, .null] .null ∧ Ovr Z kd "java/lang/Object" ∧ a1 ≠ d
def own_Rali : Room := { frames := 3, cells := 1, slots := 4, locals := 36 }
set_option maxRecDepth 65536 in
set_option maxHeartbeats 40000000 in
theorem own_rmali (l : Launch) (Z : State) (a0 : Array Value) (hw : ∀ d ∈ tables_1, d.before a0 Z = true) (ws : List Jvm.Cond) (a1 : Addr) (h0 : Heap) (n0 : Nat) (Z0 : n0 ≤ h0.size) (g_a1 : n0 ≤ a1) (pr1 : Exa Z h0 a1 "java/util/ArrayList") (pr2 : Fld Z h0 a1 "java/util/AbstractList" "modCount" "I" (.int 0)) (pr3 : Fld Z h0 a1 "java/util/ArrayList" "elementData" "[Ljava/lang/Object;" .null) (pr4 : Fld Z h0 a1 "java/util/ArrayList" "size" "I" (.int 0)) :
    own_Met l Z own_y2 jdk_38_method_1_code 2 none ws own_Rali h0 #[(.ref a1), (.int 4)] (own_Qali Z a1 h0 n0) own_Rali.cells own_Rali.slots := by
  refine own_start (plainFor_of_name own_pn2) ?_
  intro p e s m below meth c s₁ X0 hx hZ hby hml hret hlk hown hnm e0
  have hown : s.vm.findClass "java/util/ArrayList" = some m.cls := hown
  have hml : c.maxLocals = 2 := hml
  have N0 := Fr.nil n0
  refine own_cast (own_efali m a1 (4 : Int32)) ?_
  refine own_s s₁ (mkF m 1 #[rv a1, iv 4] [(.ref a1)]) (fun _ k => XS.aloadN X0.here hx rfl (hb hby own_dali_0) rfl rfl k) ?_
  obtain ⟨v1, T1, L1, X1, hQ1, st1⟩ := own_callI X0 hx hZ (y := own_y1) (W := 0) (a := a1) rfl hown (own_h hw 121 rfl) (own_h hw 122 rfl) (own_h hw 125 rfl) (own_h hw 126 rfl) (by decide) (own_rmabl l Z a0 hw [] a1 h0 n0 Z0 g_a1 pr1 pr2 pr3 pr4) (by decide) (by decide) (g := (mkF m 1 #[rv a1, iv 4] [(.ref a1)])) rfl (by rw [hml]; rfl) (argsL := []) (rest := []) rfl (lenOf own_pd0 rfl) rfl (by show 2 * 0 + _ ≤ _; exact Nat.le_of_eq rfl) (hb hby own_dali_1) e0 (by decide) (by decide)
  obtain ⟨rfl, Nq1, Kq1, q1_0, q1_1, q1_2, q1_3⟩ := hQ1
  have N1 := Fr.app N0 Nq1
  have f2 := pr1.keep Kq1
  have K1 : Keep h0 T1.heap [a1] := (Keep.refl h0 [a1]).trans Kq1 (allS (Or.inl (List.mem_of_getElem? (i := 0) rfl)) all0)
  have Z1 := Nat.le_trans Z0 Kq1.1
  refine own_s T1 (mkF m 4 #[rv a1, iv 4] []) st1 ?_
  refine own_s T1 (mkF m 10 #[rv a1, iv 4] [(.int 4), (.ref a1)]) (fun _ k => XS.iloadN X1.here hx rfl (hb hby own_dali_4) rfl  (XS.ifNo X1.here hx rfl (hb hby own_dali_5) rfl ((if0 _ _).trans (tlt (by decide : ((0 : Int32) < (4 : Int32)))).2.2.2) (XS.aloadN X1.here hx rfl (hb hby own_dali_8) rfl rfl (XS.iloadN X1.here hx rfl (hb hby own_dali_9) rfl  k)))) ?_
  obtain ⟨T3, h3, k3, X3, e3, E3, A3, O3, st3⟩ := newR X1 hx hZ hown (own_h hw 136 rfl) (own_h hw 137 rfl) rfl (g := (mkF m 10 #[rv a1, iv 4] [(.int 4), (.ref a1)])) rfl (hb hby own_dali_10) rfl (by decide) (cap := 4) (by decide) (by decide) (by decide) (by decide)
  obtain ⟨b3, g3⟩ : ∃ z, z = T1.heap.size := ⟨_, rfl⟩
  have ne_a1_b3 : a1 ≠ b3 := Nat.ne_of_lt (Nat.lt_of_lt_of_le q1_0.lt (Nat.le_of_eq g3.symm))
  have g_b3 : n0 ≤ b3 := Nat.le_trans Z1 (Nat.le_of_eq g3.symm)
  have sz_b3 : h0.size ≤ b3 := Nat.le_trans K1.1 (Nat.le_of_eq g3.symm)
  rw [← g3] at A3 st3
  have f4 := Exa.ext E3 q1_0
  have f5 := Fld.ext E3 q1_1
  have f6 := Fld.ext E3 q1_2
  have f7 := Fld.ext E3 q1_3
  have K3 : Keep h0 h3 [a1] := K1.ext E3
  have Z3 := Nat.le_trans Z1 E3.1
  have f3 : Arv Z h3 b3 k3 (.object "java/lang/Object") 4 [.null, .null, .null, .null] .null := (Arv.new A3 (by decide)).pad (pad_rep [] .null 4)
  refine own_s T3 (mkF m 13 #[rv a1, iv 4] [(.ref b3), (.ref a1)]) st3 ?_
  obtain ⟨T8, h8, X8, e8, W8, st8⟩ := putF X3 hx hZ hown (host := "") (Or.inl (own_h hw 138 rfl)) Via.refl e3 f6 f4 (Or.inl (own_h hw 139 rfl)) (own_h hw 116 rfl) (ty := (.array (.object "java/lang/Object"))) (by decide) rfl rfl (g := (mkF m 13 #[rv a1, iv 4] [(.ref b3), (.ref a1)])) rfl rfl (hb hby own_dali_13)
  have Fw8 := Fld.same W8 f6
  have f9 := Exa.wr W8 f4
  have f10 := Fld.other W8 f5 (Or.inr (slot_ne (Or.inl (own_h hw 135 rfl)) (Or.inl (own_h hw 139 rfl)) (by decide) (t := .int) (t' := (.array (.object "java/lang/Object"))) (by decide) (by decide)))
  have f11 := Fld.other W8 f7 (Or.inr (slot_ne (Or.inl (own_h hw 152 rfl)) (Or.inl (own_h hw 139 rfl)) (by decide) (t := .int) (t' := (.array (.object "java/lang/Object"))) (by decide) (by decide)))
  have f12 := f3.other W8 (Ne.symm ne_a1_b3)
  have K8 : Keep h0 h8 [a1] := K3.wr W8 (Or.inl (List.mem_of_getElem? (i := 0) rfl))
  have Z8 := Nat.le_trans Z3 (Nat.le_of_eq W8.size.symm)
  have N8 := Fr.snoc X8 N1 g_a1
  refine own_s T8 (mkF m 16 #[rv a1, iv 4] []) st8 ?_
  refine own_s T8 (mkF m 60 #[rv a1, iv 4] []) (fun _ k => XS.goto X8.here hx rfl (pc0 := 16) (pc' := 60) rfl (hb hby own_dali_16) (by decide) (by decide) k) ?_
  exact own_finV X8 hx hret (hb hby own_dali_60) (own_end (Qv := (own_Qali Z a1 h0 n0)) X8 (fun _ => rfl) hlk (by decide) (by decide) e8 ⟨b3, k3, rfl, N8, K8, g_b3, sz_b3, f9, f10, Fw8, f11, f12, O3, ne_a1_b3⟩)
abbrev own_y3 : MethodName := ⟨"java/util/ArrayList", "add", "(Ljava/lang/Object;[Ljava/lang/Object;I)V"⟩
theorem own_dad3_0_0 : decode jdk_38_method_24_code 0 = .ok (.iload_n 3, 1) := by decide +kernel
theorem own_dad3_0_1 : decode jdk_38_method_24_code 1 = .ok (.aload_n 2, 1) := by decide +kernel
theorem own_dad3_0_2 : decode jdk_38_method_24_code 2 = .ok (.arraylength, 1) := by decide +kernel
theorem own_dad3_0_3 : decode jdk_38_method_24_code 3 = .ok (.if_icmp .ne 8, 3) := by decide +kernel
theorem own_dad3_0_11 : decode jdk_38_method_24_code 11 = .ok (.aload_n 2, 1) := by decide +kernel
theorem own_dad3_0_12 : decode jdk_38_method_24_code 12 = .ok (.iload_n 3, 1) := by decide +kernel
theorem own_dad3_0_13 : decode jdk_38_method_24_code 13 = .ok (.aload_n 1, 1) := by decide +kernel
theorem own_dad3_0_14 : decode jdk_38_method_24_code 14 = .ok (.aastore, 1) := by decide +kernel
theorem own_dad3_0_15 : decode jdk_38_method_24_code 15 = .ok (.aload_n 0, 1) := by decide +kernel
theorem own_dad3_0_16 : decode jdk_38_method_24_code 16 = .ok (.iload_n 3, 1) := by decide +kernel
theorem own_dad3_0_17 : decode jdk_38_method_24_code 17 = .ok (.iconst 1, 1) := by decide +kernel
theorem own_dad3_0_18 : decode jdk_38_method_24_code 18 = .ok (.iadd, 1) := by decide +kernel
theorem own_dad3_0_19 : decode jdk_38_method_24_code 19 = .ok (.putfield 48, 3) := by decide +kernel
theorem own_dad3_0_22 : decode jdk_38_method_24_code 22 = .ok (.return_, 1) := by decide +kernel
theorem own_efad3_0 (m : MethodId) (x0 : Addr) (x1 : Addr) (x2 : Addr) (x3 : Int32) : entryFrame m #[(.ref x0), (.ref x1), (.ref x2), (.int x3)] 4 = mkF m 0 #[rv x0, rv x1, rv x2, iv x3] [] := by first | (simp [entryFrame, mkF, argsToLocals, Value.category]; done) | rfl
def own_Qad3_0 (Z : State) (a1 : Addr) (a2 : Addr) (a3 : Addr) (kd : ClassId) (h0 : Heap) (n0 : Nat) : Option Value → Heap → List Loc → Prop := fun v h L => v = none ∧ Fr n0 L ∧ Keep h0 h [a1, a3] ∧ Exa Z h a1 "java/util/ArrayList" ∧ Fld Z h a1 "java/util/AbstractList" "modCount" "I" (.int 1) ∧ Fld Z h a1 "java/util/ArrayList" "elementData" "[Ljava/lang/Object;" (.ref a3) ∧ Fld Z h a1 "java/util/ArrayList" "size" "I" (.int 1) ∧ Arv Z h a3 kd (.object "java/lang/Object") (4 : Int32) [(.ref a2), .null, .null, .null] .null
def own_Rad3_0 : Room := { frames := 0, cells := 0, slots := 0, locals := 0 }
set_option maxRecDepth 65536 in
set_option maxHeartbeats 40000000 in
theorem own_rmad3_0 (l : Launch) (Z : State) (a0 : Array Value) (hw : ∀ d ∈ tables_1, d.before a0 Z = true) (ws : List Jvm.Cond) (a1 : Addr) (a2 : Addr) (a3 : Addr) (kd : ClassId) (h0 : Heap) (n0 : Nat) (Z0 : n0 ≤ h0.size) (g_a1 : n0 ≤ a1) (g_a3 : n0 ≤ a3) (pr2 : Exa Z h0 a1 "java/util/ArrayList") (pr3 : Fld Z h0 a1 "java/util/AbstractList" "modCount" "I" (.int 1)) (pr4 : Fld Z h0 a1 "java/util/ArrayList" "elementData" "[Ljava/lang/Object;" (.ref a3)) (pr5 : Fld Z h0 a1 "java/util/ArrayList" "size" "I" (.int 0)) (pr6 : Exa Z h0 a2 "com/example/tagwright/tagwright/XmlElement") (pr7 : Arv Z h0 a3 kd (.object "java/lang/Object") (4 : Int32) [.null, .null, .null, .null] .null) (pr8 : Ovr Z kd "java/lang/Object") (pr9 : a1 ≠ a3) :
    own_Met l Z own_y3 jdk_38_method_24_code 4 none ws own_Rad3_0 h0 #[(.ref a1), (.ref a2), (.ref a3), (.int 0)] (own_Qad3_0 Z a1 a2 a3 kd h0 n0) own_Rad3_0.cells own_Rad3_0.slots := by
  refine own_start (plainFor_of_name own_pn2) ?_
  intro p e s m below meth c s₁ X0 hx hZ hby hml hret hlk hown hnm e0
  have hown : s.vm.findClass "java/util/ArrayList" = some m.cls := hown
  have hml : c.maxLocals = 4 := hml
  have N0 := Fr.nil n0
  refine own_cast (own_efad3_0 m a1 a2 a3 (0 : Int32)) ?_
  refine own_s s₁ (mkF m 2 #[rv a1, rv a2, rv a3, iv 0] [(.ref a3), (.int 0)]) (fun _ k => XS.iloadN X0.here hx rfl (hb hby own_dad3_0_0) rfl  (XS.aloadN X0.here hx rfl (hb hby own_dad3_0_1) rfl rfl k)) ?_
  obtain ⟨cl1, Ar1, q1, S1, Nn1, H1, G1⟩ := id pr7
  refine own_s s₁ (mkF m 14 #[rv a1, rv a2, rv a3, iv 0] [(.ref a2), (.int 0), (.ref a3)]) (fun _ k => own_len X0 hx hZ e0 Ar1 S1 Nn1 (g := (mkF m 2 #[rv a1, rv a2, rv a3, iv 0] [(.ref a3), (.int 0)])) rfl rfl (hb hby own_dad3_0_2) (XS.icmpYes X0.here hx rfl (pc0 := 3) (pc' := 11) rfl (hb hby own_dad3_0_3) rfl (feq (by decide : ¬ ((0 : Int32) = (4 : Int32)))).2 (by decide) (by decide) (XS.aloadN X0.here hx rfl (hb hby own_dad3_0_11) rfl rfl (XS.iloadN X0.here hx rfl (hb hby own_dad3_0_12) rfl  (XS.aloadN X0.here hx rfl (hb hby own_dad3_0_13) rfl rfl k))))) ?_
  obtain ⟨cl2, Ar2, q2, S2, Nn2, H2, G2⟩ := id pr7
  have hin2 : ¬ ((0 : Int32) < 0 ∨ cl2.slots.size ≤ ((0 : Int32)).toNatClampNeg) := (inb_of S2 ⟨by decide, by decide⟩)
  obtain ⟨T2, h2, X2, e2, W2, st2⟩ := stR X0 hx hZ e0 Ar2 (j := (0 : Int32)) hin2 rfl (Sto.ofV Ar2 q2 pr8 (Ins.of_exa pr6 (own_h hw 158 rfl))) (g := (mkF m 14 #[rv a1, rv a2, rv a3, iv 0] [(.ref a2), (.int 0), (.ref a3)])) rfl rfl (hb hby own_dad3_0_14)
  have f2 : Arv Z h2 a3 kd (.object "java/lang/Object") (4 : Int32) [(.ref a2), .null, .null, .null] .null := Arv.set Ar2 q2 S2 Nn2 H2 G2 rfl W2 0 rfl (Nat.le_of_ble_eq_true rfl)
  have f3 := Exa.wr W2 pr2
  have f4 := Fld.other W2 pr3 (Or.inl pr9)
  have f5 := Fld.other W2 pr4 (Or.inl pr9)
  have f6 := Fld.other W2 pr5 (Or.inl pr9)
  have f7 := Exa.wr W2 pr6
  have K2 : Keep h0 h2 [a1, a3] := (Keep.refl h0 [a1, a3]).wr W2 (Or.inl (List.mem_of_getElem? (i := 1) rfl))
  have Z2 := Nat.le_trans Z0 (Nat.le_of_eq W2.size.symm)
  have N2 := Fr.snoc X2 N0 g_a3
  refine own_s T2 (mkF m 15 #[rv a1, rv a2, rv a3, iv 0] []) st2 ?_
  refine own_s T2 (mkF m 19 #[rv a1, rv a2, rv a3, iv 0] [(.int 1), (.ref a1)]) (fun _ k => XS.aloadN X2.here hx rfl (hb hby own_dad3_0_15) rfl rfl (XS.iloadN X2.here hx rfl (hb hby own_dad3_0_16) rfl  (XS.iconst X2.here hx rfl (hb hby own_dad3_0_17) (XS.iadd X2.here hx rfl (hb hby own_dad3_0_18) rfl k)))) ?_
  obtain ⟨T8, h8, X8, e8, W8, st8⟩ := putF X2 hx hZ hown (host := "") (Or.inl (own_h hw 151 rfl)) Via.refl e2 f6 f3 (Or.inl (own_h hw 152 rfl)) (own_h hw 116 rfl) (ty := .int) (by decide) rfl rfl (g := (mkF m 19 #[rv a1, rv a2, rv a3, iv 0] [(.int 1), (.ref a1)])) rfl rfl (hb hby own_dad3_0_19)
  have Fw8 := Fld.same W8 f6
  have f9 := Exa.wr W8 f3
  have f10 := Fld.other W8 f4 (Or.inr (slot_ne (Or.inl (own_h hw 135 rfl)) (Or.inl (own_h hw 152 rfl)) (by decide) (t := .int) (t' := .int) (by decide) (by decide)))
  have f11 := Fld.other W8 f5 (Or.inr (slot_ne (Or.inl (own_h hw 139 rfl)) (Or.inl (own_h hw 152 rfl)) (by decide) (t := (.array (.object "java/lang/Object"))) (t' := .int) (by decide) (by decide)))
  have f12 := Exa.wr W8 f7
  have f13 := f2.other W8 (Ne.symm pr9)
  have K8 : Keep h0 h8 [a1, a3] := K2.wr W8 (Or.inl (List.mem_of_getElem? (i := 0) rfl))
  have Z8 := Nat.le_trans Z2 (Nat.le_of_eq W8.size.symm)
  have N8 := Fr.snoc X8 N2 g_a1
  refine own_s T8 (mkF m 22 #[rv a1, rv a2, rv a3, iv 0] []) st8 ?_
  exact own_finV X8 hx hret (hb hby own_dad3_0_22) (own_end (Qv := (own_Qad3_0 Z a1 a2 a3 kd h0 n0)) X8 (fun _ => rfl) hlk (by decide) (by decide) e8 ⟨rfl, N8, K8, f9, f10, f11, Fw8, f13⟩)
theorem own_pd1 : parseMethodDescriptor "(Ljava/lang/Object;[Ljava/lang/Object;I)V" = some ⟨[(.object "java/lang/Object"), (.array (.object "java/lang/Object")), .int], none⟩ := by decide +kernel
abbrev own_y4 : MethodName := ⟨"java/util/ArrayList", "add", "(Ljava/lang/Object;)Z"⟩
theorem own_dad_0_0 : decode jdk_38_method_25_code 0 = .ok (.aload_n 0, 1) := by decide +kernel
theorem own_dad_0_1 : decode jdk_38_method_25_code 1 = .ok (.dup, 1) := by decide +kernel
theorem own_dad_0_2 : decode jdk_38_method_25_code 2 = .ok (.getfield 63, 3) := by decide +kernel
theorem own_dad_0_5 : decode jdk_38_method_25_code 5 = .ok (.iconst 1, 1) := by decide +kernel
theorem own_dad_0_6 : decode jdk_38_method_25_code 6 = .ok (.iadd, 1) := by decide +kernel
theorem own_dad_0_7 : decode jdk_38_method_25_code 7 = .ok (.putfield 63, 3) := by decide +kernel
theorem own_dad_0_10 : decode jdk_38_method_25_code 10 = .ok (.aload_n 0, 1) := by decide +kernel
theorem own_dad_0_11 : decode jdk_38_method_25_code 11 = .ok (.aload_n 1, 1) := by decide +kernel
theorem own_dad_0_12 : decode jdk_38_method_25_code 12 = .ok (.aload_n 0, 1) := by decide +kernel
theorem own_dad_0_13 : decode jdk_38_method_25_code 13 = .ok (.getfield 9, 3) := by decide +kernel
theorem own_dad_0_16 : decode jdk_38_method_25_code 16 = .ok (.aload_n 0, 1) := by decide +kernel
theorem own_dad_0_17 : decode jdk_38_method_25_code 17 = .ok (.getfield 48, 3) := by decide +kernel
theorem own_dad_0_20 : decode jdk_38_method_25_code 20 = .ok (.invokevirtual 131, 3) := by decide +kernel
theorem own_dad_0_23 : decode jdk_38_method_25_code 23 = .ok (.iconst 1, 1) := by decide +kernel
theorem own_dad_0_24 : decode jdk_38_method_25_code 24 = .ok (.ireturn, 1) := by decide +kernel
theorem own_efad_0 (m : MethodId) (x0 : Addr) (x1 : Addr) : entryFrame m #[(.ref x0), (.ref x1)] 2 = mkF m 0 #[rv x0, rv x1] [] := by first | (simp [entryFrame, mkF, argsToLocals, Value.category]; done) | rfl
def own_Qad_0 (Z : State) (a1 : Addr) (a2 : Addr) (d : Addr) (kd : ClassId) (h0 : Heap) (n0 : Nat) : Option Value → Heap → List Loc → Prop := fun v h L => v = some (.int 1) ∧ Fr n0 L ∧ Keep h0 h [a1, d] ∧ Exa Z h a1 "java/util/ArrayList" ∧ Fld Z h a1 "java/util/AbstractList" "modCount" "I" (.int 1) ∧ Fld Z h a1 "java/util/ArrayList" "elementData" "[Ljava/lang/Object;" (.ref d) ∧ Fld Z h a1 "java/util/ArrayList" "size" "I" (.int 1) ∧ Arv Z h d kd (.object "java/lang/Object") (4 : Int32) [(.ref a2), .null, .null, .null] .null
def own_Rad_0 : Room := { frames := 1, cells := 0, slots := 0, locals := 15 }
set_option maxRecDepth 65536 in
set_option maxHeartbeats 40000000 in
theorem own_rmad_0 (l : Launch) (Z : State) (a0 : Array Value) (hw : ∀ d ∈ tables_1, d.before a0 Z = true) (ws : List Jvm.Cond) (a1 : Addr) (a2 : Addr) (d : Addr) (kd : ClassId) (h0 : Heap) (n0 : Nat) (Z0 : n0 ≤ h0.size) (g_a1 : n0 ≤ a1) (g_d : n0 ≤ d) (pr2 : Exa Z h0 a1 "java/util/ArrayList") (pr3 : Fld Z h0 a1 "java/util/AbstractList" "modCount" "I" (.int 0)) (pr4 : Fld Z h0 a1 "java/util/ArrayList" "elementData" "[Ljava/lang/Object;" (.ref d)) (pr5 : Fld Z h0 a1 "java/util/ArrayList" "size" "I" (.int 0)) (pr6 : Exa Z h0 a2 "com/example/tagwright/tagwright/XmlElement") (pr7 : Arv Z h0 d kd (.object "java/lang/Object") (4 : Int32) [.null, .null, .null, .null] .null) (pr8 : Ovr Z kd "java/lang/Object") (pr9 : a1 ≠ d) :
    own_Met l Z own_y4 jdk_38_method_25_code 2 (some .boolean) ws own_Rad_0 h0 #[(.ref a1), (.ref a2)] (own_Qad_0 Z a1 a2 d kd h0 n0) own_Rad_0.cells own_Rad_0.slots := by
  refine own_start (plainFor_of_name own_pn2) ?_
  intro p e s m below meth c s₁ X0 hx hZ hby hml hret hlk hown hnm e0
  have hown : s.vm.findClass "java/util/ArrayList" = some m.cls := hown
  have hml : c.maxLocals = 2 := hml
  have N0 := Fr.nil n0
  refine own_cast (own_efad_0 m a1 a2) ?_
  refine own_s s₁ (mkF m 2 #[rv a1, rv a2] [(.ref a1), (.ref a1)]) (fun _ k => XS.aloadN X0.here hx rfl (hb hby own_dad_0_0) rfl rfl (XS.dup X0.here hx rfl (hb hby own_dad_0_1) rfl rfl k)) ?_
  obtain ⟨T1, X1, e1, st1⟩ := getF X0 hx hZ hown (host := "") (Or.inl (own_h hw 149 rfl)) (Via.of (own_h hw 150 rfl)) e0 pr3 (g := (mkF m 2 #[rv a1, rv a2] [(.ref a1), (.ref a1)])) rfl rfl (hb hby own_dad_0_2)
  refine own_s T1 (mkF m 5 #[rv a1, rv a2] [(.int 0), (.ref a1)]) st1 ?_
  refine own_s T1 (mkF m 7 #[rv a1, rv a2] [(.int 1), (.ref a1)]) (fun _ k => XS.iconst X1.here hx rfl (hb hby own_dad_0_5) (XS.iadd X1.here hx rfl (hb hby own_dad_0_6) rfl k)) ?_
  obtain ⟨T2, h2, X2, e2, W2, st2⟩ := putF X1 hx hZ hown (host := "") (Or.inl (own_h hw 149 rfl)) (Via.of (own_h hw 150 rfl)) e1 pr3 pr2 (Or.inl (own_h hw 135 rfl)) (own_h hw 116 rfl) (ty := .int) (by decide) rfl rfl (g := (mkF m 7 #[rv a1, rv a2] [(.int 1), (.ref a1)])) rfl rfl (hb hby own_dad_0_7)
  have Fw2 := Fld.same W2 pr3
  have f3 := Exa.wr W2 pr2
  have f4 := Fld.other W2 pr4 (Or.inr (slot_ne (Or.inl (own_h hw 139 rfl)) (Or.inl (own_h hw 135 rfl)) (by decide) (t := (.array (.object "java/lang/Object"))) (t' := .int) (by decide) (by decide)))
  have f5 := Fld.other W2 pr5 (Or.inr (slot_ne (Or.inl (own_h hw 152 rfl)) (Or.inl (own_h hw 135 rfl)) (by decide) (t := .int) (t' := .int) (by decide) (by decide)))
  have f6 := Exa.wr W2 pr6
  have f7 := pr7.other W2 (Ne.symm pr9)
  have K2 : Keep h0 h2 [a1, d] := (Keep.refl h0 [a1, d]).wr W2 (Or.inl (List.mem_of_getElem? (i := 0) rfl))
  have Z2 := Nat.le_trans Z0 (Nat.le_of_eq W2.size.symm)
  have N2 := Fr.snoc X2 N0 g_a1
  refine own_s T2 (mkF m 10 #[rv a1, rv a2] []) st2 ?_
  refine own_s T2 (mkF m 13 #[rv a1, rv a2] [(.ref a1), (.ref a2), (.ref a1)]) (fun _ k => XS.aloadN X2.here hx rfl (hb hby own_dad_0_10) rfl rfl (XS.aloadN X2.here hx rfl (hb hby own_dad_0_11) rfl rfl (XS.aloadN X2.here hx rfl (hb hby own_dad_0_12) rfl rfl k))) ?_
  obtain ⟨T8, X8, e8, st8⟩ := getF X2 hx hZ hown (host := "") (Or.inl (own_h hw 138 rfl)) Via.refl e2 f4 (g := (mkF m 13 #[rv a1, rv a2] [(.ref a1), (.ref a2), (.ref a1)])) rfl rfl (hb hby own_dad_0_13)
  refine own_s T8 (mkF m 16 #[rv a1, rv a2] [(.ref d), (.ref a2), (.ref a1)]) st8 ?_
  refine own_s T8 (mkF m 17 #[rv a1, rv a2] [(.ref a1), (.ref d), (.ref a2), (.ref a1)]) (fun _ k => XS.aloadN X8.here hx rfl (hb hby own_dad_0_16) rfl rfl k) ?_
  obtain ⟨T9, X9, e9, st9⟩ := getF X8 hx hZ hown (host := "") (Or.inl (own_h hw 151 rfl)) Via.refl e8 f5 (g := (mkF m 17 #[rv a1, rv a2] [(.ref a1), (.ref d), (.ref a2), (.ref a1)])) rfl rfl (hb hby own_dad_0_17)
  refine own_s T9 (mkF m 20 #[rv a1, rv a2] [(.int 0), (.ref d), (.ref a2), (.ref a1)]) st9 ?_
  obtain ⟨v10, T10, L10, X10, hQ10, st10⟩ := own_callP X9 hx hZ (y := own_y3) (W := 0) (a := a1) hown (own_h hw 153 rfl) (own_h hw 154 rfl) (own_h hw 116 rfl) (own_h hw 155 rfl) (own_h hw 117 rfl) (own_h hw 157 rfl) (by decide) (own_rmad3_0 l Z a0 hw [] a1 a2 d kd h2 n0 Z2 g_a1 g_d f3 Fw2 f4 f5 f6 f7 pr8 pr9) (by decide) (by decide) f3 (g := (mkF m 20 #[rv a1, rv a2] [(.int 0), (.ref d), (.ref a2), (.ref a1)])) rfl (by rw [hml]; rfl) (argsL := [(.ref a2), (.ref d), (.int 0)]) (rest := []) rfl (lenOf own_pd1 rfl) rfl (by show 2 * 0 + _ ≤ _; exact Nat.le_of_eq rfl) (hb hby own_dad_0_20) e9 (by decide) (by decide)
  obtain ⟨rfl, Nq10, Kq10, q10_0, q10_1, q10_2, q10_3, q10_4⟩ := hQ10
  have N10 := Fr.app N2 Nq10
  have f11 := f3.keep Kq10
  have f12 := f6.keep Kq10
  have K10 : Keep h0 T10.heap [a1, d] := K2.trans Kq10 (allS (Or.inl (List.mem_of_getElem? (i := 0) rfl)) (allS (Or.inl (List.mem_of_getElem? (i := 1) rfl)) all0))
  have Z10 := Nat.le_trans Z2 Kq10.1
  refine own_s T10 (mkF m 23 #[rv a1, rv a2] []) st10 ?_
  refine own_s T10 (mkF m 24 #[rv a1, rv a2] [(.int 1)]) (fun _ k => XS.iconst X10.here hx rfl (hb hby own_dad_0_23) k) ?_
  exact own_finZ X10 hx (t := .boolean) hret (by simp) (z' := (1 : Int32)) rfl (hb hby own_dad_0_24) (own_end (Qv := (own_Qad_0 Z a1 a2 d kd h0 n0)) X10 (own_some hret) hlk (by decide) (by decide) rfl ⟨rfl, N10, K10, q10_0, q10_1, q10_2, q10_3, q10_4⟩)
theorem own_dad3_1_0 : decode jdk_38_method_24_code 0 = .ok (.iload_n 3, 1) := by decide +kernel
theorem own_dad3_1_1 : decode jdk_38_method_24_code 1 = .ok (.aload_n 2, 1) := by decide +kernel
theorem own_dad3_1_2 : decode jdk_38_method_24_code 2 = .ok (.arraylength, 1) := by decide +kernel
theorem own_dad3_1_3 : decode jdk_38_method_24_code 3 = .ok (.if_icmp .ne 8, 3) := by decide +kernel
theorem own_dad3_1_11 : decode jdk_38_method_24_code 11 = .ok (.aload_n 2, 1) := by decide +kernel
theorem own_dad3_1_12 : decode jdk_38_method_24_code 12 = .ok (.iload_n 3, 1) := by decide +kernel
theorem own_dad3_1_13 : decode jdk_38_method_24_code 13 = .ok (.aload_n 1, 1) := by decide +kernel
theorem own_dad3_1_14 : decode jdk_38_method_24_code 14 = .ok (.aastore, 1) := by decide +kernel
theorem own_dad3_1_15 : decode jdk_38_method_24_code 15 = .ok (.aload_n 0, 1) := by decide +kernel
theorem own_dad3_1_16 : decode jdk_38_method_24_code 16 = .ok (.iload_n 3, 1) := by decide +kernel
theorem own_dad3_1_17 : decode jdk_38_method_24_code 17 = .ok (.iconst 1, 1) := by decide +kernel
theorem own_dad3_1_18 : decode jdk_38_method_24_code 18 = .ok (.iadd, 1) := by decide +kernel
theorem own_dad3_1_19 : decode jdk_38_method_24_code 19 = .ok (.putfield 48, 3) := by decide +kernel
theorem own_dad3_1_22 : decode jdk_38_method_24_code 22 = .ok (.return_, 1) := by decide +kernel
theorem own_efad3_1 (m : MethodId) (x0 : Addr) (x1 : Addr) (x2 : Addr) (x3 : Int32) : entryFrame m #[(.ref x0), (.ref x1), (.ref x2), (.int x3)] 4 = mkF m 0 #[rv x0, rv x1, rv x2, iv x3] [] := by first | (simp [entryFrame, mkF, argsToLocals, Value.category]; done) | rfl
def own_Qad3_1 (Z : State) (a1 : Addr) (a2 : Addr) (a3 : Addr) (kd : ClassId) (x0 : Addr) (h0 : Heap) (n0 : Nat) : Option Value → Heap → List Loc → Prop := fun v h L => v = none ∧ Fr n0 L ∧ Keep h0 h [a1, a3] ∧ Exa Z h a1 "java/util/ArrayList" ∧ Fld Z h a1 "java/util/AbstractList" "modCount" "I" (.int 2) ∧ Fld Z h a1 "java/util/ArrayList" "elementData" "[Ljava/lang/Object;" (.ref a3) ∧ Fld Z h a1 "java/util/ArrayList" "size" "I" (.int 2) ∧ Arv Z h a3 kd (.object "java/lang/Object") (4 : Int32) [(.ref x0), (.ref a2), .null, .null] .null
def own_Rad3_1 : Room := { frames := 0, cells := 0, slots := 0, locals := 0 }
set_option maxRecDepth 65536 in
set_option maxHeartbeats 40000000 in
theorem own_rmad3_1 (l : Launch) (Z : State) (a0 : Array Value) (hw : ∀ d ∈ tables_1, d.before a0 Z = true) (ws : List Jvm.Cond) (a1 : Addr) (a2 : Addr) (a3 : Addr) (kd : ClassId) (x0 : Addr) (h0 : Heap) (n0 : Nat) (Z0 : n0 ≤ h0.size) (g_a1 : n0 ≤ a1) (g_a3 : n0 ≤ a3) (pr2 : Exa Z h0 a1 "java/util/ArrayList") (pr3 : Fld Z h0 a1 "java/util/AbstractList" "modCount" "I" (.int 2)) (pr4 : Fld Z h0 a1 "java/util/ArrayList" "elementData" "[Ljava/lang/Object;" (.ref a3)) (pr5 : Fld Z h0 a1 "java/util/ArrayList" "size" "I" (.int 1)) (pr6 : Exa Z h0 a2 "com/example/tagwright/tagwright/XmlElement") (pr7 : Arv Z h0 a3 kd (.object "java/lang/Object") (4 : Int32) [(.ref x0), .null, .null, .null] .null) (pr8 : Ovr Z kd "java/lang/Object") (pr9 : a1 ≠ a3) :
    own_Met l Z own_y3 jdk_38_method_24_code 4 none ws own_Rad3_1 h0 #[(.ref a1), (.ref a2), (.ref a3), (.int 1)] (own_Qad3_1 Z a1 a2 a3 kd x0 h0 n0) own_Rad3_1.cells own_Rad3_1.slots := by
  refine own_start (plainFor_of_name own_pn2) ?_
  intro p e s m below meth c s₁ X0 hx hZ hby hml hret hlk hown hnm e0
  have hown : s.vm.findClass "java/util/ArrayList" = some m.cls := hown
  have hml : c.maxLocals = 4 := hml
  have N0 := Fr.nil n0
  refine own_cast (own_efad3_1 m a1 a2 a3 (1 : Int32)) ?_
  refine own_s s₁ (mkF m 2 #[rv a1, rv a2, rv a3, iv 1] [(.ref a3), (.int 1)]) (fun _ k => XS.iloadN X0.here hx rfl (hb hby own_dad3_1_0) rfl  (XS.aloadN X0.here hx rfl (hb hby own_dad3_1_1) rfl rfl k)) ?_
  obtain ⟨cl1, Ar1, q1, S1, Nn1, H1, G1⟩ := id pr7
  refine own_s s₁ (mkF m 14 #[rv a1, rv a2, rv a3, iv 1] [(.ref a2), (.int 1), (.ref a3)]) (fun _ k => own_len X0 hx hZ e0 Ar1 S1 Nn1 (g := (mkF m 2 #[rv a1, rv a2, rv a3, iv 1] [(.ref a3), (.int 1)])) rfl rfl (hb hby own_dad3_1_2) (XS.icmpYes X0.here hx rfl (pc0 := 3) (pc' := 11) rfl (hb hby own_dad3_1_3) rfl (feq (by decide : ¬ ((1 : Int32) = (4 : Int32)))).2 (by decide) (by decide) (XS.aloadN X0.here hx rfl (hb hby own_dad3_1_11) rfl rfl (XS.iloadN X0.here hx rfl (hb hby own_dad3_1_12) rfl  (XS.aloadN X0.here hx rfl (hb hby own_dad3_1_13) rfl rfl k))))) ?_
  obtain ⟨cl2, Ar2, q2, S2, Nn2, H2, G2⟩ := id pr7
  have hin2 : ¬ ((1 : Int32) < 0 ∨ cl2.slots.size ≤ ((1 : Int32)).toNatClampNeg) := (inb_of S2 ⟨by decide, by decide⟩)
  obtain ⟨T2, h2, X2, e2, W2, st2⟩ := stR X0 hx hZ e0 Ar2 (j := (1 : Int32)) hin2 rfl (Sto.ofV Ar2 q2 pr8 (Ins.of_exa pr6 (own_h hw 158 rfl))) (g := (mkF m 14 #[rv a1, rv a2, rv a3, iv 1] [(.ref a2), (.int 1), (.ref a3)])) rfl rfl (hb hby own_dad3_1_14)
  have f2 : Arv Z h2 a3 kd (.object "java/lang/Object") (4 : Int32) [(.ref x0), (.ref a2), .null, .null] .null := Arv.set Ar2 q2 S2 Nn2 H2 G2 rfl W2 1 rfl (Nat.le_of_ble_eq_true rfl)
  have f3 := Exa.wr W2 pr2
  have f4 := Fld.other W2 pr3 (Or.inl pr9)
  have f5 := Fld.other W2 pr4 (Or.inl pr9)
  have f6 := Fld.other W2 pr5 (Or.inl pr9)
  have f7 := Exa.wr W2 pr6
  have K2 : Keep h0 h2 [a1, a3] := (Keep.refl h0 [a1, a3]).wr W2 (Or.inl (List.mem_of_getElem? (i := 1) rfl))
  have Z2 := Nat.le_trans Z0 (Nat.le_of_eq W2.size.symm)
  have N2 := Fr.snoc X2 N0 g_a3
  refine own_s T2 (mkF m 15 #[rv a1, rv a2, rv a3, iv 1] []) st2 ?_
  refine own_s T2 (mkF m 19 #[rv a1, rv a2, rv a3, iv 1] [(.int 2), (.ref a1)]) (fun _ k => XS.aloadN X2.here hx rfl (hb hby own_dad3_1_15) rfl rfl (XS.iloadN X2.here hx rfl (hb hby own_dad3_1_16) rfl  (XS.iconst X2.here hx rfl (hb hby own_dad3_1_17) (XS.iadd X2.here hx rfl (hb hby own_dad3_1_18) rfl k)))) ?_
  obtain ⟨T8, h8, X8, e8, W8, st8⟩ := putF X2 hx hZ hown (host := "") (Or.inl (own_h hw 151 rfl)) Via.refl e2 f6 f3 (Or.inl (own_h hw 152 rfl)) (own_h hw 116 rfl) (ty := .int) (by decide) rfl rfl (g := (mkF m 19 #[rv a1, rv a2, rv a3, iv 1] [(.int 2), (.ref a1)])) rfl rfl (hb hby own_dad3_1_19)
  have Fw8 := Fld.same W8 f6
  have f9 := Exa.wr W8 f3
  have f10 := Fld.other W8 f4 (Or.inr (slot_ne (Or.inl (own_h hw 135 rfl)) (Or.inl (own_h hw 152 rfl)) (by decide) (t := .int) (t' := .int) (by decide) (by decide)))
  have f11 := Fld.other W8 f5 (Or.inr (slot_ne (Or.inl (own_h hw 139 rfl)) (Or.inl (own_h hw 152 rfl)) (by decide) (t := (.array (.object "java/lang/Object"))) (t' := .int) (by decide) (by decide)))
  have f12 := Exa.wr W8 f7
  have f13 := f2.other W8 (Ne.symm pr9)
  have K8 : Keep h0 h8 [a1, a3] := K2.wr W8 (Or.inl (List.mem_of_getElem? (i := 0) rfl))
  have Z8 := Nat.le_trans Z2 (Nat.le_of_eq W8.size.symm)
  have N8 := Fr.snoc X8 N2 g_a1
  refine own_s T8 (mkF m 22 #[rv a1, rv a2, rv a3, iv 1] []) st8 ?_
  exact own_finV X8 hx hret (hb hby own_dad3_1_22) (own_end (Qv := (own_Qad3_1 Z a1 a2 a3 kd x0 h0 n0)) X8 (fun _ => rfl) hlk (by decide) (by decide) e8 ⟨rfl, N8, K8, f9, f10, f11, Fw8, f13⟩)
theorem own_dad_1_0 : decode jdk_38_method_25_code 0 = .ok (.aload_n 0, 1) := by decide +kernel
theorem own_dad_1_1 : decode jdk_38_method_25_code 1 = .ok (.dup, 1) := by decide +kernel
theorem own_dad_1_2 : decode jdk_38_method_25_code 2 = .ok (.getfield 63, 3) := by decide +kernel
theorem own_dad_1_5 : decode jdk_38_method_25_code 5 = .ok (.iconst 1, 1) := by decide +kernel
theorem own_dad_1_6 : decode jdk_38_method_25_code 6 = .ok (.iadd, 1) := by decide +kernel
theorem own_dad_1_7 : decode jdk_38_method_25_code 7 = .ok (.putfield 63, 3) := by decide +kernel
theorem own_dad_1_10 : decode jdk_38_method_25_code 10 = .ok (.aload_n 0, 1) := by decide +kernel
theorem own_dad_1_11 : decode jdk_38_method_25_code 11 = .ok (.aload_n 1, 1) := by decide +kernel
theorem own_dad_1_12 : decode jdk_38_method_25_code 12 = .ok (.aload_n 0, 1) := by decide +kernel
theorem own_dad_1_13 : decode jdk_38_method_25_code 13 = .ok (.getfield 9, 3) := by decide +kernel
theorem own_dad_1_16 : decode jdk_38_method_25_code 16 = .ok (.aload_n 0, 1) := by decide +kernel
theorem own_dad_1_17 : decode jdk_38_method_25_code 17 = .ok (.getfield 48, 3) := by decide +kernel
theorem own_dad_1_20 : decode jdk_38_method_25_code 20 = .ok (.invokevirtual 131, 3) := by decide +kernel
theorem own_dad_1_23 : decode jdk_38_method_25_code 23 = .ok (.iconst 1, 1) := by decide +kernel
theorem own_dad_1_24 : decode jdk_38_method_25_code 24 = .ok (.ireturn, 1) := by decide +kernel
theorem own_efad_1 (m : MethodId) (x0 : Addr) (x1 : Addr) : entryFrame m #[(.ref x0), (.ref x1)] 2 = mkF m 0 #[rv x0, rv x1] [] := by first | (simp [entryFrame, mkF, argsToLocals, Value.category]; done) | rfl
def own_Qad_1 (Z : State) (a1 : Addr) (a2 : Addr) (d : Addr) (kd : ClassId) (x0 : Addr) (h0 : Heap) (n0 : Nat) : Option Value → Heap → List Loc → Prop := fun v h L => v = some (.int 1) ∧ Fr n0 L ∧ Keep h0 h [a1, d] ∧ Exa Z h a1 "java/util/ArrayList" ∧ Fld Z h a1 "java/util/AbstractList" "modCount" "I" (.int 2) ∧ Fld Z h a1 "java/util/ArrayList" "elementData" "[Ljava/lang/Object;" (.ref d) ∧ Fld Z h a1 "java/util/ArrayList" "size" "I" (.int 2) ∧ Arv Z h d kd (.object "java/lang/Object") (4 : Int32) [(.ref x0), (.ref a2), .null, .null] .null
def own_Rad_1 : Room := { frames := 1, cells := 0, slots := 0, locals := 15 }
set_option maxRecDepth 65536 in
set_option maxHeartbeats 40000000 in
theorem own_rmad_1 (l : Launch) (Z : State) (a0 : Array Value) (hw : ∀ d ∈ tables_1, d.before a0 Z = true) (ws : List Jvm.Cond) (a1 : Addr) (a2 : Addr) (d : Addr) (kd : ClassId) (x0 : Addr) (h0 : Heap) (n0 : Nat) (Z0 : n0 ≤ h0.size) (g_a1 : n0 ≤ a1) (g_d : n0 ≤ d) (pr2 : Exa Z h0 a1 "java/util/ArrayList") (pr3 : Fld Z h0 a1 "java/util/AbstractList" "modCount" "I" (.int 1)) (pr4 : Fld Z h0 a1 "java/util/ArrayList" "elementData" "[Ljava/lang/Object;" (.ref d)) (pr5 : Fld Z h0 a1 "java/util/ArrayList" "size" "I" (.int 1)) (pr6 : Exa Z h0 a2 "com/example/tagwright/tagwright/XmlElement") (pr7 : Arv Z h0 d kd (.object "java/lang/Object") (4 : Int32) [(.ref x0), .null, .null, .null] .null) (pr8 : Ovr Z kd "java/lang/Object") (pr9 : a1 ≠ d) :
    own_Met l Z own_y4 jdk_38_method_25_code 2 (some .boolean) ws own_Rad_1 h0 #[(.ref a1), (.ref a2)] (own_Qad_1 Z a1 a2 d kd x0 h0 n0) own_Rad_1.cells own_Rad_1.slots := by
  refine own_start (plainFor_of_name own_pn2) ?_
  intro p e s m below meth c s₁ X0 hx hZ hby hml hret hlk hown hnm e0
  have hown : s.vm.findClass "java/util/ArrayList" = some m.cls := hown
  have hml : c.maxLocals = 2 := hml
  have N0 := Fr.nil n0
  refine own_cast (own_efad_1 m a1 a2) ?_
  refine own_s s₁ (mkF m 2 #[rv a1, rv a2] [(.ref a1), (.ref a1)]) (fun _ k => XS.aloadN X0.here hx rfl (hb hby own_dad_1_0) rfl rfl (XS.dup X0.here hx rfl (hb hby own_dad_1_1) rfl rfl k)) ?_
  obtain ⟨T1, X1, e1, st1⟩ := getF X0 hx hZ hown (host := "") (Or.inl (own_h hw 149 rfl)) (Via.of (own_h hw 150 rfl)) e0 pr3 (g := (mkF m 2 #[rv a1, rv a2] [(.ref a1), (.ref a1)])) rfl rfl (hb hby own_dad_1_2)
  refine own_s T1 (mkF m 5 #[rv a1, rv a2] [(.int 1), (.ref a1)]) st1 ?_
  refine own_s T1 (mkF m 7 #[rv a1, rv a2] [(.int 2), (.ref a1)]) (fun _ k => XS.iconst X1.here hx rfl (hb hby own_dad_1_5) (XS.iadd X1.here hx rfl (hb hby own_dad_1_6) rfl k)) ?_
  obtain ⟨T2, h2, X2, e2, W2, st2⟩ := putF X1 hx hZ hown (host := "") (Or.inl (own_h hw 149 rfl)) (Via.of (own_h hw 150 rfl)) e1 pr3 pr2 (Or.inl (own_h hw 135 rfl)) (own_h hw 116 rfl) (ty := .int) (by decide) rfl rfl (g := (mkF m 7 #[rv a1, rv a2] [(.int 2), (.ref a1)])) rfl rfl (hb hby own_dad_1_7)
  have Fw2 := Fld.same W2 pr3
  have f3 := Exa.wr W2 pr2
  have f4 := Fld.other W2 pr4 (Or.inr (slot_ne (Or.inl (own_h hw 139 rfl)) (Or.inl (own_h hw 135 rfl)) (by decide) (t := (.array (.object "java/lang/Object"))) (t' := .int) (by decide) (by decide)))
  have f5 := Fld.other W2 pr5 (Or.inr (slot_ne (Or.inl (own_h hw 152 rfl)) (Or.inl (own_h hw 135 rfl)) (by decide) (t := .int) (t' := .int) (by decide) (by decide)))
  have f6 := Exa.wr W2 pr6
  have f7 := pr7.other W2 (Ne.symm pr9)
  have K2 : Keep h0 h2 [a1, d] := (Keep.refl h0 [a1, d]).wr W2 (Or.inl (List.mem_of_getElem? (i := 0) rfl))
  have Z2 := Nat.le_trans Z0 (Nat.le_of_eq W2.size.symm)
  have N2 := Fr.snoc X2 N0 g_a1
  refine own_s T2 (mkF m 10 #[rv a1, rv a2] []) st2 ?_
  refine own_s T2 (mkF m 13 #[rv a1, rv a2] [(.ref a1), (.ref a2), (.ref a1)]) (fun _ k => XS.aloadN X2.here hx rfl (hb hby own_dad_1_10) rfl rfl (XS.aloadN X2.here hx rfl (hb hby own_dad_1_11) rfl rfl (XS.aloadN X2.here hx rfl (hb hby own_dad_1_12) rfl rfl k))) ?_
  obtain ⟨T8, X8, e8, st8⟩ := getF X2 hx hZ hown (host := "") (Or.inl (own_h hw 138 rfl)) Via.refl e2 f4 (g := (mkF m 13 #[rv a1, rv a2] [(.ref a1), (.ref a2), (.ref a1)])) rfl rfl (hb hby own_dad_1_13)
  refine own_s T8 (mkF m 16 #[rv a1, rv a2] [(.ref d), (.ref a2), (.ref a1)]) st8 ?_
  refine own_s T8 (mkF m 17 #[rv a1, rv a2] [(.ref a1), (.ref d), (.ref a2), (.ref a1)]) (fun _ k => XS.aloadN X8.here hx rfl (hb hby own_dad_1_16) rfl rfl k) ?_
  obtain ⟨T9, X9, e9, st9⟩ := getF X8 hx hZ hown (host := "") (Or.inl (own_h hw 151 rfl)) Via.refl e8 f5 (g := (mkF m 17 #[rv a1, rv a2] [(.ref a1), (.ref d), (.ref a2), (.ref a1)])) rfl rfl (hb hby own_dad_1_17)
  refine own_s T9 (mkF m 20 #[rv a1, rv a2] [(.int 1), (.ref d), (.ref a2), (.ref a1)]) st9 ?_
  obtain ⟨v10, T10, L10, X10, hQ10, st10⟩ := own_callP X9 hx hZ (y := own_y3) (W := 0) (a := a1) hown (own_h hw 153 rfl) (own_h hw 154 rfl) (own_h hw 116 rfl) (own_h hw 155 rfl) (own_h hw 117 rfl) (own_h hw 157 rfl) (by decide) (own_rmad3_1 l Z a0 hw [] a1 a2 d kd x0 h2 n0 Z2 g_a1 g_d f3 Fw2 f4 f5 f6 f7 pr8 pr9) (by decide) (by decide) f3 (g := (mkF m 20 #[rv a1, rv a2] [(.int 1), (.ref d), (.ref a2), (.ref a1)])) rfl (by rw [hml]; rfl) (argsL := [(.ref a2), (.ref d), (.int 1)]) (rest := []) rfl (lenOf own_pd1 rfl) rfl (by show 2 * 0 + _ ≤ _; exact Nat.le_of_eq rfl) (hb hby own_dad_1_20) e9 (by decide) (by decide)
  obtain ⟨rfl, Nq10, Kq10, q10_0, q10_1, q10_2, q10_3, q10_4⟩ := hQ10
  have N10 := Fr.app N2 Nq10
  have f11 := f3.keep Kq10
  have f12 := f6.keep Kq10
  have K10 : Keep h0 T10.heap [a1, d] := K2.trans Kq10 (allS (Or.inl (List.mem_of_getElem? (i := 0) rfl)) (allS (Or.inl (List.mem_of_getElem? (i := 1) rfl)) all0))
  have Z10 := Nat.le_trans Z2 Kq10.1
  refine own_s T10 (mkF m 23 #[rv a1, rv a2] []) st10 ?_
  refine own_s T10 (mkF m 24 #[rv a1, rv a2] [(.int 1)]) (fun _ k => XS.iconst X10.here hx rfl (hb hby own_dad_1_23) k) ?_
  exact own_finZ X10 hx (t := .boolean) hret (by simp) (z' := (1 : Int32)) rfl (hb hby own_dad_1_24) (own_end (Qv := (own_Qad_1 Z a1 a2 d kd x0 h0 n0)) X10 (own_some hret) hlk (by decide) (by decide) rfl ⟨rfl, N10, K10, q10_0, q10_1, q10_2, q10_3, q10_4⟩)
abbrev own_y5 : MethodName := ⟨"java/util/ArrayList", "size", "()I"⟩
theorem own_dalsz_0 : decode jdk_38_method_8_code 0 = .ok (.aload_n 0, 1) := by decide +kernel
theorem own_dalsz_1 : decode jdk_38_method_8_code 1 = .ok (.getfield 48, 3) := by decide +kernel
theorem own_dalsz_4 : decode jdk_38_method_8_code 4 = .ok (.ireturn, 1) := by decide +kernel
theorem own_efalsz (m : MethodId) (x0 : Addr) : entryFrame m #[(.ref x0)] 1 = mkF m 0 #[rv x0] [] := by first | (simp [entryFrame, mkF, argsToLocals, Value.category]; done) | rfl
def own_Qalsz (Z : State) (a1 : Addr) (w : Int32) (h0 : Heap) (n0 : Nat) : Option Value → Heap → List Loc → Prop := fun v h L => v = some (.int w) ∧ Fr n0 L ∧ h = h0
def own_Ralsz : Room := { frames := 0, cells := 0, slots := 0, locals := 0 }
set_option maxRecDepth 65536 in
set_option maxHeartbeats 40000000 in
theorem own_rmalsz (l : Launch) (Z : State) (a0 : Array Value) (hw : ∀ d ∈ tables_1, d.before a0 Z = true) (ws : List Jvm.Cond) (a1 : Addr) (w : Int32) (h0 : Heap) (n0 : Nat) (Z0 : n0 ≤ h0.size) (F1 : Fld Z h0 a1 "java/util/ArrayList" "size" "I" (.int w)) :
    own_Met l Z own_y5 jdk_38_method_8_code 1 (some .int) ws own_Ralsz h0 #[(.ref a1)] (own_Qalsz Z a1 w h0 n0) own_Ralsz.cells own_Ralsz.slots := by
  refine own_start (plainFor_of_name own_pn2) ?_
  intro p e s m below meth c s₁ X0 hx hZ hby hml hret hlk hown hnm e0
  have hown : s.vm.findClass "java/util/ArrayList" = some m.cls := hown
  have hml : c.maxLocals = 1 := hml
  have N0 := Fr.nil n0
  refine own_cast (own_efalsz m a1) ?_
  refine own_s s₁ (mkF m 1 #[rv a1] [(.ref a1)]) (fun _ k => XS.aloadN X0.here hx rfl (hb hby own_dalsz_0) rfl rfl k) ?_
  obtain ⟨T1, X1, e1, st1⟩ := getF X0 hx hZ hown (host := "") (Or.inl (own_h hw 151 rfl)) Via.refl e0 F1 (g := (mkF m 1 #[rv a1] [(.ref a1)])) rfl rfl (hb hby own_dalsz_1)
  refine own_s T1 (mkF m 4 #[rv a1] [(.int w)]) st1 ?_
  exact own_finI X1 hx hret (hb hby own_dalsz_4) (own_end (Qv := (own_Qalsz Z a1 w h0 n0)) X1 (own_some hret) hlk (by decide) (by decide) e1 ⟨rfl, N0, rfl⟩)
abbrev own_y6 : MethodName := ⟨"jdk/internal/util/Preconditions", "checkIndex", "(IILjava/util/function/BiFunction;)I"⟩
theorem own_pn3 : plainName "jdk/internal/util/Preconditions" = true := by first | (simp [plainName, overriddenIn]; done) | decide +kernel
theorem own_dci3_0 : decode jdk_41_method_11_code 0 = .ok (.iload_n 0, 1) := by decide +kernel
theorem own_dci3_1 : decode jdk_41_method_11_code 1 = .ok (.ifCond .lt 8, 3) := by decide +kernel
theorem own_dci3_4 : decode jdk_41_method_11_code 4 = .ok (.iload_n 0, 1) := by decide +kernel
theorem own_dci3_5 : decode jdk_41_method_11_code 5 = .ok (.iload_n 1, 1) := by decide +kernel
theorem own_dci3_6 : decode jdk_41_method_11_code 6 = .ok (.if_icmp .lt 10, 3) := by decide +kernel
theorem own_dci3_16 : decode jdk_41_method_11_code 16 = .ok (.iload_n 0, 1) := by decide +kernel
theorem own_dci3_17 : decode jdk_41_method_11_code 17 = .ok (.ireturn, 1) := by decide +kernel
theorem own_efci3 (m : MethodId) (x0 : Int32) (x1 : Int32) : entryFrame m #[(.int x0), (.int x1), .null] 3 = mkF m 0 #[iv x0, iv x1, .val .null] [] := by first | (simp [entryFrame, mkF, argsToLocals, Value.category]; done) | rfl
def own_Qci3 (Z : State) (p1 : Int32) (p2 : Int32) (h0 : Heap) (n0 : Nat) : Option Value → Heap → List Loc → Prop := fun v h L => v = some (.int p1) ∧ Fr n0 L ∧ Keep h0 h []
def own_Rci3 : Room := { frames := 0, cells := 0, slots := 0, locals := 0 }
set_option maxRecDepth 65536 in
set_option maxHeartbeats 40000000 in
theorem own_rmci3 (l : Launch) (Z : State) (a0 : Array Value) (hw : ∀ d ∈ tables_1, d.before a0 Z = true) (ws : List Jvm.Cond) (p1 : Int32) (p2 : Int32) (h0 : Heap) (n0 : Nat) (Z0 : n0 ≤ h0.size) (hc0 : ¬ p1 < (0 : Int32)) (hc1 : p1 < p2) :
    own_Met l Z own_y6 jdk_41_method_11_code 3 (some .int) ws own_Rci3 h0 #[(.int p1), (.int p2), .null] (own_Qci3 Z p1 p2 h0 n0) own_Rci3.cells own_Rci3.slots := by
  refine own_start (plainFor_of_name own_pn3) ?_
  intro p e s m below meth c s₁ X0 hx hZ hby hml hret hlk hown hnm e0
  have hown : s.vm.findClass "jdk/internal/util/Preconditions" = some m.cls := hown
  have hml : c.maxLocals = 3 := hml
  have N0 := Fr.nil n0
  refine own_cast (own_efci3 m p1 p2) ?_
  refine own_s s₁ (mkF m 16 #[iv p1, iv p2, .val .null] []) (fun _ k => XS.iloadN X0.here hx rfl (hb hby own_dci3_0) rfl  (XS.ifNo X0.here hx rfl (hb hby own_dci3_1) rfl ((if0 _ _).trans (flt hc0).1) (XS.iloadN X0.here hx rfl (hb hby own_dci3_4) rfl  (XS.iloadN X0.here hx rfl (hb hby own_dci3_5) rfl  (XS.icmpYes X0.here hx rfl (pc0 := 6) (pc' := 16) rfl (hb hby own_dci3_6) rfl (tlt hc1).1 (by decide) (by decide) k))))) ?_
  refine own_s s₁ (mkF m 17 #[iv p1, iv p2, .val .null] [(.int p1)]) (fun _ k => XS.iloadN X0.here hx rfl (hb hby own_dci3_16) rfl  k) ?_
  exact own_finI X0 hx hret (hb hby own_dci3_17) (own_end (Qv := (own_Qci3 Z p1 p2 h0 n0)) X0 (own_some hret) hlk (by decide) (by decide) e0 ⟨rfl, N0, (Keep.refl h0 [])⟩)
theorem own_pd2 : parseMethodDescriptor "(IILjava/util/function/BiFunction;)I" = some ⟨[.int, .int, (.object "java/util/function/BiFunction")], some .int⟩ := by decide +kernel
abbrev own_y7 : MethodName := ⟨"java/util/Objects", "checkIndex", "(II)I"⟩
theorem own_pn4 : plainName "java/util/Objects" = true := by first | (simp [plainName, overriddenIn]; done) | decide +kernel
theorem own_dci2_0 : decode jdk_31_method_17_code 0 = .ok (.iload_n 0, 1) := by decide +kernel
theorem own_dci2_1 : decode jdk_31_method_17_code 1 = .ok (.iload_n 1, 1) := by decide +kernel
theorem own_dci2_2 : decode jdk_31_method_17_code 2 = .ok (.aconst_null, 1) := by decide +kernel
theorem own_dci2_3 : decode jdk_31_method_17_code 3 = .ok (.invokestatic 105, 3) := by decide +kernel
theorem own_dci2_6 : decode jdk_31_method_17_code 6 = .ok (.ireturn, 1) := by decide +kernel
theorem own_efci2 (m : MethodId) (x0 : Int32) (x1 : Int32) : entryFrame m #[(.int x0), (.int x1)] 2 = mkF m 0 #[iv x0, iv x1] [] := by first | (simp [entryFrame, mkF, argsToLocals, Value.category]; done) | rfl
def own_Qci2 (Z : State) (p1 : Int32) (p2 : Int32) (h0 : Heap) (n0 : Nat) : Option Value → Heap → List Loc → Prop := fun v h L => v = some (.int p1) ∧ Fr n0 L ∧ Keep h0 h []
def own_Rci2 : Room := { frames := 1, cells := 0, slots := 0, locals := 14 }
set_option maxRecDepth 65536 in
set_option maxHeartbeats 40000000 in
theorem own_rmci2 (l : Launch) (Z : State) (a0 : Array Value) (hw : ∀ d ∈ tables_1, d.before a0 Z = true) (ws : List Jvm.Cond) (p1 : Int32) (p2 : Int32) (h0 : Heap) (n0 : Nat) (Z0 : n0 ≤ h0.size) (hc0 : ¬ p1 < (0 : Int32)) (hc1 : p1 < p2) :
    own_Met l Z own_y7 jdk_31_method_17_code 2 (some .int) ws own_Rci2 h0 #[(.int p1), (.int p2)] (own_Qci2 Z p1 p2 h0 n0) own_Rci2.cells own_Rci2.slots := by
  refine own_start (plainFor_of_name own_pn4) ?_
  intro p e s m below meth c s₁ X0 hx hZ hby hml hret hlk hown hnm e0
  have hown : s.vm.findClass "java/util/Objects" = some m.cls := hown
  have hml : c.maxLocals = 2 := hml
  have N0 := Fr.nil n0
  refine own_cast (own_efci2 m p1 p2) ?_
  refine own_s s₁ (mkF m 3 #[iv p1, iv p2] [.null, (.int p2), (.int p1)]) (fun _ k => XS.iloadN X0.here hx rfl (hb hby own_dci2_0) rfl  (XS.iloadN X0.here hx rfl (hb hby own_dci2_1) rfl  (XS.aconstNull X0.here hx rfl (hb hby own_dci2_2) k))) ?_
  obtain ⟨v1, T1, L1, X1, hQ1, st1⟩ := own_callS X0 hx hZ (y := own_y6) (W := 0) hown (own_h hw 179 rfl) (own_h hw 180 rfl) (own_h hw 181 rfl) (own_h hw 182 rfl) (by decide) (own_rmci3 l Z a0 hw [] p1 p2 h0 n0 Z0 hc0 hc1) (by decide) (by decide) (g := (mkF m 3 #[iv p1, iv p2] [.null, (.int p2), (.int p1)])) rfl (by rw [hml]; rfl) (argsL := [(.int p1), (.int p2), .null]) (rest := []) rfl (lenOf own_pd2 rfl) rfl (by show 2 * 0 + _ ≤ _; exact Nat.le_of_eq rfl) (hb hby own_dci2_3) e0 (by decide) (by decide)
  obtain ⟨rfl, Nq1, Kq1⟩ := hQ1
  have N1 := Fr.app N0 Nq1
  have K1 : Keep h0 T1.heap [] := (Keep.refl h0 []).trans Kq1 all0
  have Z1 := Nat.le_trans Z0 Kq1.1
  refine own_s T1 (mkF m 6 #[iv p1, iv p2] [(.int p1)]) st1 ?_
  exact own_finI X1 hx hret (hb hby own_dci2_6) (own_end (Qv := (own_Qci2 Z p1 p2 h0 n0)) X1 (own_some hret) hlk (by decide) (by decide) rfl ⟨rfl, N1, K1⟩)
abbrev own_y8 : MethodName := ⟨"java/util/ArrayList", "elementData", "(I)Ljava/lang/Object;"⟩
theorem own_dedm_1_0 : decode jdk_38_method_18_code 0 = .ok (.aload_n 0, 1) := by decide +kernel
theorem own_dedm_1_1 : decode jdk_38_method_18_code 1 = .ok (.getfield 9, 3) := by decide +kernel
theorem own_dedm_1_4 : decode jdk_38_method_18_code 4 = .ok (.iload_n 1, 1) := by decide +kernel
theorem own_dedm_1_5 : decode jdk_38_method_18_code 5 = .ok (.aaload, 1) := by decide +kernel
theorem own_dedm_1_6 : decode jdk_38_method_18_code 6 = .ok (.areturn, 1) := by decide +kernel
theorem own_efedm_1 (m : MethodId) (x0 : Addr) (x1 : Int32) : entryFrame m #[(.ref x0), (.int x1)] 2 = mkF m 0 #[rv x0, iv x1] [] := by first | (simp [entryFrame, mkF, argsToLocals, Value.category]; done) | rfl
def own_Qedm_1 (Z : State) (a1 : Addr) (d : Addr) (kd : ClassId) (x0 : Addr) (h0 : Heap) (n0 : Nat) : Option Value → Heap → List Loc → Prop := fun v h L => v = some (.ref x0) ∧ Fr n0 L ∧ Keep h0 h []
def own_Redm_1 : Room := { frames := 0, cells := 0, slots := 0, locals := 0 }
set_option maxRecDepth 65536 in
set_option maxHeartbeats 40000000 in
theorem own_rmedm_1 (l : Launch) (Z : State) (a0 : Array Value) (hw : ∀ d ∈ tables_1, d.before a0 Z = true) (ws : List Jvm.Cond) (a1 : Addr) (d : Addr) (kd : ClassId) (x0 : Addr) (h0 : Heap) (n0 : Nat) (Z0 : n0 ≤ h0.size) (pr0 : Fld Z h0 a1 "java/util/ArrayList" "elementData" "[Ljava/lang/Object;" (.ref d)) (pr1 : Arv Z h0 d kd (.object "java/lang/Object") (4 : Int32) [(.ref x0), .null, .null, .null] .null) :
    own_Met l Z own_y8 jdk_38_method_18_code 2 (some (.object "java/lang/Object")) ws own_Redm_1 h0 #[(.ref a1), (.int 0)] (own_Qedm_1 Z a1 d kd x0 h0 n0) own_Redm_1.cells own_Redm_1.slots := by
  refine own_start (plainFor_of_name own_pn2) ?_
  intro p e s m below meth c s₁ X0 hx hZ hby hml hret hlk hown hnm e0
  have hown : s.vm.findClass "java/util/ArrayList" = some m.cls := hown
  have hml : c.maxLocals = 2 := hml
  have N0 := Fr.nil n0
  refine own_cast (own_efedm_1 m a1 (0 : Int32)) ?_
  refine own_s s₁ (mkF m 1 #[rv a1, iv 0] [(.ref a1)]) (fun _ k => XS.aloadN X0.here hx rfl (hb hby own_dedm_1_0) rfl rfl k) ?_
  obtain ⟨T1, X1, e1, st1⟩ := getF X0 hx hZ hown (host := "") (Or.inl (own_h hw 138 rfl)) Via.refl e0 pr0 (g := (mkF m 1 #[rv a1, iv 0] [(.ref a1)])) rfl rfl (hb hby own_dedm_1_1)
  refine own_s T1 (mkF m 4 #[rv a1, iv 0] [(.ref d)]) st1 ?_
  refine own_s T1 (mkF m 5 #[rv a1, iv 0] [(.int 0), (.ref d)]) (fun _ k => XS.iloadN X1.here hx rfl (hb hby own_dedm_1_4) rfl  k) ?_
  obtain ⟨cl2, Ar2, q2, S2, Nn2, H2, G2⟩ := id pr1
  have hin2 : ¬ ((0 : Int32) < 0 ∨ cl2.slots.size ≤ ((0 : Int32)).toNatClampNeg) := (inb_of S2 ⟨by decide, by decide⟩)
  refine own_s T1 (mkF m 6 #[rv a1, iv 0] [(.ref x0)]) (fun _ k => X1.aaload hx (j := (0 : Int32)) (v := (.ref x0)) (own_at e1 Ar2.1) (State.isArrayOf_alike hZ.alike Ar2.2.1) rfl Ar2.2.2 hin2 (Has.at H2 hin2 rfl) (g := (mkF m 5 #[rv a1, iv 0] [(.int 0), (.ref d)])) rfl rfl (hb hby own_dedm_1_5) _ k) ?_
  exact own_finA X1 hx hret rfl rfl (hb hby own_dedm_1_6) (own_end (Qv := (own_Qedm_1 Z a1 d kd x0 h0 n0)) X1 (own_some hret) hlk (by decide) (by decide) e1 ⟨rfl, N0, (Keep.refl h0 [])⟩)
theorem own_pd3 : parseMethodDescriptor "(II)I" = some ⟨[.int, .int], some .int⟩ := by decide +kernel
theorem own_pd4 : parseMethodDescriptor "(I)Ljava/lang/Object;" = some ⟨[.int], some (.object "java/lang/Object")⟩ := by decide +kernel
abbrev own_y9 : MethodName := ⟨"java/util/ArrayList", "get", "(I)Ljava/lang/Object;"⟩
theorem own_dget_1_0 : decode jdk_38_method_20_code 0 = .ok (.iload_n 1, 1) := by decide +kernel
theorem own_dget_1_1 : decode jdk_38_method_20_code 1 = .ok (.aload_n 0, 1) := by decide +kernel
theorem own_dget_1_2 : decode jdk_38_method_20_code 2 = .ok (.getfield 48, 3) := by decide +kernel
theorem own_dget_1_5 : decode jdk_38_method_20_code 5 = .ok (.invokestatic 118, 3) := by decide +kernel
theorem own_dget_1_8 : decode jdk_38_method_20_code 8 = .ok (.pop, 1) := by decide +kernel
theorem own_dget_1_9 : decode jdk_38_method_20_code 9 = .ok (.aload_n 0, 1) := by decide +kernel
theorem own_dget_1_10 : decode jdk_38_method_20_code 10 = .ok (.iload_n 1, 1) := by decide +kernel
theorem own_dget_1_11 : decode jdk_38_method_20_code 11 = .ok (.invokevirtual 123, 3) := by decide +kernel
theorem own_dget_1_14 : decode jdk_38_method_20_code 14 = .ok (.areturn, 1) := by decide +kernel
theorem own_efget_1 (m : MethodId) (x0 : Addr) (x1 : Int32) : entryFrame m #[(.ref x0), (.int x1)] 2 = mkF m 0 #[rv x0, iv x1] [] := by first | (simp [entryFrame, mkF, argsToLocals, Value.category]; done) | rfl
def own_Qget_1 (Z : State) (a1 : Addr) (d : Addr) (kd : ClassId) (x0 : Addr) (h0 : Heap) (n0 : Nat) : Option Value → Heap → List Loc → Prop := fun v h L => v = some (.ref x0) ∧ Fr n0 L ∧ Keep h0 h []
def own_Rget_1 : Room := { frames := 2, cells := 0, slots := 0, locals := 27 }
set_option maxRecDepth 65536 in
set_option maxHeartbeats 40000000 in
theorem own_rmget_1 (l : Launch) (Z : State) (a0 : Array Value) (hw : ∀ d ∈ tables_1, d.before a0 Z = true) (ws : List Jvm.Cond) (a1 : Addr) (d : Addr) (kd : ClassId) (x0 : Addr) (h0 : Heap) (n0 : Nat) (Z0 : n0 ≤ h0.size) (pr0 : Exa Z h0 a1 "java/util/ArrayList") (pr1 : Fld Z h0 a1 "java/util/ArrayList" "size" "I" (.int 1)) (pr2 : Fld Z h0 a1 "java/util/ArrayList" "elementData" "[Ljava/lang/Object;" (.ref d)) (pr3 : Arv Z h0 d kd (.object "java/lang/Object") (4 : Int32) [(.ref x0), .null, .null, .null] .null) :
    own_Met l Z own_y9 jdk_38_method_20_code 2 (some (.object "java/lang/Object")) ws own_Rget_1 h0 #[(.ref a1), (.int 0)] (own_Qget_1 Z a1 d kd x0 h0 n0) own_Rget_1.cells own_Rget_1.slots := by
  refine own_start (plainFor_of_name own_pn2) ?_
  intro p e s m below meth c s₁ X0 hx hZ hby hml hret hlk hown hnm e0
  have hown : s.vm.findClass "java/util/ArrayList" = some m.cls := hown
  have hml : c.maxLocals = 2 := hml
  have N0 := Fr.nil n0
  refine own_cast (own_efget_1 m a1 (0 : Int32)) ?_
  refine own_s s₁ (mkF m 2 #[rv a1, iv 0] [(.ref a1), (.int 0)]) (fun _ k => XS.iloadN X0.here hx rfl (hb hby own_dget_1_0) rfl  (XS.aloadN X0.here hx rfl (hb hby own_dget_1_1) rfl rfl k)) ?_
  obtain ⟨T1, X1, e1, st1⟩ := getF X0 hx hZ hown (host := "") (Or.inl (own_h hw 151 rfl)) Via.refl e0 pr1 (g := (mkF m 2 #[rv a1, iv 0] [(.ref a1), (.int 0)])) rfl rfl (hb hby own_dget_1_2)
  refine own_s T1 (mkF m 5 #[rv a1, iv 0] [(.int 1), (.int 0)]) st1 ?_
  obtain ⟨v2, T2, L2, X2, hQ2, st2⟩ := own_callS X1 hx hZ (y := own_y7) (W := 0) hown (own_h hw 175 rfl) (own_h hw 176 rfl) (own_h hw 177 rfl) (own_h hw 178 rfl) (by decide) (own_rmci2 l Z a0 hw [] (0 : Int32) (1 : Int32) h0 n0 Z0 (by decide) (by decide)) (by decide) (by decide) (g := (mkF m 5 #[rv a1, iv 0] [(.int 1), (.int 0)])) rfl (by rw [hml]; rfl) (argsL := [(.int 0), (.int 1)]) (rest := []) rfl (lenOf own_pd3 rfl) rfl (by show 2 * 0 + _ ≤ _; exact Nat.le_of_eq rfl) (hb hby own_dget_1_5) e1 (by decide) (by decide)
  obtain ⟨rfl, Nq2, Kq2⟩ := hQ2
  have N2 := Fr.app N0 Nq2
  have f3 := pr0.keep Kq2
  have f4 := pr1.keep Kq2 nin0
  have f5 := pr2.keep Kq2 nin0
  have f6 := pr3.keep Kq2 nin0
  have K2 : Keep h0 T2.heap [] := (Keep.refl h0 []).trans Kq2 all0
  have Z2 := Nat.le_trans Z0 Kq2.1
  refine own_s T2 (mkF m 8 #[rv a1, iv 0] [(.int 0)]) st2 ?_
  refine own_s T2 (mkF m 11 #[rv a1, iv 0] [(.int 0), (.ref a1)]) (fun _ k => XS.pop X2.here hx rfl (hb hby own_dget_1_8) rfl rfl (XS.aloadN X2.here hx rfl (hb hby own_dget_1_9) rfl rfl (XS.iloadN X2.here hx rfl (hb hby own_dget_1_10) rfl  k))) ?_
  obtain ⟨v7, T7, L7, X7, hQ7, st7⟩ := own_callV X2 hx hZ (y := own_y8) (z := own_y8) (W := 0) (a := a1) hown (own_h hw 183 rfl) (own_h hw 184 rfl) (notFace_of_selects (args := #[]) (mvT hZ (own_h hw 186 rfl))) (own_h hw 186 rfl) (own_h hw 185 rfl) (own_h hw 117 rfl) (own_h hw 187 rfl) (by decide) (own_rmedm_1 l Z a0 hw [] a1 d kd x0 T2.heap n0 Z2 f5 f6) (by decide) (by decide) f3 (g := (mkF m 11 #[rv a1, iv 0] [(.int 0), (.ref a1)])) rfl (by rw [hml]; rfl) (argsL := [(.int 0)]) (rest := []) rfl (lenOf own_pd4 rfl) rfl (by show 2 * 0 + _ ≤ _; exact Nat.le_of_eq rfl) (hb hby own_dget_1_11) rfl (by decide) (by decide)
  obtain ⟨rfl, Nq7, Kq7⟩ := hQ7
  have N7 := Fr.app N2 Nq7
  have f8 := f3.keep Kq7
  have f9 := f4.keep Kq7 nin0
  have f10 := f5.keep Kq7 nin0
  have f11 := f6.keep Kq7 nin0
  have K7 : Keep h0 T7.heap [] := K2.trans Kq7 all0
  have Z7 := Nat.le_trans Z2 Kq7.1
  refine own_s T7 (mkF m 14 #[rv a1, iv 0] [(.ref x0)]) st7 ?_
  exact own_finA X7 hx hret rfl rfl (hb hby own_dget_1_14) (own_end (Qv := (own_Qget_1 Z a1 d kd x0 h0 n0)) X7 (own_some hret) hlk (by decide) (by decide) rfl ⟨rfl, N7, K7⟩)
theorem own_dedm_2_0 : decode jdk_38_method_18_code 0 = .ok (.aload_n 0, 1) := by decide +kernel
theorem own_dedm_2_1 : decode jdk_38_method_18_code 1 = .ok (.getfield 9, 3) := by decide +kernel
theorem own_dedm_2_4 : decode jdk_38_method_18_code 4 = .ok (.iload_n 1, 1) := by decide +kernel
theorem own_dedm_2_5 : decode jdk_38_method_18_code 5 = .ok (.aaload, 1) := by decide +kernel
theorem own_dedm_2_6 : decode jdk_38_method_18_code 6 = .ok (.areturn, 1) := by decide +kernel
theorem own_efedm_2 (m : MethodId) (x0 : Addr) (x1 : Int32) : entryFrame m #[(.ref x0), (.int x1)] 2 = mkF m 0 #[rv x0, iv x1] [] := by first | (simp [entryFrame, mkF, argsToLocals, Value.category]; done) | rfl
def own_Qedm_2 (Z : State) (a1 : Addr) (d : Addr) (kd : ClassId) (x0 : Addr) (x1 : Addr) (h0 : Heap) (n0 : Nat) : Option Value → Heap → List Loc → Prop := fun v h L => v = some (.ref x0) ∧ Fr n0 L ∧ Keep h0 h []
def own_Redm_2 : Room := { frames := 0, cells := 0, slots := 0, locals := 0 }
set_option maxRecDepth 65536 in
set_option maxHeartbeats 40000000 in
theorem own_rmedm_2 (l : Launch) (Z : State) (a0 : Array Value) (hw : ∀ d ∈ tables_1, d.before a0 Z = true) (ws : List Jvm.Cond) (a1 : Addr) (d : Addr) (kd : ClassId) (x0 : Addr) (x1 : Addr) (h0 : Heap) (n0 : Nat) (Z0 : n0 ≤ h0.size) (pr0 : Fld Z h0 a1 "java/util/ArrayList" "elementData" "[Ljava/lang/Object;" (.ref d)) (pr1 : Arv Z h0 d kd (.object "java/lang/Object") (4 : Int32) [(.ref x0), (.ref x1), .null, .null] .null) :
    own_Met l Z own_y8 jdk_38_method_18_code 2 (some (.object "java/lang/Object")) ws own_Redm_2 h0 #[(.ref a1), (.int 0)] (own_Qedm_2 Z a1 d kd x0 x1 h0 n0) own_Redm_2.cells own_Redm_2.slots := by
  refine own_start (plainFor_of_name own_pn2) ?_
  intro p e s m below meth c s₁ X0 hx hZ hby hml hret hlk hown hnm e0
  have hown : s.vm.findClass "java/util/ArrayList" = some m.cls := hown
  have hml : c.maxLocals = 2 := hml
  have N0 := Fr.nil n0
  refine own_cast (own_efedm_2 m a1 (0 : Int32)) ?_
  refine own_s s₁ (mkF m 1 #[rv a1, iv 0] [(.ref a1)]) (fun _ k => XS.aloadN X0.here hx rfl (hb hby own_dedm_2_0) rfl rfl k) ?_
  obtain ⟨T1, X1, e1, st1⟩ := getF X0 hx hZ hown (host := "") (Or.inl (own_h hw 138 rfl)) Via.refl e0 pr0 (g := (mkF m 1 #[rv a1, iv 0] [(.ref a1)])) rfl rfl (hb hby own_dedm_2_1)
  refine own_s T1 (mkF m 4 #[rv a1, iv 0] [(.ref d)]) st1 ?_
  refine own_s T1 (mkF m 5 #[rv a1, iv 0] [(.int 0), (.ref d)]) (fun _ k => XS.iloadN X1.here hx rfl (hb hby own_dedm_2_4) rfl  k) ?_
  obtain ⟨cl2, Ar2, q2, S2, Nn2, H2, G2⟩ := id pr1
  have hin2 : ¬ ((0 : Int32) < 0 ∨ cl2.slots.size ≤ ((0 : Int32)).toNatClampNeg) := (inb_of S2 ⟨by decide, by decide⟩)
  refine own_s T1 (mkF m 6 #[rv a1, iv 0] [(.ref x0)]) (fun _ k => X1.aaload hx (j := (0 : Int32)) (v := (.ref x0)) (own_at e1 Ar2.1) (State.isArrayOf_alike hZ.alike Ar2.2.1) rfl Ar2.2.2 hin2 (Has.at H2 hin2 rfl) (g := (mkF m 5 #[rv a1, iv 0] [(.int 0), (.ref d)])) rfl rfl (hb hby own_dedm_2_5) _ k) ?_
  exact own_finA X1 hx hret rfl rfl (hb hby own_dedm_2_6) (own_end (Qv := (own_Qedm_2 Z a1 d kd x0 x1 h0 n0)) X1 (own_some hret) hlk (by decide) (by decide) e1 ⟨rfl, N0, (Keep.refl h0 [])⟩)
theorem own_dget_2_0 : decode jdk_38_method_20_code 0 = .ok (.iload_n 1, 1) := by decide +kernel
theorem own_dget_2_1 : decode jdk_38_method_20_code 1 = .ok (.aload_n 0, 1) := by decide +kernel
theorem own_dget_2_2 : decode jdk_38_method_20_code 2 = .ok (.getfield 48, 3) := by decide +kernel
theorem own_dget_2_5 : decode jdk_38_method_20_code 5 = .ok (.invokestatic 118, 3) := by decide +kernel
theorem own_dget_2_8 : decode jdk_38_method_20_code 8 = .ok (.pop, 1) := by decide +kernel
theorem own_dget_2_9 : decode jdk_38_method_20_code 9 = .ok (.aload_n 0, 1) := by decide +kernel
theorem own_dget_2_10 : decode jdk_38_method_20_code 10 = .ok (.iload_n 1, 1) := by decide +kernel
theorem own_dget_2_11 : decode jdk_38_method_20_code 11 = .ok (.invokevirtual 123, 3) := by decide +kernel
theorem own_dget_2_14 : decode jdk_38_method_20_code 14 = .ok (.areturn, 1) := by decide +kernel
theorem own_efget_2 (m : MethodId) (x0 : Addr) (x1 : Int32) : entryFrame m #[(.ref x0), (.int x1)] 2 = mkF m 0 #[rv x0, iv x1] [] := by first | (simp [entryFrame, mkF, argsToLocals, Value.category]; done) | rfl
def own_Qget_2 (Z : State) (a1 : Addr) (d : Addr) (kd : ClassId) (x0 : Addr) (x1 : Addr) (h0 : Heap) (n0 : Nat) : Option Value → Heap → List Loc → Prop := fun v h L => v = some (.ref x0) ∧ Fr n0 L ∧ Keep h0 h []
def own_Rget_2 : Room := { frames := 2, cells := 0, slots := 0, locals := 27 }
set_option maxRecDepth 65536 in
set_option maxHeartbeats 40000000 in
theorem own_rmget_2 (l : Launch) (Z : State) (a0 : Array Value) (hw : ∀ d ∈ tables_1, d.before a0 Z = true) (ws : List Jvm.Cond) (a1 : Addr) (d : Addr) (kd : ClassId) (x0 : Addr) (x1 : Addr) (h0 : Heap) (n0 : Nat) (Z0 : n0 ≤ h0.size) (pr0 : Exa Z h0 a1 "java/util/ArrayList") (pr1 : Fld Z h0 a1 "java/util/ArrayList" "size" "I" (.int 2)) (pr2 : Fld Z h0 a1 "java/util/ArrayList" "elementData" "[Ljava/lang/Object;" (.ref d)) (pr3 : Arv Z h0 d kd (.object "java/lang/Object") (4 : Int32) [(.ref x0), (.ref x1), .null, .null] .null) :
    own_Met l Z own_y9 jdk_38_method_20_code 2 (some (.object "java/lang/Object")) ws own_Rget_2 h0 #[(.ref a1), (.int 0)] (own_Qget_2 Z a1 d kd x0 x1 h0 n0) own_Rget_2.cells own_Rget_2.slots := by
  refine own_start (plainFor_of_name own_pn2) ?_
  intro p e s m below meth c s₁ X0 hx hZ hby hml hret hlk hown hnm e0
  have hown : s.vm.findClass "java/util/ArrayList" = some m.cls := hown
  have hml : c.maxLocals = 2 := hml
  have N0 := Fr.nil n0
  refine own_cast (own_efget_2 m a1 (0 : Int32)) ?_
  refine own_s s₁ (mkF m 2 #[rv a1, iv 0] [(.ref a1), (.int 0)]) (fun _ k => XS.iloadN X0.here hx rfl (hb hby own_dget_2_0) rfl  (XS.aloadN X0.here hx rfl (hb hby own_dget_2_1) rfl rfl k)) ?_
  obtain ⟨T1, X1, e1, st1⟩ := getF X0 hx hZ hown (host := "") (Or.inl (own_h hw 151 rfl)) Via.refl e0 pr1 (g := (mkF m 2 #[rv a1, iv 0] [(.ref a1), (.int 0)])) rfl rfl (hb hby own_dget_2_2)
  refine own_s T1 (mkF m 5 #[rv a1, iv 0] [(.int 2), (.int 0)]) st1 ?_
  obtain ⟨v2, T2, L2, X2, hQ2, st2⟩ := own_callS X1 hx hZ (y := own_y7) (W := 0) hown (own_h hw 175 rfl) (own_h hw 176 rfl) (own_h hw 177 rfl) (own_h hw 178 rfl) (by decide) (own_rmci2 l Z a0 hw [] (0 : Int32) (2 : Int32) h0 n0 Z0 (by decide) (by decide)) (by decide) (by decide) (g := (mkF m 5 #[rv a1, iv 0] [(.int 2), (.int 0)])) rfl (by rw [hml]; rfl) (argsL := [(.int 0), (.int 2)]) (rest := []) rfl (lenOf own_pd3 rfl) rfl (by show 2 * 0 + _ ≤ _; exact Nat.le_of_eq rfl) (hb hby own_dget_2_5) e1 (by decide) (by decide)
  obtain ⟨rfl, Nq2, Kq2⟩ := hQ2
  have N2 := Fr.app N0 Nq2
  have f3 := pr0.keep Kq2
  have f4 := pr1.keep Kq2 nin0
  have f5 := pr2.keep Kq2 nin0
  have f6 := pr3.keep Kq2 nin0
  have K2 : Keep h0 T2.heap [] := (Keep.refl h0 []).trans Kq2 all0
  have Z2 := Nat.le_trans Z0 Kq2.1
  refine own_s T2 (mkF m 8 #[rv a1, iv 0] [(.int 0)]) st2 ?_
  refine own_s T2 (mkF m 11 #[rv a1, iv 0] [(.int 0), (.ref a1)]) (fun _ k => XS.pop X2.here hx rfl (hb hby own_dget_2_8) rfl rfl (XS.aloadN X2.here hx rfl (hb hby own_dget_2_9) rfl rfl (XS.iloadN X2.here hx rfl (hb hby own_dget_2_10) rfl  k))) ?_
  obtain ⟨v7, T7, L7, X7, hQ7, st7⟩ := own_callV X2 hx hZ (y := own_y8) (z := own_y8) (W := 0) (a := a1) hown (own_h hw 183 rfl) (own_h hw 184 rfl) (notFace_of_selects (args := #[]) (mvT hZ (own_h hw 186 rfl))) (own_h hw 186 rfl) (own_h hw 185 rfl) (own_h hw 117 rfl) (own_h hw 187 rfl) (by decide) (own_rmedm_2 l Z a0 hw [] a1 d kd x0 x1 T2.heap n0 Z2 f5 f6) (by decide) (by decide) f3 (g := (mkF m 11 #[rv a1, iv 0] [(.int 0), (.ref a1)])) rfl (by rw [hml]; rfl) (argsL := [(.int 0)]) (rest := []) rfl (lenOf own_pd4 rfl) rfl (by show 2 * 0 + _ ≤ _; exact Nat.le_of_eq rfl) (hb hby own_dget_2_11) rfl (by decide) (by decide)
  obtain ⟨rfl, Nq7, Kq7⟩ := hQ7
  have N7 := Fr.app N2 Nq7
  have f8 := f3.keep Kq7
  have f9 := f4.keep Kq7 nin0
  have f10 := f5.keep Kq7 nin0
  have f11 := f6.keep Kq7 nin0
  have K7 : Keep h0 T7.heap [] := K2.trans Kq7 all0
  have Z7 := Nat.le_trans Z2 Kq7.1
  refine own_s T7 (mkF m 14 #[rv a1, iv 0] [(.ref x0)]) st7 ?_
  exact own_finA X7 hx hret rfl rfl (hb hby own_dget_2_14) (own_end (Qv := (own_Qget_2 Z a1 d kd x0 x1 h0 n0)) X7 (own_some hret) hlk (by decide) (by decide) rfl ⟨rfl, N7, K7⟩)
abbrev own_y10 : MethodName := ⟨"java/util/ImmutableCollections$ListN", "size", "()I"⟩
theorem own_pn5 : plainName "java/util/ImmutableCollections$ListN" = true := by first | (simp [plainName, overriddenIn]; done) | decide +kernel
theorem own_dlsz_0 : decode jdk_45_method_3_code 0 = .ok (.aload_n 0, 1) := by decide +kernel
theorem own_dlsz_1 : decode jdk_45_method_3_code 1 = .ok (.getfield 7, 3) := by decide +kernel
theorem own_dlsz_4 : decode jdk_45_method_3_code 4 = .ok (.arraylength, 1) := by decide +kernel
theorem own_dlsz_5 : decode jdk_45_method_3_code 5 = .ok (.ireturn, 1) := by decide +kernel
theorem own_eflsz (m : MethodId) (x0 : Addr) : entryFrame m #[(.ref x0)] 1 = mkF m 0 #[rv x0] [] := by first | (simp [entryFrame, mkF, argsToLocals, Value.category]; done) | rfl
def own_Qlsz (Z : State) (a1 : Addr) (d : Addr) (kd : ClassId) (h0 : Heap) (n0 : Nat) : Option Value → Heap → List Loc → Prop := fun v h L => v = some (.int 0) ∧ Fr n0 L ∧ Keep h0 h []
def own_Rlsz : Room := { frames := 0, cells := 0, slots := 0, locals := 0 }
set_option maxRecDepth 65536 in
set_option maxHeartbeats 40000000 in
theorem own_rmlsz (l : Launch) (Z : State) (a0 : Array Value) (hw : ∀ d ∈ tables_1, d.before a0 Z = true) (ws : List Jvm.Cond) (a1 : Addr) (d : Addr) (kd : ClassId) (h0 : Heap) (n0 : Nat) (Z0 : n0 ≤ h0.size) (pr0 : Fld Z h0 a1 "java/util/ImmutableCollections$ListN" "elements" "[Ljava/lang/Object;" (.ref d)) (pr1 : Arv Z h0 d kd (.object "java/lang/Object") (0 : Int32) [] .null) :
    own_Met l Z own_y10 jdk_45_method_3_code 1 (some .int) ws own_Rlsz h0 #[(.ref a1)] (own_Qlsz Z a1 d kd h0 n0) own_Rlsz.cells own_Rlsz.slots := by
  refine own_start (plainFor_of_name own_pn5) ?_
  intro p e s m below meth c s₁ X0 hx hZ hby hml hret hlk hown hnm e0
  have hown : s.vm.findClass "java/util/ImmutableCollections$ListN" = some m.cls := hown
  have hml : c.maxLocals = 1 := hml
  have N0 := Fr.nil n0
  refine own_cast (own_eflsz m a1) ?_
  refine own_s s₁ (mkF m 1 #[rv a1] [(.ref a1)]) (fun _ k => XS.aloadN X0.here hx rfl (hb hby own_dlsz_0) rfl rfl k) ?_
  obtain ⟨T1, X1, e1, st1⟩ := getF X0 hx hZ hown (host := "") (Or.inl (own_h hw 108 rfl)) Via.refl e0 pr0 (g := (mkF m 1 #[rv a1] [(.ref a1)])) rfl rfl (hb hby own_dlsz_1)
  refine own_s T1 (mkF m 4 #[rv a1] [(.ref d)]) st1 ?_
  obtain ⟨cl2, Ar2, q2, S2, Nn2, H2, G2⟩ := id pr1
  refine own_s T1 (mkF m 5 #[rv a1] [(.int 0)]) (fun _ k => own_len X1 hx hZ e1 Ar2 S2 Nn2 (g := (mkF m 4 #[rv a1] [(.ref d)])) rfl rfl (hb hby own_dlsz_4) k) ?_
  exact own_finI X1 hx hret (hb hby own_dlsz_5) (own_end (Qv := (own_Qlsz Z a1 d kd h0 n0)) X1 (own_some hret) hlk (by decide) (by decide) e1 ⟨rfl, N0, (Keep.refl h0 [])⟩)
theorem own_pd5 : parseMethodDescriptor "(I)V" = some ⟨[.int], none⟩ := by decide +kernel
theorem own_pd6 : parseMethodDescriptor "(Ljava/lang/Object;)Z" = some ⟨[(.object "java/lang/Object")], some .boolean⟩ := by decide +kernel
abbrev own_y11 : MethodName := ⟨"java/util/List", "add", "(Ljava/lang/Object;)Z"⟩
theorem own_pd7 : parseMethodDescriptor "()I" = some ⟨[], some .int⟩ := by decide +kernel
abbrev own_y12 : MethodName := ⟨"java/util/List", "size", "()I"⟩
abbrev own_y13 : MethodName := ⟨"com/example/tagwright/tagwright/XmlElement", "adopt", "(Lcom/example/tagwright/tagwright/XmlElement;)I"⟩
theorem own_pn6 : plainName "com/example/tagwright/tagwright/XmlElement" = true := by first | (simp [plainName, overriddenIn]; done) | decide +kernel
theorem own_dadp0_0 : decode prog_100_method_33_code 0 = .ok (.aload_n 0, 1) := by decide +kernel
theorem own_dadp0_1 : decode prog_100_method_33_code 1 = .ok (.getfield 13, 3) := by decide +kernel
theorem own_dadp0_4 : decode prog_100_method_33_code 4 = .ok (.getstatic 7, 3) := by decide +kernel
theorem own_dadp0_7 : decode prog_100_method_33_code 7 = .ok (.if_acmp .ne 15, 3) := by decide +kernel
theorem own_dadp0_10 : decode prog_100_method_33_code 10 = .ok (.aload_n 0, 1) := by decide +kernel
theorem own_dadp0_11 : decode prog_100_method_33_code 11 = .ok (.new 94, 3) := by decide +kernel
theorem own_dadp0_14 : decode prog_100_method_33_code 14 = .ok (.dup, 1) := by decide +kernel
theorem own_dadp0_15 : decode prog_100_method_33_code 15 = .ok (.iconst 4, 1) := by decide +kernel
theorem own_dadp0_16 : decode prog_100_method_33_code 16 = .ok (.invokespecial 99, 3) := by decide +kernel
theorem own_dadp0_19 : decode prog_100_method_33_code 19 = .ok (.putfield 13, 3) := by decide +kernel
theorem own_dadp0_22 : decode prog_100_method_33_code 22 = .ok (.aload_n 0, 1) := by decide +kernel
theorem own_dadp0_23 : decode prog_100_method_33_code 23 = .ok (.getfield 13, 3) := by decide +kernel
theorem own_dadp0_26 : decode prog_100_method_33_code 26 = .ok (.aload_n 1, 1) := by decide +kernel
theorem own_dadp0_27 : decode prog_100_method_33_code 27 = .ok (.invokeinterface 120 2, 5) := by decide +kernel
theorem own_dadp0_32 : decode prog_100_method_33_code 32 = .ok (.pop, 1) := by decide +kernel
theorem own_dadp0_33 : decode prog_100_method_33_code 33 = .ok (.aload_n 0, 1) := by decide +kernel
theorem own_dadp0_34 : decode prog_100_method_33_code 34 = .ok (.getfield 13, 3) := by decide +kernel
theorem own_dadp0_37 : decode prog_100_method_33_code 37 = .ok (.invokeinterface 85 1, 5) := by decide +kernel
theorem own_dadp0_42 : decode prog_100_method_33_code 42 = .ok (.iconst 1, 1) := by decide +kernel
theorem own_dadp0_43 : decode prog_100_method_33_code 43 = .ok (.isub, 1) := by decide +kernel
theorem own_dadp0_44 : decode prog_100_method_33_code 44 = .ok (.ireturn, 1) := by decide +kernel
theorem own_efadp0 (m : MethodId) (x0 : Addr) (x1 : Addr) : entryFrame m #[(.ref x0), (.ref x1)] 2 = mkF m 0 #[rv x0, rv x1] [] := by first | (simp [entryFrame, mkF, argsToLocals, Value.category]; done) | rfl
def own_Qadp0 (Z : State) (a1 : Addr) (a2 : Addr) (oN : Addr) (w : Value) (h0 : Heap) (n0 : Nat) : Option Value → Heap → List Loc → Prop := fun v h L => ∃ (li : Addr) (d : Addr) (kd : ClassId), v = some (.int 0) ∧ Fr n0 L ∧ Keep h0 h [a1] ∧ n0 ≤ li ∧ h0.size ≤ li ∧ n0 ≤ d ∧ h0.size ≤ d ∧ Exa Z h a1 "com/example/tagwright/tagwright/XmlElement" ∧ Fld Z h a1 "com/example/tagwright/tagwright/XmlElement" "children" "Ljava/util/List;" (.ref li) ∧ Fld Z h a1 "com/example/tagwright/tagwright/XmlElement" "parent" "Lcom/example/tagwright/tagwright/XmlElement;" w ∧ Exa Z h li "java/util/ArrayList" ∧ Fld Z h li "java/util/AbstractList" "modCount" "I" (.int 1) ∧ Fld Z h li "java/util/ArrayList" "elementData" "[Ljava/lang/Object;" (.ref d) ∧ Fld Z h li "java/util/ArrayList" "size" "I" (.int 1) ∧ Arv Z h d kd (.object "java/lang/Object") (4 : Int32) [(.ref a2), .null, .null, .null] .null ∧ Ovr Z kd "java/lang/Object" ∧ li ≠ d
def own_Radp0 : Room := { frames := 4, cells := 2, slots := 7, locals := 51 }
set_option maxRecDepth 65536 in
set_option maxHeartbeats 40000000 in
theorem own_rmadp0 (l : Launch) (Z : State) (a0 : Array Value) (hw : ∀ d ∈ tables_1, d.before a0 Z = true) (ws : List Jvm.Cond) (a1 : Addr) (a2 : Addr) (oN : Addr) (w : Value) (h0 : Heap) (n0 : Nat) (Z0 : n0 ≤ h0.size) (g_a1 : n0 ≤ a1) (pr1 : Exa Z h0 a1 "com/example/tagwright/tagwright/XmlElement") (pr2 : Fld Z h0 a1 "com/example/tagwright/tagwright/XmlElement" "children" "Ljava/util/List;" (.ref oN)) (pr3 : Fld Z h0 a1 "com/example/tagwright/tagwright/XmlElement" "parent" "Lcom/example/tagwright/tagwright/XmlElement;" w) (pr4 : Sta Z h0 "com/example/tagwright/tagwright/XmlElement" "NO_CHILDREN" "Ljava/util/List;" (.ref oN)) (pr5 : Exa Z h0 a2 "com/example/tagwright/tagwright/XmlElement") (rw : w.isRef = true) :
    own_Met l Z own_y13 prog_100_method_33_code 2 (some .int) ws own_Radp0 h0 #[(.ref a1), (.ref a2)] (own_Qadp0 Z a1 a2 oN w h0 n0) own_Radp0.cells own_Radp0.slots := by
  refine own_start (plainFor_of_name own_pn6) ?_
  intro p e s m below meth c s₁ X0 hx hZ hby hml hret hlk hown hnm e0
  have hown : s.vm.findClass "com/example/tagwright/tagwright/XmlElement" = some m.cls := hown
  have hml : c.maxLocals = 2 := hml
  have N0 := Fr.nil n0
  refine own_cast (own_efadp0 m a1 a2) ?_
  refine own_s s₁ (mkF m 1 #[rv a1, rv a2] [(.ref a1)]) (fun _ k => XS.aloadN X0.here hx rfl (hb hby own_dadp0_0) rfl rfl k) ?_
  obtain ⟨T1, X1, e1, st1⟩ := getF X0 hx hZ hown (host := "") (Or.inl (own_h hw 43 rfl)) Via.refl e0 pr2 (g := (mkF m 1 #[rv a1, rv a2] [(.ref a1)])) rfl rfl (hb hby own_dadp0_1)
  refine own_s T1 (mkF m 4 #[rv a1, rv a2] [(.ref oN)]) st1 ?_
  obtain ⟨T2, X2, e2, st2⟩ := getS2 X1 hx hZ hown (host := "") (Or.inl (own_h hw 41 rfl)) Via.refl e1 pr4 (g := (mkF m 4 #[rv a1, rv a2] [(.ref oN)])) rfl (hb hby own_dadp0_4)
  refine own_s T2 (mkF m 7 #[rv a1, rv a2] [(.ref oN), (.ref oN)]) st2 ?_
  refine own_s T2 (mkF m 11 #[rv a1, rv a2] [(.ref a1)]) (fun _ k => Jvm.RoadKit.acmp (g := (mkF m 7 #[rv a1, rv a2] [(.ref oN), (.ref oN)])) X2 hx rfl rfl rfl (pc0 := 7) (pc' := 10) (same := true) rfl (hb hby own_dadp0_7) rfl (decide_eq_true rfl) (by decide) (by decide) (XS.aloadN X2.here hx rfl (hb hby own_dadp0_10) rfl rfl k)) ?_
  obtain ⟨T3, h3, X3, e3, E3, A3, D3, -, st3⟩ := newO X2 hx hZ hown (own_h hw 115 rfl) (own_h hw 116 rfl) (own_h hw 117 rfl) e2 (g := (mkF m 11 #[rv a1, rv a2] [(.ref a1)])) rfl (hb hby own_dadp0_11) (by decide) (by decide)
  obtain ⟨b3, g3⟩ : ∃ z, z = h0.size := ⟨_, rfl⟩
  have ne_a1_b3 : a1 ≠ b3 := Nat.ne_of_lt (Nat.lt_of_lt_of_le pr1.lt (Nat.le_of_eq g3.symm))
  have ne_a2_b3 : a2 ≠ b3 := Nat.ne_of_lt (Nat.lt_of_lt_of_le pr5.lt (Nat.le_of_eq g3.symm))
  have g_b3 : n0 ≤ b3 := Nat.le_trans Z0 (Nat.le_of_eq g3.symm)
  have sz_b3 : h0.size ≤ b3 := Nat.le_trans (Keep.refl h0 [a1]).1 (Nat.le_of_eq g3.symm)
  rw [← g3] at A3 D3 st3
  have f4 := Exa.ext E3 pr1
  have f5 := Fld.ext E3 pr2
  have f6 := Fld.ext E3 pr3
  have f7 := Sta.ext E3 pr4
  have f8 := Exa.ext E3 pr5
  have K3 : Keep h0 h3 [a1] := (Keep.refl h0 [a1]).ext E3
  have Z3 := Nat.le_trans Z0 E3.1
  have f9 : Fld Z h3 b3 "java/util/AbstractList" "modCount" "I" (.int 0) := D3 (Or.inl (own_h hw 135 rfl)) (ty := .int) (by decide)
  have f10 : Fld Z h3 b3 "java/util/ArrayList" "elementData" "[Ljava/lang/Object;" .null := D3 (Or.inl (own_h hw 139 rfl)) (ty := (.array (.object "java/lang/Object"))) (by decide)
  have f11 : Fld Z h3 b3 "java/util/ArrayList" "size" "I" (.int 0) := D3 (Or.inl (own_h hw 152 rfl)) (ty := .int) (by decide)
  refine own_s T3 (mkF m 14 #[rv a1, rv a2] [(.ref b3), (.ref a1)]) st3 ?_
  refine own_s T3 (mkF m 16 #[rv a1, rv a2] [(.int 4), (.ref b3), (.ref b3), (.ref a1)]) (fun _ k => XS.dup X3.here hx rfl (hb hby own_dadp0_14) rfl rfl (XS.iconst X3.here hx rfl (hb hby own_dadp0_15) k)) ?_
  obtain ⟨v12, T12, L12, X12, hQ12, st12⟩ := own_callI X3 hx hZ (y := own_y2) (W := 2) (a := b3) rfl hown (own_h hw 118 rfl) (own_h hw 119 rfl) (own_h hw 117 rfl) (own_h hw 120 rfl) (by decide) (own_rmali l Z a0 hw [] b3 h3 n0 Z3 g_b3 A3 f9 f10 f11) (by decide) (by decide) (g := (mkF m 16 #[rv a1, rv a2] [(.int 4), (.ref b3), (.ref b3), (.ref a1)])) rfl (by rw [hml]; rfl) (argsL := [(.int 4)]) (rest := [(.ref b3), (.ref a1)]) rfl (lenOf own_pd5 rfl) rfl (by show 2 * 0 + _ ≤ _; exact Nat.le_of_eq rfl) (hb hby own_dadp0_16) e3 (by decide) (by decide)
  obtain ⟨zd12, zkd12, rfl, Nq12, Kq12, g_zd12, sq_zd12, q12_0, q12_1, q12_2, q12_3, q12_4, q12_5, q12_6⟩ := hQ12
  have N12 := Fr.app N0 Nq12
  have ne_a1_zd12 : a1 ≠ zd12 := Nat.ne_of_lt (Nat.lt_of_lt_of_le f4.lt sq_zd12)
  have ne_a2_zd12 : a2 ≠ zd12 := Nat.ne_of_lt (Nat.lt_of_lt_of_le f8.lt sq_zd12)
  have ne_b3_zd12 : b3 ≠ zd12 := Nat.ne_of_lt (Nat.lt_of_lt_of_le A3.lt sq_zd12)
  have sz_zd12 : h0.size ≤ zd12 := Nat.le_trans K3.1 sq_zd12
  have f13 := f4.keep Kq12
  have f14 := f5.keep Kq12 (ninS ne_a1_b3 nin0)
  have f15 := f6.keep Kq12 (ninS ne_a1_b3 nin0)
  have f16 := own_staKeepW f7 Kq12 (allS A3.nostat all0)
  have f17 := f8.keep Kq12
  have f18 := A3.keep Kq12
  have K12 : Keep h0 T12.heap [a1] := K3.trans Kq12 (allS (Or.inr sz_b3) all0)
  have Z12 := Nat.le_trans Z3 Kq12.1
  refine own_s T12 (mkF m 19 #[rv a1, rv a2] [(.ref b3), (.ref a1)]) st12 ?_
  obtain ⟨T19, h19, X19, e19, W19, st19⟩ := putF X12 hx hZ hown (host := "") (Or.inl (own_h hw 43 rfl)) Via.refl rfl f14 f13 (Or.inl (own_h hw 44 rfl)) (own_h hw 33 rfl) (ty := (.object "java/util/List")) (by decide) rfl rfl (g := (mkF m 19 #[rv a1, rv a2] [(.ref b3), (.ref a1)])) rfl rfl (hb hby own_dadp0_19)
  have Fw19 := Fld.same W19 f14
  have f20 := Exa.wr W19 f13
  have f21 := Fld.other W19 f15 (Or.inr (slot_ne (Or.inr (own_h hw 65 rfl)) (Or.inl (own_h hw 44 rfl)) (by decide) (t := (.object "com/example/tagwright/tagwright/XmlElement")) (t' := (.object "java/util/List")) (by decide) (by decide)))
  have f22 := Sta.wr W19 f16
  have f23 := Exa.wr W19 f17
  have f24 := Exa.wr W19 q12_0
  have f25 := Fld.other W19 q12_1 (Or.inl (Ne.symm ne_a1_b3))
  have f26 := Fld.other W19 q12_2 (Or.inl (Ne.symm ne_a1_b3))
  have f27 := Fld.other W19 q12_3 (Or.inl (Ne.symm ne_a1_b3))
  have f28 := q12_4.other W19 (Ne.symm ne_a1_zd12)
  have K19 : Keep h0 h19 [a1] := K12.wr W19 (Or.inl (List.mem_of_getElem? (i := 0) rfl))
  have Z19 := Nat.le_trans Z12 (Nat.le_of_eq W19.size.symm)
  have N19 := Fr.snoc X19 N12 g_a1
  refine own_s T19 (mkF m 22 #[rv a1, rv a2] []) st19 ?_
  refine own_s T19 (mkF m 23 #[rv a1, rv a2] [(.ref a1)]) (fun _ k => XS.aloadN X19.here hx rfl (hb hby own_dadp0_22) rfl rfl k) ?_
  obtain ⟨T29, X29, e29, st29⟩ := getF X19 hx hZ hown (host := "") (Or.inl (own_h hw 43 rfl)) Via.refl e19 Fw19 (g := (mkF m 23 #[rv a1, rv a2] [(.ref a1)])) rfl rfl (hb hby own_dadp0_23)
  refine own_s T29 (mkF m 26 #[rv a1, rv a2] [(.ref b3)]) st29 ?_
  refine own_s T29 (mkF m 27 #[rv a1, rv a2] [(.ref a2), (.ref b3)]) (fun _ k => XS.aloadN X29.here hx rfl (hb hby own_dadp0_26) rfl rfl k) ?_
  obtain ⟨v30, T30, L30, X30, hQ30, st30⟩ := own_callF X29 hx hZ (y := own_y11) (z := own_y4) (W := 0) (a := b3) hown (own_h hw 140 rfl) (own_h hw 141 rfl) (mvT hZ (own_h hw 142 rfl)) (own_h hw 143 rfl) (own_h hw 144 rfl) (own_h hw 145 rfl) (own_h hw 146 rfl) (own_h hw 147 rfl) (own_h hw 117 rfl) (own_h hw 148 rfl) (by decide) (own_rmad_0 l Z a0 hw [] b3 a2 zd12 zkd12 h19 n0 Z19 g_b3 g_zd12 f24 f25 f26 f27 f23 f28 q12_5 q12_6) (by decide) (by decide) f24 (g := (mkF m 27 #[rv a1, rv a2] [(.ref a2), (.ref b3)])) rfl (by rw [hml]; rfl) (argsL := [(.ref a2)]) (rest := []) rfl (lenOf own_pd6 rfl) rfl (by show 2 * 0 + _ ≤ _; exact Nat.le_of_eq rfl) (hb hby own_dadp0_27) e29 (by decide) (by decide)
  obtain ⟨rfl, Nq30, Kq30, q30_0, q30_1, q30_2, q30_3, q30_4⟩ := hQ30
  have N30 := Fr.app N19 Nq30
  have f31 := f20.keep Kq30
  have f32 := Fw19.keep Kq30 (ninS ne_a1_b3 (ninS ne_a1_zd12 nin0))
  have f33 := f21.keep Kq30 (ninS ne_a1_b3 (ninS ne_a1_zd12 nin0))
  have f34 := own_staKeepW f22 Kq30 (allS f24.nostat (allS f28.nostat all0))
  have f35 := f23.keep Kq30
  have f36 := f24.keep Kq30
  have K30 : Keep h0 T30.heap [a1] := K19.trans Kq30 (allS (Or.inr sz_b3) (allS (Or.inr sz_zd12) all0))
  have Z30 := Nat.le_trans Z19 Kq30.1
  refine own_s T30 (mkF m 32 #[rv a1, rv a2] [(.int 1)]) st30 ?_
  refine own_s T30 (mkF m 34 #[rv a1, rv a2] [(.ref a1)]) (fun _ k => XS.pop X30.here hx rfl (hb hby own_dadp0_32) rfl rfl (XS.aloadN X30.here hx rfl (hb hby own_dadp0_33) rfl rfl k)) ?_
  obtain ⟨T37, X37, e37, st37⟩ := getF X30 hx hZ hown (host := "") (Or.inl (own_h hw 43 rfl)) Via.refl rfl f32 (g := (mkF m 34 #[rv a1, rv a2] [(.ref a1)])) rfl rfl (hb hby own_dadp0_34)
  refine own_s T37 (mkF m 37 #[rv a1, rv a2] [(.ref b3)]) st37 ?_
  obtain ⟨v38, T38, L38, X38, hQ38, st38⟩ := own_callF X37 hx hZ (y := own_y12) (z := own_y5) (W := 0) (a := b3) hown (own_h hw 159 rfl) (own_h hw 99 rfl) (mvT hZ (own_h hw 100 rfl)) (own_h hw 160 rfl) (own_h hw 161 rfl) (own_h hw 162 rfl) (own_h hw 163 rfl) (own_h hw 147 rfl) (own_h hw 117 rfl) (own_h hw 164 rfl) (by decide) (own_rmalsz l Z a0 hw [] b3 (1 : Int32) T30.heap n0 Z30 q30_3) (by decide) (by decide) q30_0 (g := (mkF m 37 #[rv a1, rv a2] [(.ref b3)])) rfl (by rw [hml]; rfl) (argsL := []) (rest := []) rfl (lenOf own_pd7 rfl) rfl (by show 2 * 0 + _ ≤ _; exact Nat.le_of_eq rfl) (hb hby own_dadp0_37) e37 (by decide) (by decide)
  obtain ⟨rfl, Nq38, e38⟩ := hQ38
  have N38 := Fr.app N30 Nq38
  refine own_s T38 (mkF m 42 #[rv a1, rv a2] [(.int 1)]) st38 ?_
  refine own_s T38 (mkF m 44 #[rv a1, rv a2] [(.int 0)]) (fun _ k => XS.iconst X38.here hx rfl (hb hby own_dadp0_42) (XS.isub X38.here hx rfl (hb hby own_dadp0_43) rfl k)) ?_
  exact own_finI X38 hx hret (hb hby own_dadp0_44) (own_end (Qv := (own_Qadp0 Z a1 a2 oN w h0 n0)) X38 (own_some hret) hlk (by decide) (by decide) e38 ⟨b3, zd12, zkd12, rfl, N38, K30, g_b3, sz_b3, g_zd12, sz_zd12, f31, f32, f33, q30_0, q30_1, q30_2, q30_3, q30_4, q12_5, q12_6⟩)
theorem own_dadp1_0 : decode prog_100_method_33_code 0 = .ok (.aload_n 0, 1) := by decide +kernel
theorem own_dadp1_1 : decode prog_100_method_33_code 1 = .ok (.getfield 13, 3) := by decide +kernel
theorem own_dadp1_4 : decode prog_100_method_33_code 4 = .ok (.getstatic 7, 3) := by decide +kernel
theorem own_dadp1_7 : decode prog_100_method_33_code 7 = .ok (.if_acmp .ne 15, 3) := by decide +kernel
theorem own_dadp1_22 : decode prog_100_method_33_code 22 = .ok (.aload_n 0, 1) := by decide +kernel
theorem own_dadp1_23 : decode prog_100_method_33_code 23 = .ok (.getfield 13, 3) := by decide +kernel
theorem own_dadp1_26 : decode prog_100_method_33_code 26 = .ok (.aload_n 1, 1) := by decide +kernel
theorem own_dadp1_27 : decode prog_100_method_33_code 27 = .ok (.invokeinterface 120 2, 5) := by decide +kernel
theorem own_dadp1_32 : decode prog_100_method_33_code 32 = .ok (.pop, 1) := by decide +kernel
theorem own_dadp1_33 : decode prog_100_method_33_code 33 = .ok (.aload_n 0, 1) := by decide +kernel
theorem own_dadp1_34 : decode prog_100_method_33_code 34 = .ok (.getfield 13, 3) := by decide +kernel
theorem own_dadp1_37 : decode prog_100_method_33_code 37 = .ok (.invokeinterface 85 1, 5) := by decide +kernel
theorem own_dadp1_42 : decode prog_100_method_33_code 42 = .ok (.iconst 1, 1) := by decide +kernel
theorem own_dadp1_43 : decode prog_100_method_33_code 43 = .ok (.isub, 1) := by decide +kernel
theorem own_dadp1_44 : decode prog_100_method_33_code 44 = .ok (.ireturn, 1) := by decide +kernel
theorem own_efadp1 (m : MethodId) (x0 : Addr) (x1 : Addr) : entryFrame m #[(.ref x0), (.ref x1)] 2 = mkF m 0 #[rv x0, rv x1] [] := by first | (simp [entryFrame, mkF, argsToLocals, Value.category]; done) | rfl
def own_Qadp1 (Z : State) (a1 : Addr) (a2 : Addr) (oN : Addr) (li : Addr) (d : Addr) (kd : ClassId) (x0 : Addr) (h0 : Heap) (n0 : Nat) : Option Value → Heap → List Loc → Prop := fun v h L => v = some (.int 1) ∧ Fr n0 L ∧ Keep h0 h [li, d] ∧ Exa Z h li "java/util/ArrayList" ∧ Fld Z h li "java/util/AbstractList" "modCount" "I" (.int 2) ∧ Fld Z h li "java/util/ArrayList" "elementData" "[Ljava/lang/Object;" (.ref d) ∧ Fld Z h li "java/util/ArrayList" "size" "I" (.int 2) ∧ Arv Z h d kd (.object "java/lang/Object") (4 : Int32) [(.ref x0), (.ref a2), .null, .null] .null
def own_Radp1 : Room := { frames := 2, cells := 0, slots := 0, locals := 28 }
set_option maxRecDepth 65536 in
set_option maxHeartbeats 40000000 in
theorem own_rmadp1 (l : Launch) (Z : State) (a0 : Array Value) (hw : ∀ d ∈ tables_1, d.before a0 Z = true) (ws : List Jvm.Cond) (a1 : Addr) (a2 : Addr) (oN : Addr) (li : Addr) (d : Addr) (kd : ClassId) (x0 : Addr) (h0 : Heap) (n0 : Nat) (Z0 : n0 ≤ h0.size) (pr0 : Exa Z h0 a1 "com/example/tagwright/tagwright/XmlElement") (pr1 : Sta Z h0 "com/example/tagwright/tagwright/XmlElement" "NO_CHILDREN" "Ljava/util/List;" (.ref oN)) (pr2 : Exa Z h0 a2 "com/example/tagwright/tagwright/XmlElement") (g_li : n0 ≤ li) (g_d : n0 ≤ d) (pr5 : Fld Z h0 a1 "com/example/tagwright/tagwright/XmlElement" "children" "Ljava/util/List;" (.ref li)) (pr6 : Exa Z h0 li "java/util/ArrayList") (pr7 : Fld Z h0 li "java/util/AbstractList" "modCount" "I" (.int 1)) (pr8 : Fld Z h0 li "java/util/ArrayList" "elementData" "[Ljava/lang/Object;" (.ref d)) (pr9 : Fld Z h0 li "java/util/ArrayList" "size" "I" (.int 1)) (pr10 : Arv Z h0 d kd (.object "java/lang/Object") (4 : Int32) [(.ref x0), .null, .null, .null] .null) (pr11 : Ovr Z kd "java/lang/Object") (pr12 : li ≠ d) (pr13 : li ≠ oN) (pr14 : a1 ≠ li) (pr15 : a1 ≠ d) :
    own_Met l Z own_y13 prog_100_method_33_code 2 (some .int) ws own_Radp1 h0 #[(.ref a1), (.ref a2)] (own_Qadp1 Z a1 a2 oN li d kd x0 h0 n0) own_Radp1.cells own_Radp1.slots := by
  refine own_start (plainFor_of_name own_pn6) ?_
  intro p e s m below meth c s₁ X0 hx hZ hby hml hret hlk hown hnm e0
  have hown : s.vm.findClass "com/example/tagwright/tagwright/XmlElement" = some m.cls := hown
  have hml : c.maxLocals = 2 := hml
  have N0 := Fr.nil n0
  refine own_cast (own_efadp1 m a1 a2) ?_
  refine own_s s₁ (mkF m 1 #[rv a1, rv a2] [(.ref a1)]) (fun _ k => XS.aloadN X0.here hx rfl (hb hby own_dadp1_0) rfl rfl k) ?_
  obtain ⟨T1, X1, e1, st1⟩ := getF X0 hx hZ hown (host := "") (Or.inl (own_h hw 43 rfl)) Via.refl e0 pr5 (g := (mkF m 1 #[rv a1, rv a2] [(.ref a1)])) rfl rfl (hb hby own_dadp1_1)
  refine own_s T1 (mkF m 4 #[rv a1, rv a2] [(.ref li)]) st1 ?_
  obtain ⟨T2, X2, e2, st2⟩ := getS2 X1 hx hZ hown (host := "") (Or.inl (own_h hw 41 rfl)) Via.refl e1 pr1 (g := (mkF m 4 #[rv a1, rv a2] [(.ref li)])) rfl (hb hby own_dadp1_4)
  refine own_s T2 (mkF m 7 #[rv a1, rv a2] [(.ref oN), (.ref li)]) st2 ?_
  refine own_s T2 (mkF m 23 #[rv a1, rv a2] [(.ref a1)]) (fun _ k => Jvm.RoadKit.acmp (g := (mkF m 7 #[rv a1, rv a2] [(.ref oN), (.ref li)])) X2 hx rfl rfl rfl (pc0 := 7) (pc' := 22) (same := false) rfl (hb hby own_dadp1_7) rfl (decide_eq_false fun q => pr13 (Value.ref.inj q)) (by decide) (by decide) (XS.aloadN X2.here hx rfl (hb hby own_dadp1_22) rfl rfl k)) ?_
  obtain ⟨T3, X3, e3, st3⟩ := getF X2 hx hZ hown (host := "") (Or.inl (own_h hw 43 rfl)) Via.refl e2 pr5 (g := (mkF m 23 #[rv a1, rv a2] [(.ref a1)])) rfl rfl (hb hby own_dadp1_23)
  refine own_s T3 (mkF m 26 #[rv a1, rv a2] [(.ref li)]) st3 ?_
  refine own_s T3 (mkF m 27 #[rv a1, rv a2] [(.ref a2), (.ref li)]) (fun _ k => XS.aloadN X3.here hx rfl (hb hby own_dadp1_26) rfl rfl k) ?_
  obtain ⟨v4, T4, L4, X4, hQ4, st4⟩ := own_callF X3 hx hZ (y := own_y11) (z := own_y4) (W := 0) (a := li) hown (own_h hw 140 rfl) (own_h hw 141 rfl) (mvT hZ (own_h hw 142 rfl)) (own_h hw 143 rfl) (own_h hw 144 rfl) (own_h hw 145 rfl) (own_h hw 146 rfl) (own_h hw 147 rfl) (own_h hw 117 rfl) (own_h hw 148 rfl) (by decide) (own_rmad_1 l Z a0 hw [] li a2 d kd x0 h0 n0 Z0 g_li g_d pr6 pr7 pr8 pr9 pr2 pr10 pr11 pr12) (by decide) (by decide) pr6 (g := (mkF m 27 #[rv a1, rv a2] [(.ref a2), (.ref li)])) rfl (by rw [hml]; rfl) (argsL := [(.ref a2)]) (rest := []) rfl (lenOf own_pd6 rfl) rfl (by show 2 * 0 + _ ≤ _; exact Nat.le_of_eq rfl) (hb hby own_dadp1_27) e3 (by decide) (by decide)
  obtain ⟨rfl, Nq4, Kq4, q4_0, q4_1, q4_2, q4_3, q4_4⟩ := hQ4
  have N4 := Fr.app N0 Nq4
  have f5 := pr0.keep Kq4
  have f6 := own_staKeepW pr1 Kq4 (allS pr6.nostat (allS pr10.nostat all0))
  have f7 := pr2.keep Kq4
  have f8 := pr5.keep Kq4 (ninS pr14 (ninS pr15 nin0))
  have f9 := pr6.keep Kq4
  have K4 : Keep h0 T4.heap [li, d] := (Keep.refl h0 [li, d]).trans Kq4 (allS (Or.inl (List.mem_of_getElem? (i := 0) rfl)) (allS (Or.inl (List.mem_of_getElem? (i := 1) rfl)) all0))
  have Z4 := Nat.le_trans Z0 Kq4.1
  refine own_s T4 (mkF m 32 #[rv a1, rv a2] [(.int 1)]) st4 ?_
  refine own_s T4 (mkF m 34 #[rv a1, rv a2] [(.ref a1)]) (fun _ k => XS.pop X4.here hx rfl (hb hby own_dadp1_32) rfl rfl (XS.aloadN X4.here hx rfl (hb hby own_dadp1_33) rfl rfl k)) ?_
  obtain ⟨T10, X10, e10, st10⟩ := getF X4 hx hZ hown (host := "") (Or.inl (own_h hw 43 rfl)) Via.refl rfl f8 (g := (mkF m 34 #[rv a1, rv a2] [(.ref a1)])) rfl rfl (hb hby own_dadp1_34)
  refine own_s T10 (mkF m 37 #[rv a1, rv a2] [(.ref li)]) st10 ?_
  obtain ⟨v11, T11, L11, X11, hQ11, st11⟩ := own_callF X10 hx hZ (y := own_y12) (z := own_y5) (W := 0) (a := li) hown (own_h hw 159 rfl) (own_h hw 99 rfl) (mvT hZ (own_h hw 100 rfl)) (own_h hw 160 rfl) (own_h hw 161 rfl) (own_h hw 162 rfl) (own_h hw 163 rfl) (own_h hw 147 rfl) (own_h hw 117 rfl) (own_h hw 164 rfl) (by decide) (own_rmalsz l Z a0 hw [] li (2 : Int32) T4.heap n0 Z4 q4_3) (by decide) (by decide) q4_0 (g := (mkF m 37 #[rv a1, rv a2] [(.ref li)])) rfl (by rw [hml]; rfl) (argsL := []) (rest := []) rfl (lenOf own_pd7 rfl) rfl (by show 2 * 0 + _ ≤ _; exact Nat.le_of_eq rfl) (hb hby own_dadp1_37) e10 (by decide) (by decide)
  obtain ⟨rfl, Nq11, e11⟩ := hQ11
  have N11 := Fr.app N4 Nq11
  refine own_s T11 (mkF m 42 #[rv a1, rv a2] [(.int 2)]) st11 ?_
  refine own_s T11 (mkF m 44 #[rv a1, rv a2] [(.int 1)]) (fun _ k => XS.iconst X11.here hx rfl (hb hby own_dadp1_42) (XS.isub X11.here hx rfl (hb hby own_dadp1_43) rfl k)) ?_
  exact own_finI X11 hx hret (hb hby own_dadp1_44) (own_end (Qv := (own_Qadp1 Z a1 a2 oN li d kd x0 h0 n0)) X11 (own_some hret) hlk (by decide) (by decide) e11 ⟨rfl, N11, K4, q4_0, q4_1, q4_2, q4_3, q4_4⟩)
abbrev own_y14 : MethodName := ⟨"com/example/tagwright/tagwright/XmlElement", "isNamespaced", "([Ljava/lang/String;)Z"⟩
theorem own_disn_0 : decode prog_100_method_5_code 0 = .ok (.aload_n 0, 1) := by decide +kernel
theorem own_disn_1 : decode prog_100_method_5_code 1 = .ok (.arraylength, 1) := by decide +kernel
theorem own_disn_2 : decode prog_100_method_5_code 2 = .ok (.iconst 2, 1) := by decide +kernel
theorem own_disn_3 : decode prog_100_method_5_code 3 = .ok (.irem, 1) := by decide +kernel
theorem own_disn_4 : decode prog_100_method_5_code 4 = .ok (.iconst 1, 1) := by decide +kernel
theorem own_disn_5 : decode prog_100_method_5_code 5 = .ok (.if_icmp .ne 7, 3) := by decide +kernel
theorem own_disn_12 : decode prog_100_method_5_code 12 = .ok (.iconst 0, 1) := by decide +kernel
theorem own_disn_13 : decode prog_100_method_5_code 13 = .ok (.ireturn, 1) := by decide +kernel
theorem own_efisn (m : MethodId) (x0 : Addr) : entryFrame m #[(.ref x0)] 1 = mkF m 0 #[rv x0] [] := by first | (simp [entryFrame, mkF, argsToLocals, Value.category]; done) | rfl
def own_Qisn (Z : State) (a4 : Addr) (ka : ClassId) (h0 : Heap) (n0 : Nat) : Option Value → Heap → List Loc → Prop := fun v h L => v = some (.int 0) ∧ Fr n0 L ∧ Keep h0 h []
def own_Risn : Room := { frames := 0, cells := 0, slots := 0, locals := 0 }
set_option maxRecDepth 65536 in
set_option maxHeartbeats 40000000 in
theorem own_rmisn (l : Launch) (Z : State) (a0 : Array Value) (hw : ∀ d ∈ tables_1, d.before a0 Z = true) (ws : List Jvm.Cond) (a4 : Addr) (ka : ClassId) (h0 : Heap) (n0 : Nat) (Z0 : n0 ≤ h0.size) (pr0 : Arv Z h0 a4 ka (.object "java/lang/String") (0 : Int32) [] .null) :
    own_Met l Z own_y14 prog_100_method_5_code 1 (some .boolean) ws own_Risn h0 #[(.ref a4)] (own_Qisn Z a4 ka h0 n0) own_Risn.cells own_Risn.slots := by
  refine own_start (plainFor_of_name own_pn6) ?_
  intro p e s m below meth c s₁ X0 hx hZ hby hml hret hlk hown hnm e0
  have hown : s.vm.findClass "com/example/tagwright/tagwright/XmlElement" = some m.cls := hown
  have hml : c.maxLocals = 1 := hml
  have N0 := Fr.nil n0
  refine own_cast (own_efisn m a4) ?_
  refine own_s s₁ (mkF m 1 #[rv a4] [(.ref a4)]) (fun _ k => XS.aloadN X0.here hx rfl (hb hby own_disn_0) rfl rfl k) ?_
  obtain ⟨cl1, Ar1, q1, S1, Nn1, H1, G1⟩ := id pr0
  refine own_s s₁ (mkF m 12 #[rv a4] []) (fun _ k => own_len X0 hx hZ e0 Ar1 S1 Nn1 (g := (mkF m 1 #[rv a4] [(.ref a4)])) rfl rfl (hb hby own_disn_1) (XS.iconst X0.here hx rfl (hb hby own_disn_2) (iremM X0 hx rfl (hb hby own_disn_3) rfl (by decide) (XS.iconst X0.here hx rfl (hb hby own_disn_4) (XS.icmpYes X0.here hx rfl (pc0 := 5) (pc' := 12) rfl (hb hby own_disn_5) rfl (feq (by decide)).2 (by decide) (by decide) k))))) ?_
  refine own_s s₁ (mkF m 13 #[rv a4] [(.int 0)]) (fun _ k => XS.iconst X0.here hx rfl (hb hby own_disn_12) k) ?_
  exact own_finZ X0 hx (t := .boolean) hret (by simp) (z' := (0 : Int32)) rfl (hb hby own_disn_13) (own_end (Qv := (own_Qisn Z a4 ka h0 n0)) X0 (own_some hret) hlk (by decide) (by decide) e0 ⟨rfl, N0, (Keep.refl h0 [])⟩)
theorem own_pd8 : parseMethodDescriptor "([Ljava/lang/String;)Z" = some ⟨[(.array (.object "java/lang/String"))], some .boolean⟩ := by decide +kernel
abbrev own_y15 : MethodName := ⟨"com/example/tagwright/tagwright/XmlElement", "<init>", "(Ljava/lang/String;Ljava/lang/String;Ljava/lang/String;Ljava/util/List;[Ljava/lang/String;Lcom/example/tagwright/tagwright/Location;Lcom/example/tagwright/tagwright/XmlElement;)V"⟩
theorem own_dxi0_0 : decode prog_100_method_1_code 0 = .ok (.aload_n 0, 1) := by decide +kernel
theorem own_dxi0_1 : decode prog_100_method_1_code 1 = .ok (.invokespecial 1, 3) := by decide +kernel
theorem own_dxi0_4 : decode prog_100_method_1_code 4 = .ok (.aload_n 0, 1) := by decide +kernel
theorem own_dxi0_5 : decode prog_100_method_1_code 5 = .ok (.getstatic 7, 3) := by decide +kernel
theorem own_dxi0_8 : decode prog_100_method_1_code 8 = .ok (.putfield 13, 3) := by decide +kernel
theorem own_dxi0_11 : decode prog_100_method_1_code 11 = .ok (.aload_n 0, 1) := by decide +kernel
theorem own_dxi0_12 : decode prog_100_method_1_code 12 = .ok (.aload_n 1, 1) := by decide +kernel
theorem own_dxi0_13 : decode prog_100_method_1_code 13 = .ok (.putfield 16, 3) := by decide +kernel
theorem own_dxi0_16 : decode prog_100_method_1_code 16 = .ok (.aload_n 0, 1) := by decide +kernel
theorem own_dxi0_17 : decode prog_100_method_1_code 17 = .ok (.aload_n 2, 1) := by decide +kernel
theorem own_dxi0_18 : decode prog_100_method_1_code 18 = .ok (.putfield 20, 3) := by decide +kernel
theorem own_dxi0_21 : decode prog_100_method_1_code 21 = .ok (.aload_n 0, 1) := by decide +kernel
theorem own_dxi0_22 : decode prog_100_method_1_code 22 = .ok (.aload_n 3, 1) := by decide +kernel
theorem own_dxi0_23 : decode prog_100_method_1_code 23 = .ok (.putfield 23, 3) := by decide +kernel
theorem own_dxi0_26 : decode prog_100_method_1_code 26 = .ok (.aload_n 0, 1) := by decide +kernel
theorem own_dxi0_27 : decode prog_100_method_1_code 27 = .ok (.aload 4, 2) := by decide +kernel
theorem own_dxi0_29 : decode prog_100_method_1_code 29 = .ok (.putfield 26, 3) := by decide +kernel
theorem own_dxi0_32 : decode prog_100_method_1_code 32 = .ok (.aload_n 0, 1) := by decide +kernel
theorem own_dxi0_33 : decode prog_100_method_1_code 33 = .ok (.aload 5, 2) := by decide +kernel
theorem own_dxi0_35 : decode prog_100_method_1_code 35 = .ok (.arraylength, 1) := by decide +kernel
theorem own_dxi0_36 : decode prog_100_method_1_code 36 = .ok (.ifCond .ne 9, 3) := by decide +kernel
theorem own_dxi0_39 : decode prog_100_method_1_code 39 = .ok (.getstatic 29, 3) := by decide +kernel
theorem own_dxi0_42 : decode prog_100_method_1_code 42 = .ok (.goto 5, 3) := by decide +kernel
theorem own_dxi0_47 : decode prog_100_method_1_code 47 = .ok (.putfield 33, 3) := by decide +kernel
theorem own_dxi0_50 : decode prog_100_method_1_code 50 = .ok (.aload_n 0, 1) := by decide +kernel
theorem own_dxi0_51 : decode prog_100_method_1_code 51 = .ok (.aload 5, 2) := by decide +kernel
theorem own_dxi0_53 : decode prog_100_method_1_code 53 = .ok (.invokestatic 36, 3) := by decide +kernel
theorem own_dxi0_56 : decode prog_100_method_1_code 56 = .ok (.ifCond .eq 7, 3) := by decide +kernel
theorem own_dxi0_63 : decode prog_100_method_1_code 63 = .ok (.iconst 2, 1) := by decide +kernel
theorem own_dxi0_64 : decode prog_100_method_1_code 64 = .ok (.i2b, 1) := by decide +kernel
theorem own_dxi0_65 : decode prog_100_method_1_code 65 = .ok (.putfield 40, 3) := by decide +kernel
theorem own_dxi0_68 : decode prog_100_method_1_code 68 = .ok (.aload_n 0, 1) := by decide +kernel
theorem own_dxi0_69 : decode prog_100_method_1_code 69 = .ok (.aload 6, 2) := by decide +kernel
theorem own_dxi0_71 : decode prog_100_method_1_code 71 = .ok (.putfield 44, 3) := by decide +kernel
theorem own_dxi0_74 : decode prog_100_method_1_code 74 = .ok (.aload_n 0, 1) := by decide +kernel
theorem own_dxi0_75 : decode prog_100_method_1_code 75 = .ok (.aload 7, 2) := by decide +kernel
theorem own_dxi0_77 : decode prog_100_method_1_code 77 = .ok (.putfield 48, 3) := by decide +kernel
theorem own_dxi0_80 : decode prog_100_method_1_code 80 = .ok (.aload_n 0, 1) := by decide +kernel
theorem own_dxi0_81 : decode prog_100_method_1_code 81 = .ok (.aload 7, 2) := by decide +kernel
theorem own_dxi0_83 : decode prog_100_method_1_code 83 = .ok (.ifnonnull 7, 3) := by decide +kernel
theorem own_dxi0_86 : decode prog_100_method_1_code 86 = .ok (.iconst 0, 1) := by decide +kernel
theorem own_dxi0_87 : decode prog_100_method_1_code 87 = .ok (.goto 9, 3) := by decide +kernel
theorem own_dxi0_96 : decode prog_100_method_1_code 96 = .ok (.putfield 56, 3) := by decide +kernel
theorem own_dxi0_99 : decode prog_100_method_1_code 99 = .ok (.return_, 1) := by decide +kernel
theorem own_efxi0 (m : MethodId) (x0 : Addr) (x2 : Addr) (x3 : Addr) (x5 : Addr) : entryFrame m #[(.ref x0), .null, (.ref x2), (.ref x3), .null, (.ref x5), .null, .null] 8 = mkF m 0 #[rv x0, .val .null, rv x2, rv x3, .val .null, rv x5, .val .null, .val .null] [] := by first | (simp [entryFrame, mkF, argsToLocals, Value.category]; done) | rfl
def own_Qxi0 (Z : State) (a1 : Addr) (a2 : Addr) (a3 : Addr) (a4 : Addr) (oN : Addr) (oA : Addr) (ka : ClassId) (h0 : Heap) (n0 : Nat) : Option Value → Heap → List Loc → Prop := fun v h L => v = none ∧ Fr n0 L ∧ Keep h0 h [a1] ∧ Exa Z h a1 "com/example/tagwright/tagwright/XmlElement" ∧ Fld Z h a1 "com/example/tagwright/tagwright/XmlElement" "children" "Ljava/util/List;" (.ref oN) ∧ Fld Z h a1 "com/example/tagwright/tagwright/XmlElement" "parent" "Lcom/example/tagwright/tagwright/XmlElement;" .null
def own_Rxi0 : Room := { frames := 1, cells := 0, slots := 0, locals := 13 }
set_option maxRecDepth 65536 in
set_option maxHeartbeats 40000000 in
theorem own_rmxi0 (l : Launch) (Z : State) (a0 : Array Value) (hw : ∀ d ∈ tables_1, d.before a0 Z = true) (ws : List Jvm.Cond) (a1 : Addr) (a2 : Addr) (a3 : Addr) (a4 : Addr) (oN : Addr) (oA : Addr) (ka : ClassId) (h0 : Heap) (n0 : Nat) (Z0 : n0 ≤ h0.size) (g_a1 : n0 ≤ a1) (pr1 : Exa Z h0 a1 "com/example/tagwright/tagwright/XmlElement") (pr2 : Fld Z h0 a1 "com/example/tagwright/tagwright/XmlElement" "children" "Ljava/util/List;" .null) (pr3 : Fld Z h0 a1 "com/example/tagwright/tagwright/XmlElement" "namespace" "Ljava/lang/String;" .null) (pr4 : Fld Z h0 a1 "com/example/tagwright/tagwright/XmlElement" "localName" "Ljava/lang/String;" .null) (pr5 : Fld Z h0 a1 "com/example/tagwright/tagwright/XmlElement" "tagName" "Ljava/lang/String;" .null) (pr6 : Fld Z h0 a1 "com/example/tagwright/tagwright/XmlElement" "declarations" "Ljava/util/List;" .null) (pr7 : Fld Z h0 a1 "com/example/tagwright/tagwright/XmlElement" "attributes" "[Ljava/lang/String;" .null) (pr8 : Fld Z h0 a1 "com/example/tagwright/tagwright/XmlElement" "stride" "B" (.int 0)) (pr9 : Fld Z h0 a1 "com/example/tagwright/tagwright/XmlElement" "location" "Lcom/example/tagwright/tagwright/Location;" .null) (pr10 : Fld Z h0 a1 "com/example/tagwright/tagwright/XmlElement" "parent" "Lcom/example/tagwright/tagwright/XmlElement;" .null) (pr11 : Fld Z h0 a1 "com/example/tagwright/tagwright/XmlElement" "index" "I" (.int 0)) (pr12 : Sta Z h0 "com/example/tagwright/tagwright/XmlElement" "NO_CHILDREN" "Ljava/util/List;" (.ref oN)) (pr13 : Sta Z h0 "com/example/tagwright/tagwright/XmlElement" "NO_ATTRIBUTES" "[Ljava/lang/String;" (.ref oA)) (pr14 : Arv Z h0 a4 ka (.object "java/lang/String") (0 : Int32) [] .null) (pr15 : a1 ≠ a4) :
    own_Met l Z own_y15 prog_100_method_1_code 8 none ws own_Rxi0 h0 #[(.ref a1), .null, (.ref a2), (.ref a3), .null, (.ref a4), .null, .null] (own_Qxi0 Z a1 a2 a3 a4 oN oA ka h0 n0) own_Rxi0.cells own_Rxi0.slots := by
  refine own_start (plainFor_of_name own_pn6) ?_
  intro p e s m below meth c s₁ X0 hx hZ hby hml hret hlk hown hnm e0
  have hown : s.vm.findClass "com/example/tagwright/tagwright/XmlElement" = some m.cls := hown
  have hml : c.maxLocals = 8 := hml
  have N0 := Fr.nil n0
  refine own_cast (own_efxi0 m a1 a2 a3 a4) ?_
  refine own_s s₁ (mkF m 1 #[rv a1, .val .null, rv a2, rv a3, .val .null, rv a4, .val .null, .val .null] [(.ref a1)]) (fun _ k => XS.aloadN X0.here hx rfl (hb hby own_dxi0_0) rfl rfl k) ?_
  obtain ⟨T1, X1, e1, st1⟩ := initO X0 hx hZ hown (own_h hw 40 rfl) (own_h hw 8 rfl) (own_h hw 9 rfl) e0 (g := (mkF m 1 #[rv a1, .val .null, rv a2, rv a3, .val .null, rv a4, .val .null, .val .null] [(.ref a1)])) rfl (by rw [hml]; rfl) rfl (hb hby own_dxi0_1) (by decide) (W := 0) (by show 2 * 0 + _ ≤ _; exact Nat.le_of_eq rfl) (by decide)
  refine own_s T1 (mkF m 4 #[rv a1, .val .null, rv a2, rv a3, .val .null, rv a4, .val .null, .val .null] []) st1 ?_
  refine own_s T1 (mkF m 5 #[rv a1, .val .null, rv a2, rv a3, .val .null, rv a4, .val .null, .val .null] [(.ref a1)]) (fun _ k => XS.aloadN X1.here hx rfl (hb hby own_dxi0_4) rfl rfl k) ?_
  obtain ⟨T2, X2, e2, st2⟩ := getS2 X1 hx hZ hown (host := "") (Or.inl (own_h hw 41 rfl)) Via.refl e1 pr12 (g := (mkF m 5 #[rv a1, .val .null, rv a2, rv a3, .val .null, rv a4, .val .null, .val .null] [(.ref a1)])) rfl (hb hby own_dxi0_5)
  refine own_s T2 (mkF m 8 #[rv a1, .val .null, rv a2, rv a3, .val .null, rv a4, .val .null, .val .null] [(.ref oN), (.ref a1)]) st2 ?_
  obtain ⟨T3, h3, X3, e3, W3, st3⟩ := putF X2 hx hZ hown (host := "") (Or.inl (own_h hw 43 rfl)) Via.refl e2 pr2 pr1 (Or.inl (own_h hw 44 rfl)) (own_h hw 33 rfl) (ty := (.object "java/util/List")) (by decide) rfl rfl (g := (mkF m 8 #[rv a1, .val .null, rv a2, rv a3, .val .null, rv a4, .val .null, .val .null] [(.ref oN), (.ref a1)])) rfl rfl (hb hby own_dxi0_8)
  have Fw3 := Fld.same W3 pr2
  have f4 := Exa.wr W3 pr1
  have f5 := Fld.other W3 pr3 (Or.inr (slot_ne (Or.inr (own_h hw 46 rfl)) (Or.inl (own_h hw 44 rfl)) (by decide) (t := (.object "java/lang/String")) (t' := (.object "java/util/List")) (by decide) (by decide)))
  have f6 := Fld.other W3 pr4 (Or.inr (slot_ne (Or.inr (own_h hw 48 rfl)) (Or.inl (own_h hw 44 rfl)) (by decide) (t := (.object "java/lang/String")) (t' := (.object "java/util/List")) (by decide) (by decide)))
  have f7 := Fld.other W3 pr5 (Or.inr (slot_ne (Or.inr (own_h hw 50 rfl)) (Or.inl (own_h hw 44 rfl)) (by decide) (t := (.object "java/lang/String")) (t' := (.object "java/util/List")) (by decide) (by decide)))
  have f8 := Fld.other W3 pr6 (Or.inr (slot_ne (Or.inr (own_h hw 52 rfl)) (Or.inl (own_h hw 44 rfl)) (by decide) (t := (.object "java/util/List")) (t' := (.object "java/util/List")) (by decide) (by decide)))
  have f9 := Fld.other W3 pr7 (Or.inr (slot_ne (Or.inr (own_h hw 56 rfl)) (Or.inl (own_h hw 44 rfl)) (by decide) (t := (.array (.object "java/lang/String"))) (t' := (.object "java/util/List")) (by decide) (by decide)))
  have f10 := Fld.other W3 pr8 (Or.inr (slot_ne (Or.inr (own_h hw 61 rfl)) (Or.inl (own_h hw 44 rfl)) (by decide) (t := .byte) (t' := (.object "java/util/List")) (by decide) (by decide)))
  have f11 := Fld.other W3 pr9 (Or.inr (slot_ne (Or.inr (own_h hw 63 rfl)) (Or.inl (own_h hw 44 rfl)) (by decide) (t := (.object "com/example/tagwright/tagwright/Location")) (t' := (.object "java/util/List")) (by decide) (by decide)))
  have f12 := Fld.other W3 pr10 (Or.inr (slot_ne (Or.inr (own_h hw 65 rfl)) (Or.inl (own_h hw 44 rfl)) (by decide) (t := (.object "com/example/tagwright/tagwright/XmlElement")) (t' := (.object "java/util/List")) (by decide) (by decide)))
  have f13 := Fld.other W3 pr11 (Or.inr (slot_ne (Or.inr (own_h hw 67 rfl)) (Or.inl (own_h hw 44 rfl)) (by decide) (t := .int) (t' := (.object "java/util/List")) (by decide) (by decide)))
  have f14 := Sta.wr W3 pr12
  have f15 := Sta.wr W3 pr13
  have f16 := pr14.other W3 (Ne.symm pr15)
  have K3 : Keep h0 h3 [a1] := (Keep.refl h0 [a1]).wr W3 (Or.inl (List.mem_of_getElem? (i := 0) rfl))
  have Z3 := Nat.le_trans Z0 (Nat.le_of_eq W3.size.symm)
  have N3 := Fr.snoc X3 N0 g_a1
  refine own_s T3 (mkF m 11 #[rv a1, .val .null, rv a2, rv a3, .val .null, rv a4, .val .null, .val .null] []) st3 ?_
  refine own_s T3 (mkF m 13 #[rv a1, .val .null, rv a2, rv a3, .val .null, rv a4, .val .null, .val .null] [.null, (.ref a1)]) (fun _ k => XS.aloadN X3.here hx rfl (hb hby own_dxi0_11) rfl rfl (XS.aloadN X3.here hx rfl (hb hby own_dxi0_12) rfl rfl k)) ?_
  obtain ⟨T17, h17, X17, e17, W17, st17⟩ := putF X3 hx hZ hown (host := "") (Or.inl (own_h hw 45 rfl)) Via.refl e3 f5 f4 (Or.inr ⟨(own_h hw 46 rfl), rfl, hnm⟩) (own_h hw 33 rfl) (ty := (.object "java/lang/String")) (by decide) rfl rfl (g := (mkF m 13 #[rv a1, .val .null, rv a2, rv a3, .val .null, rv a4, .val .null, .val .null] [.null, (.ref a1)])) rfl rfl (hb hby own_dxi0_13)
  have Fw17 := Fld.same W17 f5
  have f18 := Exa.wr W17 f4
  have f19 := Fld.other W17 Fw3 (Or.inr (slot_ne (Or.inl (own_h hw 44 rfl)) (Or.inr (own_h hw 46 rfl)) (by decide) (t := (.object "java/util/List")) (t' := (.object "java/lang/String")) (by decide) (by decide)))
  have f20 := Fld.other W17 f6 (Or.inr (slot_ne (Or.inr (own_h hw 48 rfl)) (Or.inr (own_h hw 46 rfl)) (by decide) (t := (.object "java/lang/String")) (t' := (.object "java/lang/String")) (by decide) (by decide)))
  have f21 := Fld.other W17 f7 (Or.inr (slot_ne (Or.inr (own_h hw 50 rfl)) (Or.inr (own_h hw 46 rfl)) (by decide) (t := (.object "java/lang/String")) (t' := (.object "java/lang/String")) (by decide) (by decide)))
  have f22 := Fld.other W17 f8 (Or.inr (slot_ne (Or.inr (own_h hw 52 rfl)) (Or.inr (own_h hw 46 rfl)) (by decide) (t := (.object "java/util/List")) (t' := (.object "java/lang/String")) (by decide) (by decide)))
  have f23 := Fld.other W17 f9 (Or.inr (slot_ne (Or.inr (own_h hw 56 rfl)) (Or.inr (own_h hw 46 rfl)) (by decide) (t := (.array (.object "java/lang/String"))) (t' := (.object "java/lang/String")) (by decide) (by decide)))
  have f24 := Fld.other W17 f10 (Or.inr (slot_ne (Or.inr (own_h hw 61 rfl)) (Or.inr (own_h hw 46 rfl)) (by decide) (t := .byte) (t' := (.object "java/lang/String")) (by decide) (by decide)))
  have f25 := Fld.other W17 f11 (Or.inr (slot_ne (Or.inr (own_h hw 63 rfl)) (Or.inr (own_h hw 46 rfl)) (by decide) (t := (.object "com/example/tagwright/tagwright/Location")) (t' := (.object "java/lang/String")) (by decide) (by decide)))
  have f26 := Fld.other W17 f12 (Or.inr (slot_ne (Or.inr (own_h hw 65 rfl)) (Or.inr (own_h hw 46 rfl)) (by decide) (t := (.object "com/example/tagwright/tagwright/XmlElement")) (t' := (.object "java/lang/String")) (by decide) (by decide)))
  have f27 := Fld.other W17 f13 (Or.inr (slot_ne (Or.inr (own_h hw 67 rfl)) (Or.inr (own_h hw 46 rfl)) (by decide) (t := .int) (t' := (.object "java/lang/String")) (by decide) (by decide)))
  have f28 := Sta.wr W17 f14
  have f29 := Sta.wr W17 f15
  have f30 := f16.other W17 (Ne.symm pr15)
  have K17 : Keep h0 h17 [a1] := K3.wr W17 (Or.inl (List.mem_of_getElem? (i := 0) rfl))
  have Z17 := Nat.le_trans Z3 (Nat.le_of_eq W17.size.symm)
  have N17 := Fr.snoc X17 N3 g_a1
  refine own_s T17 (mkF m 16 #[rv a1, .val .null, rv a2, rv a3, .val .null, rv a4, .val .null, .val .null] []) st17 ?_
  refine own_s T17 (mkF m 18 #[rv a1, .val .null, rv a2, rv a3, .val .null, rv a4, .val .null, .val .null] [(.ref a2), (.ref a1)]) (fun _ k => XS.aloadN X17.here hx rfl (hb hby own_dxi0_16) rfl rfl (XS.aloadN X17.here hx rfl (hb hby own_dxi0_17) rfl rfl k)) ?_
  obtain ⟨T31, h31, X31, e31, W31, st31⟩ := putF X17 hx hZ hown (host := "") (Or.inl (own_h hw 47 rfl)) Via.refl e17 f20 f18 (Or.inr ⟨(own_h hw 48 rfl), rfl, hnm⟩) (own_h hw 33 rfl) (ty := (.object "java/lang/String")) (by decide) rfl rfl (g := (mkF m 18 #[rv a1, .val .null, rv a2, rv a3, .val .null, rv a4, .val .null, .val .null] [(.ref a2), (.ref a1)])) rfl rfl (hb hby own_dxi0_18)
  have Fw31 := Fld.same W31 f20
  have f32 := Exa.wr W31 f18
  have f33 := Fld.other W31 f19 (Or.inr (slot_ne (Or.inl (own_h hw 44 rfl)) (Or.inr (own_h hw 48 rfl)) (by decide) (t := (.object "java/util/List")) (t' := (.object "java/lang/String")) (by decide) (by decide)))
  have f34 := Fld.other W31 Fw17 (Or.inr (slot_ne (Or.inr (own_h hw 46 rfl)) (Or.inr (own_h hw 48 rfl)) (by decide) (t := (.object "java/lang/String")) (t' := (.object "java/lang/String")) (by decide) (by decide)))
  have f35 := Fld.other W31 f21 (Or.inr (slot_ne (Or.inr (own_h hw 50 rfl)) (Or.inr (own_h hw 48 rfl)) (by decide) (t := (.object "java/lang/String")) (t' := (.object "java/lang/String")) (by decide) (by decide)))
  have f36 := Fld.other W31 f22 (Or.inr (slot_ne (Or.inr (own_h hw 52 rfl)) (Or.inr (own_h hw 48 rfl)) (by decide) (t := (.object "java/util/List")) (t' := (.object "java/lang/String")) (by decide) (by decide)))
  have f37 := Fld.other W31 f23 (Or.inr (slot_ne (Or.inr (own_h hw 56 rfl)) (Or.inr (own_h hw 48 rfl)) (by decide) (t := (.array (.object "java/lang/String"))) (t' := (.object "java/lang/String")) (by decide) (by decide)))
  have f38 := Fld.other W31 f24 (Or.inr (slot_ne (Or.inr (own_h hw 61 rfl)) (Or.inr (own_h hw 48 rfl)) (by decide) (t := .byte) (t' := (.object "java/lang/String")) (by decide) (by decide)))
  have f39 := Fld.other W31 f25 (Or.inr (slot_ne (Or.inr (own_h hw 63 rfl)) (Or.inr (own_h hw 48 rfl)) (by decide) (t := (.object "com/example/tagwright/tagwright/Location")) (t' := (.object "java/lang/String")) (by decide) (by decide)))
  have f40 := Fld.other W31 f26 (Or.inr (slot_ne (Or.inr (own_h hw 65 rfl)) (Or.inr (own_h hw 48 rfl)) (by decide) (t := (.object "com/example/tagwright/tagwright/XmlElement")) (t' := (.object "java/lang/String")) (by decide) (by decide)))
  have f41 := Fld.other W31 f27 (Or.inr (slot_ne (Or.inr (own_h hw 67 rfl)) (Or.inr (own_h hw 48 rfl)) (by decide) (t := .int) (t' := (.object "java/lang/String")) (by decide) (by decide)))
  have f42 := Sta.wr W31 f28
  have f43 := Sta.wr W31 f29
  have f44 := f30.other W31 (Ne.symm pr15)
  have K31 : Keep h0 h31 [a1] := K17.wr W31 (Or.inl (List.mem_of_getElem? (i := 0) rfl))
  have Z31 := Nat.le_trans Z17 (Nat.le_of_eq W31.size.symm)
  have N31 := Fr.snoc X31 N17 g_a1
  refine own_s T31 (mkF m 21 #[rv a1, .val .null, rv a2, rv a3, .val .null, rv a4, .val .null, .val .null] []) st31 ?_
  refine own_s T31 (mkF m 23 #[rv a1, .val .null, rv a2, rv a3, .val .null, rv a4, .val .null, .val .null] [(.ref a3), (.ref a1)]) (fun _ k => XS.aloadN X31.here hx rfl (hb hby own_dxi0_21) rfl rfl (XS.aloadN X31.here hx rfl (hb hby own_dxi0_22) rfl rfl k)) ?_
  obtain ⟨T45, h45, X45, e45, W45, st45⟩ := putF X31 hx hZ hown (host := "") (Or.inl (own_h hw 49 rfl)) Via.refl e31 f35 f32 (Or.inr ⟨(own_h hw 50 rfl), rfl, hnm⟩) (own_h hw 33 rfl) (ty := (.object "java/lang/String")) (by decide) rfl rfl (g := (mkF m 23 #[rv a1, .val .null, rv a2, rv a3, .val .null, rv a4, .val .null, .val .null] [(.ref a3), (.ref a1)])) rfl rfl (hb hby own_dxi0_23)
  have Fw45 := Fld.same W45 f35
  have f46 := Exa.wr W45 f32
  have f47 := Fld.other W45 f33 (Or.inr (slot_ne (Or.inl (own_h hw 44 rfl)) (Or.inr (own_h hw 50 rfl)) (by decide) (t := (.object "java/util/List")) (t' := (.object "java/lang/String")) (by decide) (by decide)))
  have f48 := Fld.other W45 f34 (Or.inr (slot_ne (Or.inr (own_h hw 46 rfl)) (Or.inr (own_h hw 50 rfl)) (by decide) (t := (.object "java/lang/String")) (t' := (.object "java/lang/String")) (by decide) (by decide)))
  have f49 := Fld.other W45 Fw31 (Or.inr (slot_ne (Or.inr (own_h hw 48 rfl)) (Or.inr (own_h hw 50 rfl)) (by decide) (t := (.object "java/lang/String")) (t' := (.object "java/lang/String")) (by decide) (by decide)))
  have f50 := Fld.other W45 f36 (Or.inr (slot_ne (Or.inr (own_h hw 52 rfl)) (Or.inr (own_h hw 50 rfl)) (by decide) (t := (.object "java/util/List")) (t' := (.object "java/lang/String")) (by decide) (by decide)))
  have f51 := Fld.other W45 f37 (Or.inr (slot_ne (Or.inr (own_h hw 56 rfl)) (Or.inr (own_h hw 50 rfl)) (by decide) (t := (.array (.object "java/lang/String"))) (t' := (.object "java/lang/String")) (by decide) (by decide)))
  have f52 := Fld.other W45 f38 (Or.inr (slot_ne (Or.inr (own_h hw 61 rfl)) (Or.inr (own_h hw 50 rfl)) (by decide) (t := .byte) (t' := (.object "java/lang/String")) (by decide) (by decide)))
  have f53 := Fld.other W45 f39 (Or.inr (slot_ne (Or.inr (own_h hw 63 rfl)) (Or.inr (own_h hw 50 rfl)) (by decide) (t := (.object "com/example/tagwright/tagwright/Location")) (t' := (.object "java/lang/String")) (by decide) (by decide)))
  have f54 := Fld.other W45 f40 (Or.inr (slot_ne (Or.inr (own_h hw 65 rfl)) (Or.inr (own_h hw 50 rfl)) (by decide) (t := (.object "com/example/tagwright/tagwright/XmlElement")) (t' := (.object "java/lang/String")) (by decide) (by decide)))
  have f55 := Fld.other W45 f41 (Or.inr (slot_ne (Or.inr (own_h hw 67 rfl)) (Or.inr (own_h hw 50 rfl)) (by decide) (t := .int) (t' := (.object "java/lang/String")) (by decide) (by decide)))
  have f56 := Sta.wr W45 f42
  have f57 := Sta.wr W45 f43
  have f58 := f44.other W45 (Ne.symm pr15)
  have K45 : Keep h0 h45 [a1] := K31.wr W45 (Or.inl (List.mem_of_getElem? (i := 0) rfl))
  have Z45 := Nat.le_trans Z31 (Nat.le_of_eq W45.size.symm)
  have N45 := Fr.snoc X45 N31 g_a1
  refine own_s T45 (mkF m 26 #[rv a1, .val .null, rv a2, rv a3, .val .null, rv a4, .val .null, .val .null] []) st45 ?_
  refine own_s T45 (mkF m 29 #[rv a1, .val .null, rv a2, rv a3, .val .null, rv a4, .val .null, .val .null] [.null, (.ref a1)]) (fun _ k => XS.aloadN X45.here hx rfl (hb hby own_dxi0_26) rfl rfl (XS.aload X45.here hx rfl (hb hby own_dxi0_27) rfl rfl k)) ?_
  obtain ⟨T59, h59, X59, e59, W59, st59⟩ := putF X45 hx hZ hown (host := "") (Or.inl (own_h hw 51 rfl)) Via.refl e45 f50 f46 (Or.inr ⟨(own_h hw 52 rfl), rfl, hnm⟩) (own_h hw 33 rfl) (ty := (.object "java/util/List")) (by decide) rfl rfl (g := (mkF m 29 #[rv a1, .val .null, rv a2, rv a3, .val .null, rv a4, .val .null, .val .null] [.null, (.ref a1)])) rfl rfl (hb hby own_dxi0_29)
  have Fw59 := Fld.same W59 f50
  have f60 := Exa.wr W59 f46
  have f61 := Fld.other W59 f47 (Or.inr (slot_ne (Or.inl (own_h hw 44 rfl)) (Or.inr (own_h hw 52 rfl)) (by decide) (t := (.object "java/util/List")) (t' := (.object "java/util/List")) (by decide) (by decide)))
  have f62 := Fld.other W59 f48 (Or.inr (slot_ne (Or.inr (own_h hw 46 rfl)) (Or.inr (own_h hw 52 rfl)) (by decide) (t := (.object "java/lang/String")) (t' := (.object "java/util/List")) (by decide) (by decide)))
  have f63 := Fld.other W59 f49 (Or.inr (slot_ne (Or.inr (own_h hw 48 rfl)) (Or.inr (own_h hw 52 rfl)) (by decide) (t := (.object "java/lang/String")) (t' := (.object "java/util/List")) (by decide) (by decide)))
  have f64 := Fld.other W59 Fw45 (Or.inr (slot_ne (Or.inr (own_h hw 50 rfl)) (Or.inr (own_h hw 52 rfl)) (by decide) (t := (.object "java/lang/String")) (t' := (.object "java/util/List")) (by decide) (by decide)))
  have f65 := Fld.other W59 f51 (Or.inr (slot_ne (Or.inr (own_h hw 56 rfl)) (Or.inr (own_h hw 52 rfl)) (by decide) (t := (.array (.object "java/lang/String"))) (t' := (.object "java/util/List")) (by decide) (by decide)))
  have f66 := Fld.other W59 f52 (Or.inr (slot_ne (Or.inr (own_h hw 61 rfl)) (Or.inr (own_h hw 52 rfl)) (by decide) (t := .byte) (t' := (.object "java/util/List")) (by decide) (by decide)))
  have f67 := Fld.other W59 f53 (Or.inr (slot_ne (Or.inr (own_h hw 63 rfl)) (Or.inr (own_h hw 52 rfl)) (by decide) (t := (.object "com/example/tagwright/tagwright/Location")) (t' := (.object "java/util/List")) (by decide) (by decide)))
  have f68 := Fld.other W59 f54 (Or.inr (slot_ne (Or.inr (own_h hw 65 rfl)) (Or.inr (own_h hw 52 rfl)) (by decide) (t := (.object "com/example/tagwright/tagwright/XmlElement")) (t' := (.object "java/util/List")) (by decide) (by decide)))
  have f69 := Fld.other W59 f55 (Or.inr (slot_ne (Or.inr (own_h hw 67 rfl)) (Or.inr (own_h hw 52 rfl)) (by decide) (t := .int) (t' := (.object "java/util/List")) (by decide) (by decide)))
  have f70 := Sta.wr W59 f56
  have f71 := Sta.wr W59 f57
  have f72 := f58.other W59 (Ne.symm pr15)
  have K59 : Keep h0 h59 [a1] := K45.wr W59 (Or.inl (List.mem_of_getElem? (i := 0) rfl))
  have Z59 := Nat.le_trans Z45 (Nat.le_of_eq W59.size.symm)
  have N59 := Fr.snoc X59 N45 g_a1
  refine own_s T59 (mkF m 32 #[rv a1, .val .null, rv a2, rv a3, .val .null, rv a4, .val .null, .val .null] []) st59 ?_
  refine own_s T59 (mkF m 35 #[rv a1, .val .null, rv a2, rv a3, .val .null, rv a4, .val .null, .val .null] [(.ref a4), (.ref a1)]) (fun _ k => XS.aloadN X59.here hx rfl (hb hby own_dxi0_32) rfl rfl (XS.aload X59.here hx rfl (hb hby own_dxi0_33) rfl rfl k)) ?_
  obtain ⟨cl73, Ar73, q73, S73, Nn73, H73, G73⟩ := id f72
  refine own_s T59 (mkF m 39 #[rv a1, .val .null, rv a2, rv a3, .val .null, rv a4, .val .null, .val .null] [(.ref a1)]) (fun _ k => own_len X59 hx hZ e59 Ar73 S73 Nn73 (g := (mkF m 35 #[rv a1, .val .null, rv a2, rv a3, .val .null, rv a4, .val .null, .val .null] [(.ref a4), (.ref a1)])) rfl rfl (hb hby own_dxi0_35) (XS.ifNo X59.here hx rfl (hb hby own_dxi0_36) rfl ((if0 _ _).trans (teq (by decide : ((0 : Int32) = (0 : Int32)))).2) k)) ?_
  obtain ⟨T74, X74, e74, st74⟩ := getS2 X59 hx hZ hown (host := "") (Or.inl (own_h hw 53 rfl)) Via.refl e59 f71 (g := (mkF m 39 #[rv a1, .val .null, rv a2, rv a3, .val .null, rv a4, .val .null, .val .null] [(.ref a1)])) rfl (hb hby own_dxi0_39)
  refine own_s T74 (mkF m 42 #[rv a1, .val .null, rv a2, rv a3, .val .null, rv a4, .val .null, .val .null] [(.ref oA), (.ref a1)]) st74 ?_
  refine own_s T74 (mkF m 47 #[rv a1, .val .null, rv a2, rv a3, .val .null, rv a4, .val .null, .val .null] [(.ref oA), (.ref a1)]) (fun _ k => XS.goto X74.here hx rfl (pc0 := 42) (pc' := 47) rfl (hb hby own_dxi0_42) (by decide) (by decide) k) ?_
  obtain ⟨T75, h75, X75, e75, W75, st75⟩ := putF X74 hx hZ hown (host := "") (Or.inl (own_h hw 55 rfl)) Via.refl e74 f65 f60 (Or.inr ⟨(own_h hw 56 rfl), rfl, hnm⟩) (own_h hw 33 rfl) (ty := (.array (.object "java/lang/String"))) (by decide) rfl rfl (g := (mkF m 47 #[rv a1, .val .null, rv a2, rv a3, .val .null, rv a4, .val .null, .val .null] [(.ref oA), (.ref a1)])) rfl rfl (hb hby own_dxi0_47)
  have Fw75 := Fld.same W75 f65
  have f76 := Exa.wr W75 f60
  have f77 := Fld.other W75 f61 (Or.inr (slot_ne (Or.inl (own_h hw 44 rfl)) (Or.inr (own_h hw 56 rfl)) (by decide) (t := (.object "java/util/List")) (t' := (.array (.object "java/lang/String"))) (by decide) (by decide)))
  have f78 := Fld.other W75 f62 (Or.inr (slot_ne (Or.inr (own_h hw 46 rfl)) (Or.inr (own_h hw 56 rfl)) (by decide) (t := (.object "java/lang/String")) (t' := (.array (.object "java/lang/String"))) (by decide) (by decide)))
  have f79 := Fld.other W75 f63 (Or.inr (slot_ne (Or.inr (own_h hw 48 rfl)) (Or.inr (own_h hw 56 rfl)) (by decide) (t := (.object "java/lang/String")) (t' := (.array (.object "java/lang/String"))) (by decide) (by decide)))
  have f80 := Fld.other W75 f64 (Or.inr (slot_ne (Or.inr (own_h hw 50 rfl)) (Or.inr (own_h hw 56 rfl)) (by decide) (t := (.object "java/lang/String")) (t' := (.array (.object "java/lang/String"))) (by decide) (by decide)))
  have f81 := Fld.other W75 Fw59 (Or.inr (slot_ne (Or.inr (own_h hw 52 rfl)) (Or.inr (own_h hw 56 rfl)) (by decide) (t := (.object "java/util/List")) (t' := (.array (.object "java/lang/String"))) (by decide) (by decide)))
  have f82 := Fld.other W75 f66 (Or.inr (slot_ne (Or.inr (own_h hw 61 rfl)) (Or.inr (own_h hw 56 rfl)) (by decide) (t := .byte) (t' := (.array (.object "java/lang/String"))) (by decide) (by decide)))
  have f83 := Fld.other W75 f67 (Or.inr (slot_ne (Or.inr (own_h hw 63 rfl)) (Or.inr (own_h hw 56 rfl)) (by decide) (t := (.object "com/example/tagwright/tagwright/Location")) (t' := (.array (.object "java/lang/String"))) (by decide) (by decide)))
  have f84 := Fld.other W75 f68 (Or.inr (slot_ne (Or.inr (own_h hw 65 rfl)) (Or.inr (own_h hw 56 rfl)) (by decide) (t := (.object "com/example/tagwright/tagwright/XmlElement")) (t' := (.array (.object "java/lang/String"))) (by decide) (by decide)))
  have f85 := Fld.other W75 f69 (Or.inr (slot_ne (Or.inr (own_h hw 67 rfl)) (Or.inr (own_h hw 56 rfl)) (by decide) (t := .int) (t' := (.array (.object "java/lang/String"))) (by decide) (by decide)))
  have f86 := Sta.wr W75 f70
  have f87 := Sta.wr W75 f71
  have f88 := f72.other W75 (Ne.symm pr15)
  have K75 : Keep h0 h75 [a1] := K59.wr W75 (Or.inl (List.mem_of_getElem? (i := 0) rfl))
  have Z75 := Nat.le_trans Z59 (Nat.le_of_eq W75.size.symm)
  have N75 := Fr.snoc X75 N59 g_a1
  refine own_s T75 (mkF m 50 #[rv a1, .val .null, rv a2, rv a3, .val .null, rv a4, .val .null, .val .null] []) st75 ?_
  refine own_s T75 (mkF m 53 #[rv a1, .val .null, rv a2, rv a3, .val .null, rv a4, .val .null, .val .null] [(.ref a4), (.ref a1)]) (fun _ k => XS.aloadN X75.here hx rfl (hb hby own_dxi0_50) rfl rfl (XS.aload X75.here hx rfl (hb hby own_dxi0_51) rfl rfl k)) ?_
  obtain ⟨v89, T89, L89, X89, hQ89, st89⟩ := own_callS X75 hx hZ (y := own_y14) (W := 1) hown (own_h hw 57 rfl) (own_h hw 58 rfl) (own_h hw 34 rfl) (own_h hw 59 rfl) (by decide) (own_rmisn l Z a0 hw [] a4 ka h75 n0 Z75 f88) (by decide) (by decide) (g := (mkF m 53 #[rv a1, .val .null, rv a2, rv a3, .val .null, rv a4, .val .null, .val .null] [(.ref a4), (.ref a1)])) rfl (by rw [hml]; rfl) (argsL := [(.ref a4)]) (rest := [(.ref a1)]) rfl (lenOf own_pd8 rfl) rfl (by show 2 * 0 + _ ≤ _; exact Nat.le_of_eq rfl) (hb hby own_dxi0_53) e75 (by decide) (by decide)
  obtain ⟨rfl, Nq89, Kq89⟩ := hQ89
  have N89 := Fr.app N75 Nq89
  have f90 := f76.keep Kq89
  have f91 := f77.keep Kq89 nin0
  have f92 := f78.keep Kq89 nin0
  have f93 := f79.keep Kq89 nin0
  have f94 := f80.keep Kq89 nin0
  have f95 := f81.keep Kq89 nin0
  have f96 := Fw75.keep Kq89 nin0
  have f97 := f82.keep Kq89 nin0
  have f98 := f83.keep Kq89 nin0
  have f99 := f84.keep Kq89 nin0
  have f100 := f85.keep Kq89 nin0
  have f101 := own_staKeep f86 Kq89
  have f102 := own_staKeep f87 Kq89
  have f103 := f88.keep Kq89 nin0
  have K89 : Keep h0 T89.heap [a1] := K75.trans Kq89 all0
  have Z89 := Nat.le_trans Z75 Kq89.1
  refine own_s T89 (mkF m 56 #[rv a1, .val .null, rv a2, rv a3, .val .null, rv a4, .val .null, .val .null] [(.int 0), (.ref a1)]) st89 ?_
  refine own_s T89 (mkF m 65 #[rv a1, .val .null, rv a2, rv a3, .val .null, rv a4, .val .null, .val .null] [(.int ((2 : Int32).toInt8.toInt32)), (.ref a1)]) (fun _ k => XS.ifYes X89.here hx rfl (pc0 := 56) (pc' := 63) rfl (hb hby own_dxi0_56) rfl ((if0 _ _).trans (teq (by decide : ((0 : Int32) = (0 : Int32)))).1) (by decide) (by decide) (XS.iconst X89.here hx rfl (hb hby own_dxi0_63) (XS.i2b X89.here hx rfl (hb hby own_dxi0_64) rfl k))) ?_
  obtain ⟨T104, h104, X104, e104, W104, st104⟩ := putFN X89 hx hZ hown (own_h hw 60 rfl) Via.refl rfl f97 f90 (Or.inr ⟨(own_h hw 61 rfl), rfl, hnm⟩) (own_h hw 33 rfl) (ty := .byte) (v' := (.int 2)) (by decide) rfl rfl (g := (mkF m 65 #[rv a1, .val .null, rv a2, rv a3, .val .null, rv a4, .val .null, .val .null] [(.int ((2 : Int32).toInt8.toInt32)), (.ref a1)])) rfl rfl (hb hby own_dxi0_65)
  have Fw104 := Fld.same W104 f97
  have f105 := Exa.wr W104 f90
  have f106 := Fld.other W104 f91 (Or.inr (slot_ne (Or.inl (own_h hw 44 rfl)) (Or.inr (own_h hw 61 rfl)) (by decide) (t := (.object "java/util/List")) (t' := .byte) (by decide) (by decide)))
  have f107 := Fld.other W104 f92 (Or.inr (slot_ne (Or.inr (own_h hw 46 rfl)) (Or.inr (own_h hw 61 rfl)) (by decide) (t := (.object "java/lang/String")) (t' := .byte) (by decide) (by decide)))
  have f108 := Fld.other W104 f93 (Or.inr (slot_ne (Or.inr (own_h hw 48 rfl)) (Or.inr (own_h hw 61 rfl)) (by decide) (t := (.object "java/lang/String")) (t' := .byte) (by decide) (by decide)))
  have f109 := Fld.other W104 f94 (Or.inr (slot_ne (Or.inr (own_h hw 50 rfl)) (Or.inr (own_h hw 61 rfl)) (by decide) (t := (.object "java/lang/String")) (t' := .byte) (by decide) (by decide)))
  have f110 := Fld.other W104 f95 (Or.inr (slot_ne (Or.inr (own_h hw 52 rfl)) (Or.inr (own_h hw 61 rfl)) (by decide) (t := (.object "java/util/List")) (t' := .byte) (by decide) (by decide)))
  have f111 := Fld.other W104 f96 (Or.inr (slot_ne (Or.inr (own_h hw 56 rfl)) (Or.inr (own_h hw 61 rfl)) (by decide) (t := (.array (.object "java/lang/String"))) (t' := .byte) (by decide) (by decide)))
  have f112 := Fld.other W104 f98 (Or.inr (slot_ne (Or.inr (own_h hw 63 rfl)) (Or.inr (own_h hw 61 rfl)) (by decide) (t := (.object "com/example/tagwright/tagwright/Location")) (t' := .byte) (by decide) (by decide)))
  have f113 := Fld.other W104 f99 (Or.inr (slot_ne (Or.inr (own_h hw 65 rfl)) (Or.inr (own_h hw 61 rfl)) (by decide) (t := (.object "com/example/tagwright/tagwright/XmlElement")) (t' := .byte) (by decide) (by decide)))
  have f114 := Fld.other W104 f100 (Or.inr (slot_ne (Or.inr (own_h hw 67 rfl)) (Or.inr (own_h hw 61 rfl)) (by decide) (t := .int) (t' := .byte) (by decide) (by decide)))
  have f115 := Sta.wr W104 f101
  have f116 := Sta.wr W104 f102
  have f117 := f103.other W104 (Ne.symm pr15)
  have K104 : Keep h0 h104 [a1] := K89.wr W104 (Or.inl (List.mem_of_getElem? (i := 0) rfl))
  have Z104 := Nat.le_trans Z89 (Nat.le_of_eq W104.size.symm)
  have N104 := Fr.snoc X104 N89 g_a1
  refine own_s T104 (mkF m 68 #[rv a1, .val .null, rv a2, rv a3, .val .null, rv a4, .val .null, .val .null] []) st104 ?_
  refine own_s T104 (mkF m 71 #[rv a1, .val .null, rv a2, rv a3, .val .null, rv a4, .val .null, .val .null] [.null, (.ref a1)]) (fun _ k => XS.aloadN X104.here hx rfl (hb hby own_dxi0_68) rfl rfl (XS.aload X104.here hx rfl (hb hby own_dxi0_69) rfl rfl k)) ?_
  obtain ⟨T118, h118, X118, e118, W118, st118⟩ := putF X104 hx hZ hown (host := "") (Or.inl (own_h hw 62 rfl)) Via.refl e104 f112 f105 (Or.inr ⟨(own_h hw 63 rfl), rfl, hnm⟩) (own_h hw 33 rfl) (ty := (.object "com/example/tagwright/tagwright/Location")) (by decide) rfl rfl (g := (mkF m 71 #[rv a1, .val .null, rv a2, rv a3, .val .null, rv a4, .val .null, .val .null] [.null, (.ref a1)])) rfl rfl (hb hby own_dxi0_71)
  have Fw118 := Fld.same W118 f112
  have f119 := Exa.wr W118 f105
  have f120 := Fld.other W118 f106 (Or.inr (slot_ne (Or.inl (own_h hw 44 rfl)) (Or.inr (own_h hw 63 rfl)) (by decide) (t := (.object "java/util/List")) (t' := (.object "com/example/tagwright/tagwright/Location")) (by decide) (by decide)))
  have f121 := Fld.other W118 f107 (Or.inr (slot_ne (Or.inr (own_h hw 46 rfl)) (Or.inr (own_h hw 63 rfl)) (by decide) (t := (.object "java/lang/String")) (t' := (.object "com/example/tagwright/tagwright/Location")) (by decide) (by decide)))
  have f122 := Fld.other W118 f108 (Or.inr (slot_ne (Or.inr (own_h hw 48 rfl)) (Or.inr (own_h hw 63 rfl)) (by decide) (t := (.object "java/lang/String")) (t' := (.object "com/example/tagwright/tagwright/Location")) (by decide) (by decide)))
  have f123 := Fld.other W118 f109 (Or.inr (slot_ne (Or.inr (own_h hw 50 rfl)) (Or.inr (own_h hw 63 rfl)) (by decide) (t := (.object "java/lang/String")) (t' := (.object "com/example/tagwright/tagwright/Location")) (by decide) (by decide)))
  have f124 := Fld.other W118 f110 (Or.inr (slot_ne (Or.inr (own_h hw 52 rfl)) (Or.inr (own_h hw 63 rfl)) (by decide) (t := (.object "java/util/List")) (t' := (.object "com/example/tagwright/tagwright/Location")) (by decide) (by decide)))
  have f125 := Fld.other W118 f111 (Or.inr (slot_ne (Or.inr (own_h hw 56 rfl)) (Or.inr (own_h hw 63 rfl)) (by decide) (t := (.array (.object "java/lang/String"))) (t' := (.object "com/example/tagwright/tagwright/Location")) (by decide) (by decide)))
  have f126 := Fld.other W118 Fw104 (Or.inr (slot_ne (Or.inr (own_h hw 61 rfl)) (Or.inr (own_h hw 63 rfl)) (by decide) (t := .byte) (t' := (.object "com/example/tagwright/tagwright/Location")) (by decide) (by decide)))
  have f127 := Fld.other W118 f113 (Or.inr (slot_ne (Or.inr (own_h hw 65 rfl)) (Or.inr (own_h hw 63 rfl)) (by decide) (t := (.object "com/example/tagwright/tagwright/XmlElement")) (t' := (.object "com/example/tagwright/tagwright/Location")) (by decide) (by decide)))
  have f128 := Fld.other W118 f114 (Or.inr (slot_ne (Or.inr (own_h hw 67 rfl)) (Or.inr (own_h hw 63 rfl)) (by decide) (t := .int) (t' := (.object "com/example/tagwright/tagwright/Location")) (by decide) (by decide)))
  have f129 := Sta.wr W118 f115
  have f130 := Sta.wr W118 f116
  have f131 := f117.other W118 (Ne.symm pr15)
  have K118 : Keep h0 h118 [a1] := K104.wr W118 (Or.inl (List.mem_of_getElem? (i := 0) rfl))
  have Z118 := Nat.le_trans Z104 (Nat.le_of_eq W118.size.symm)
  have N118 := Fr.snoc X118 N104 g_a1
  refine own_s T118 (mkF m 74 #[rv a1, .val .null, rv a2, rv a3, .val .null, rv a4, .val .null, .val .null] []) st118 ?_
  refine own_s T118 (mkF m 77 #[rv a1, .val .null, rv a2, rv a3, .val .null, rv a4, .val .null, .val .null] [.null, (.ref a1)]) (fun _ k => XS.aloadN X118.here hx rfl (hb hby own_dxi0_74) rfl rfl (XS.aload X118.here hx rfl (hb hby own_dxi0_75) rfl rfl k)) ?_
  obtain ⟨T132, h132, X132, e132, W132, st132⟩ := putF X118 hx hZ hown (host := "") (Or.inl (own_h hw 64 rfl)) Via.refl e118 f127 f119 (Or.inr ⟨(own_h hw 65 rfl), rfl, hnm⟩) (own_h hw 33 rfl) (ty := (.object "com/example/tagwright/tagwright/XmlElement")) (by decide) rfl rfl (g := (mkF m 77 #[rv a1, .val .null, rv a2, rv a3, .val .null, rv a4, .val .null, .val .null] [.null, (.ref a1)])) rfl rfl (hb hby own_dxi0_77)
  have Fw132 := Fld.same W132 f127
  have f133 := Exa.wr W132 f119
  have f134 := Fld.other W132 f120 (Or.inr (slot_ne (Or.inl (own_h hw 44 rfl)) (Or.inr (own_h hw 65 rfl)) (by decide) (t := (.object "java/util/List")) (t' := (.object "com/example/tagwright/tagwright/XmlElement")) (by decide) (by decide)))
  have f135 := Fld.other W132 f121 (Or.inr (slot_ne (Or.inr (own_h hw 46 rfl)) (Or.inr (own_h hw 65 rfl)) (by decide) (t := (.object "java/lang/String")) (t' := (.object "com/example/tagwright/tagwright/XmlElement")) (by decide) (by decide)))
  have f136 := Fld.other W132 f122 (Or.inr (slot_ne (Or.inr (own_h hw 48 rfl)) (Or.inr (own_h hw 65 rfl)) (by decide) (t := (.object "java/lang/String")) (t' := (.object "com/example/tagwright/tagwright/XmlElement")) (by decide) (by decide)))
  have f137 := Fld.other W132 f123 (Or.inr (slot_ne (Or.inr (own_h hw 50 rfl)) (Or.inr (own_h hw 65 rfl)) (by decide) (t := (.object "java/lang/String")) (t' := (.object "com/example/tagwright/tagwright/XmlElement")) (by decide) (by decide)))
  have f138 := Fld.other W132 f124 (Or.inr (slot_ne (Or.inr (own_h hw 52 rfl)) (Or.inr (own_h hw 65 rfl)) (by decide) (t := (.object "java/util/List")) (t' := (.object "com/example/tagwright/tagwright/XmlElement")) (by decide) (by decide)))
  have f139 := Fld.other W132 f125 (Or.inr (slot_ne (Or.inr (own_h hw 56 rfl)) (Or.inr (own_h hw 65 rfl)) (by decide) (t := (.array (.object "java/lang/String"))) (t' := (.object "com/example/tagwright/tagwright/XmlElement")) (by decide) (by decide)))
  have f140 := Fld.other W132 f126 (Or.inr (slot_ne (Or.inr (own_h hw 61 rfl)) (Or.inr (own_h hw 65 rfl)) (by decide) (t := .byte) (t' := (.object "com/example/tagwright/tagwright/XmlElement")) (by decide) (by decide)))
  have f141 := Fld.other W132 Fw118 (Or.inr (slot_ne (Or.inr (own_h hw 63 rfl)) (Or.inr (own_h hw 65 rfl)) (by decide) (t := (.object "com/example/tagwright/tagwright/Location")) (t' := (.object "com/example/tagwright/tagwright/XmlElement")) (by decide) (by decide)))
  have f142 := Fld.other W132 f128 (Or.inr (slot_ne (Or.inr (own_h hw 67 rfl)) (Or.inr (own_h hw 65 rfl)) (by decide) (t := .int) (t' := (.object "com/example/tagwright/tagwright/XmlElement")) (by decide) (by decide)))
  have f143 := Sta.wr W132 f129
  have f144 := Sta.wr W132 f130
  have f145 := f131.other W132 (Ne.symm pr15)
  have K132 : Keep h0 h132 [a1] := K118.wr W132 (Or.inl (List.mem_of_getElem? (i := 0) rfl))
  have Z132 := Nat.le_trans Z118 (Nat.le_of_eq W132.size.symm)
  have N132 := Fr.snoc X132 N118 g_a1
  refine own_s T132 (mkF m 80 #[rv a1, .val .null, rv a2, rv a3, .val .null, rv a4, .val .null, .val .null] []) st132 ?_
  refine own_s T132 (mkF m 96 #[rv a1, .val .null, rv a2, rv a3, .val .null, rv a4, .val .null, .val .null] [(.int 0), (.ref a1)]) (fun _ k => XS.aloadN X132.here hx rfl (hb hby own_dxi0_80) rfl rfl (XS.aload X132.here hx rfl (hb hby own_dxi0_81) rfl rfl (XS.ifnonnullNo X132.here hx rfl (hb hby own_dxi0_83) rfl (XS.iconst X132.here hx rfl (hb hby own_dxi0_86) (XS.goto X132.here hx rfl (pc0 := 87) (pc' := 96) rfl (hb hby own_dxi0_87) (by decide) (by decide) k))))) ?_
  obtain ⟨T146, h146, X146, e146, W146, st146⟩ := putF X132 hx hZ hown (host := "") (Or.inl (own_h hw 66 rfl)) Via.refl e132 f142 f133 (Or.inr ⟨(own_h hw 67 rfl), rfl, hnm⟩) (own_h hw 33 rfl) (ty := .int) (by decide) rfl rfl (g := (mkF m 96 #[rv a1, .val .null, rv a2, rv a3, .val .null, rv a4, .val .null, .val .null] [(.int 0), (.ref a1)])) rfl rfl (hb hby own_dxi0_96)
  have Fw146 := Fld.same W146 f142
  have f147 := Exa.wr W146 f133
  have f148 := Fld.other W146 f134 (Or.inr (slot_ne (Or.inl (own_h hw 44 rfl)) (Or.inr (own_h hw 67 rfl)) (by decide) (t := (.object "java/util/List")) (t' := .int) (by decide) (by decide)))
  have f149 := Fld.other W146 f135 (Or.inr (slot_ne (Or.inr (own_h hw 46 rfl)) (Or.inr (own_h hw 67 rfl)) (by decide) (t := (.object "java/lang/String")) (t' := .int) (by decide) (by decide)))
  have f150 := Fld.other W146 f136 (Or.inr (slot_ne (Or.inr (own_h hw 48 rfl)) (Or.inr (own_h hw 67 rfl)) (by decide) (t := (.object "java/lang/String")) (t' := .int) (by decide) (by decide)))
  have f151 := Fld.other W146 f137 (Or.inr (slot_ne (Or.inr (own_h hw 50 rfl)) (Or.inr (own_h hw 67 rfl)) (by decide) (t := (.object "java/lang/String")) (t' := .int) (by decide) (by decide)))
  have f152 := Fld.other W146 f138 (Or.inr (slot_ne (Or.inr (own_h hw 52 rfl)) (Or.inr (own_h hw 67 rfl)) (by decide) (t := (.object "java/util/List")) (t' := .int) (by decide) (by decide)))
  have f153 := Fld.other W146 f139 (Or.inr (slot_ne (Or.inr (own_h hw 56 rfl)) (Or.inr (own_h hw 67 rfl)) (by decide) (t := (.array (.object "java/lang/String"))) (t' := .int) (by decide) (by decide)))
  have f154 := Fld.other W146 f140 (Or.inr (slot_ne (Or.inr (own_h hw 61 rfl)) (Or.inr (own_h hw 67 rfl)) (by decide) (t := .byte) (t' := .int) (by decide) (by decide)))
  have f155 := Fld.other W146 f141 (Or.inr (slot_ne (Or.inr (own_h hw 63 rfl)) (Or.inr (own_h hw 67 rfl)) (by decide) (t := (.object "com/example/tagwright/tagwright/Location")) (t' := .int) (by decide) (by decide)))
  have f156 := Fld.other W146 Fw132 (Or.inr (slot_ne (Or.inr (own_h hw 65 rfl)) (Or.inr (own_h hw 67 rfl)) (by decide) (t := (.object "com/example/tagwright/tagwright/XmlElement")) (t' := .int) (by decide) (by decide)))
  have f157 := Sta.wr W146 f143
  have f158 := Sta.wr W146 f144
  have f159 := f145.other W146 (Ne.symm pr15)
  have K146 : Keep h0 h146 [a1] := K132.wr W146 (Or.inl (List.mem_of_getElem? (i := 0) rfl))
  have Z146 := Nat.le_trans Z132 (Nat.le_of_eq W146.size.symm)
  have N146 := Fr.snoc X146 N132 g_a1
  refine own_s T146 (mkF m 99 #[rv a1, .val .null, rv a2, rv a3, .val .null, rv a4, .val .null, .val .null] []) st146 ?_
  exact own_finV X146 hx hret (hb hby own_dxi0_99) (own_end (Qv := (own_Qxi0 Z a1 a2 a3 a4 oN oA ka h0 n0)) X146 (fun _ => rfl) hlk (by decide) (by decide) e146 ⟨rfl, N146, K146, f147, f148, f156⟩)
theorem own_pd9 : parseMethodDescriptor "(Lcom/example/tagwright/tagwright/XmlElement;)I" = some ⟨[(.object "com/example/tagwright/tagwright/XmlElement")], some .int⟩ := by decide +kernel
theorem own_dxi1_0 : decode prog_100_method_1_code 0 = .ok (.aload_n 0, 1) := by decide +kernel
theorem own_dxi1_1 : decode prog_100_method_1_code 1 = .ok (.invokespecial 1, 3) := by decide +kernel
theorem own_dxi1_4 : decode prog_100_method_1_code 4 = .ok (.aload_n 0, 1) := by decide +kernel
theorem own_dxi1_5 : decode prog_100_method_1_code 5 = .ok (.getstatic 7, 3) := by decide +kernel
theorem own_dxi1_8 : decode prog_100_method_1_code 8 = .ok (.putfield 13, 3) := by decide +kernel
theorem own_dxi1_11 : decode prog_100_method_1_code 11 = .ok (.aload_n 0, 1) := by decide +kernel
theorem own_dxi1_12 : decode prog_100_method_1_code 12 = .ok (.aload_n 1, 1) := by decide +kernel
theorem own_dxi1_13 : decode prog_100_method_1_code 13 = .ok (.putfield 16, 3) := by decide +kernel
theorem own_dxi1_16 : decode prog_100_method_1_code 16 = .ok (.aload_n 0, 1) := by decide +kernel
theorem own_dxi1_17 : decode prog_100_method_1_code 17 = .ok (.aload_n 2, 1) := by decide +kernel
theorem own_dxi1_18 : decode prog_100_method_1_code 18 = .ok (.putfield 20, 3) := by decide +kernel
theorem own_dxi1_21 : decode prog_100_method_1_code 21 = .ok (.aload_n 0, 1) := by decide +kernel
theorem own_dxi1_22 : decode prog_100_method_1_code 22 = .ok (.aload_n 3, 1) := by decide +kernel
theorem own_dxi1_23 : decode prog_100_method_1_code 23 = .ok (.putfield 23, 3) := by decide +kernel
theorem own_dxi1_26 : decode prog_100_method_1_code 26 = .ok (.aload_n 0, 1) := by decide +kernel
theorem own_dxi1_27 : decode prog_100_method_1_code 27 = .ok (.aload 4, 2) := by decide +kernel
theorem own_dxi1_29 : decode prog_100_method_1_code 29 = .ok (.putfield 26, 3) := by decide +kernel
theorem own_dxi1_32 : decode prog_100_method_1_code 32 = .ok (.aload_n 0, 1) := by decide +kernel
theorem own_dxi1_33 : decode prog_100_method_1_code 33 = .ok (.aload 5, 2) := by decide +kernel
theorem own_dxi1_35 : decode prog_100_method_1_code 35 = .ok (.arraylength, 1) := by decide +kernel
theorem own_dxi1_36 : decode prog_100_method_1_code 36 = .ok (.ifCond .ne 9, 3) := by decide +kernel
theorem own_dxi1_39 : decode prog_100_method_1_code 39 = .ok (.getstatic 29, 3) := by decide +kernel
theorem own_dxi1_42 : decode prog_100_method_1_code 42 = .ok (.goto 5, 3) := by decide +kernel
theorem own_dxi1_47 : decode prog_100_method_1_code 47 = .ok (.putfield 33, 3) := by decide +kernel
theorem own_dxi1_50 : decode prog_100_method_1_code 50 = .ok (.aload_n 0, 1) := by decide +kernel
theorem own_dxi1_51 : decode prog_100_method_1_code 51 = .ok (.aload 5, 2) := by decide +kernel
theorem own_dxi1_53 : decode prog_100_method_1_code 53 = .ok (.invokestatic 36, 3) := by decide +kernel
theorem own_dxi1_56 : decode prog_100_method_1_code 56 = .ok (.ifCond .eq 7, 3) := by decide +kernel
theorem own_dxi1_63 : decode prog_100_method_1_code 63 = .ok (.iconst 2, 1) := by decide +kernel
theorem own_dxi1_64 : decode prog_100_method_1_code 64 = .ok (.i2b, 1) := by decide +kernel
theorem own_dxi1_65 : decode prog_100_method_1_code 65 = .ok (.putfield 40, 3) := by decide +kernel
theorem own_dxi1_68 : decode prog_100_method_1_code 68 = .ok (.aload_n 0, 1) := by decide +kernel
theorem own_dxi1_69 : decode prog_100_method_1_code 69 = .ok (.aload 6, 2) := by decide +kernel
theorem own_dxi1_71 : decode prog_100_method_1_code 71 = .ok (.putfield 44, 3) := by decide +kernel
theorem own_dxi1_74 : decode prog_100_method_1_code 74 = .ok (.aload_n 0, 1) := by decide +kernel
theorem own_dxi1_75 : decode prog_100_method_1_code 75 = .ok (.aload 7, 2) := by decide +kernel
theorem own_dxi1_77 : decode prog_100_method_1_code 77 = .ok (.putfield 48, 3) := by decide +kernel
theorem own_dxi1_80 : decode prog_100_method_1_code 80 = .ok (.aload_n 0, 1) := by decide +kernel
theorem own_dxi1_81 : decode prog_100_method_1_code 81 = .ok (.aload 7, 2) := by decide +kernel
theorem own_dxi1_83 : decode prog_100_method_1_code 83 = .ok (.ifnonnull 7, 3) := by decide +kernel
theorem own_dxi1_90 : decode prog_100_method_1_code 90 = .ok (.aload 7, 2) := by decide +kernel
theorem own_dxi1_92 : decode prog_100_method_1_code 92 = .ok (.aload_n 0, 1) := by decide +kernel
theorem own_dxi1_93 : decode prog_100_method_1_code 93 = .ok (.invokevirtual 52, 3) := by decide +kernel
theorem own_dxi1_96 : decode prog_100_method_1_code 96 = .ok (.putfield 56, 3) := by decide +kernel
theorem own_dxi1_99 : decode prog_100_method_1_code 99 = .ok (.return_, 1) := by decide +kernel
theorem own_efxi1 (m : MethodId) (x0 : Addr) (x2 : Addr) (x3 : Addr) (x5 : Addr) (x7 : Addr) : entryFrame m #[(.ref x0), .null, (.ref x2), (.ref x3), .null, (.ref x5), .null, (.ref x7)] 8 = mkF m 0 #[rv x0, .val .null, rv x2, rv x3, .val .null, rv x5, .val .null, rv x7] [] := by first | (simp [entryFrame, mkF, argsToLocals, Value.category]; done) | rfl
def own_Qxi1 (Z : State) (a1 : Addr) (a2 : Addr) (a3 : Addr) (a4 : Addr) (pr : Addr) (oN : Addr) (oA : Addr) (ka : ClassId) (w : Value) (h0 : Heap) (n0 : Nat) : Option Value → Heap → List Loc → Prop := fun v h L => ∃ (li : Addr) (d : Addr) (kd : ClassId), v = none ∧ Fr n0 L ∧ Keep h0 h [a1, pr] ∧ n0 ≤ li ∧ h0.size ≤ li ∧ n0 ≤ d ∧ h0.size ≤ d ∧ Exa Z h a1 "com/example/tagwright/tagwright/XmlElement" ∧ Fld Z h a1 "com/example/tagwright/tagwright/XmlElement" "children" "Ljava/util/List;" (.ref oN) ∧ Fld Z h a1 "com/example/tagwright/tagwright/XmlElement" "parent" "Lcom/example/tagwright/tagwright/XmlElement;" (.ref pr) ∧ Exa Z h pr "com/example/tagwright/tagwright/XmlElement" ∧ Fld Z h pr "com/example/tagwright/tagwright/XmlElement" "children" "Ljava/util/List;" (.ref li) ∧ Fld Z h pr "com/example/tagwright/tagwright/XmlElement" "parent" "Lcom/example/tagwright/tagwright/XmlElement;" w ∧ Exa Z h li "java/util/ArrayList" ∧ Fld Z h li "java/util/AbstractList" "modCount" "I" (.int 1) ∧ Fld Z h li "java/util/ArrayList" "elementData" "[Ljava/lang/Object;" (.ref d) ∧ Fld Z h li "java/util/ArrayList" "size" "I" (.int 1) ∧ Arv Z h d kd (.object "java/lang/Object") (4 : Int32) [(.ref a1), .null, .null, .null] .null ∧ Ovr Z kd "java/lang/Object" ∧ li ≠ d
def own_Rxi1 : Room := { frames := 5, cells := 2, slots := 7, locals := 65 }
set_option maxRecDepth 65536 in
set_option maxHeartbeats 40000000 in
theorem own_rmxi1 (l : Launch) (Z : State) (a0 : Array Value) (hw : ∀ d ∈ tables_1, d.before a0 Z = true) (ws : List Jvm.Cond) (a1 : Addr) (a2 : Addr) (a3 : Addr) (a4 : Addr) (pr : Addr) (oN : Addr) (oA : Addr) (ka : ClassId) (w : Value) (h0 : Heap) (n0 : Nat) (Z0 : n0 ≤ h0.size) (g_a1 : n0 ≤ a1) (pr1 : Exa Z h0 a1 "com/example/tagwright/tagwright/XmlElement") (pr2 : Fld Z h0 a1 "com/example/tagwright/tagwright/XmlElement" "children" "Ljava/util/List;" .null) (pr3 : Fld Z h0 a1 "com/example/tagwright/tagwright/XmlElement" "namespace" "Ljava/lang/String;" .null) (pr4 : Fld Z h0 a1 "com/example/tagwright/tagwright/XmlElement" "localName" "Ljava/lang/String;" .null) (pr5 : Fld Z h0 a1 "com/example/tagwright/tagwright/XmlElement" "tagName" "Ljava/lang/String;" .null) (pr6 : Fld Z h0 a1 "com/example/tagwright/tagwright/XmlElement" "declarations" "Ljava/util/List;" .null) (pr7 : Fld Z h0 a1 "com/example/tagwright/tagwright/XmlElement" "attributes" "[Ljava/lang/String;" .null) (pr8 : Fld Z h0 a1 "com/example/tagwright/tagwright/XmlElement" "stride" "B" (.int 0)) (pr9 : Fld Z h0 a1 "com/example/tagwright/tagwright/XmlElement" "location" "Lcom/example/tagwright/tagwright/Location;" .null) (pr10 : Fld Z h0 a1 "com/example/tagwright/tagwright/XmlElement" "parent" "Lcom/example/tagwright/tagwright/XmlElement;" .null) (pr11 : Fld Z h0 a1 "com/example/tagwright/tagwright/XmlElement" "index" "I" (.int 0)) (pr12 : Sta Z h0 "com/example/tagwright/tagwright/XmlElement" "NO_CHILDREN" "Ljava/util/List;" (.ref oN)) (pr13 : Sta Z h0 "com/example/tagwright/tagwright/XmlElement" "NO_ATTRIBUTES" "[Ljava/lang/String;" (.ref oA)) (pr14 : Arv Z h0 a4 ka (.object "java/lang/String") (0 : Int32) [] .null) (pr15 : a1 ≠ a4) (g_pr : n0 ≤ pr) (pr17 : Exa Z h0 pr "com/example/tagwright/tagwright/XmlElement") (pr18 : Fld Z h0 pr "com/example/tagwright/tagwright/XmlElement" "children" "Ljava/util/List;" (.ref oN)) (pr19 : Fld Z h0 pr "com/example/tagwright/tagwright/XmlElement" "parent" "Lcom/example/tagwright/tagwright/XmlElement;" w) (pr20 : a1 ≠ pr) (pr21 : pr ≠ a4) (rw : w.isRef = true) :
    own_Met l Z own_y15 prog_100_method_1_code 8 none ws own_Rxi1 h0 #[(.ref a1), .null, (.ref a2), (.ref a3), .null, (.ref a4), .null, (.ref pr)] (own_Qxi1 Z a1 a2 a3 a4 pr oN oA ka w h0 n0) own_Rxi1.cells own_Rxi1.slots := by
  refine own_start (plainFor_of_name own_pn6) ?_
  intro p e s m below meth c s₁ X0 hx hZ hby hml hret hlk hown hnm e0
  have hown : s.vm.findClass "com/example/tagwright/tagwright/XmlElement" = some m.cls := hown
  have hml : c.maxLocals = 8 := hml
  have N0 := Fr.nil n0
  refine own_cast (own_efxi1 m a1 a2 a3 a4 pr) ?_
  refine own_s s₁ (mkF m 1 #[rv a1, .val .null, rv a2, rv a3, .val .null, rv a4, .val .null, rv pr] [(.ref a1)]) (fun _ k => XS.aloadN X0.here hx rfl (hb hby own_dxi1_0) rfl rfl k) ?_
  obtain ⟨T1, X1, e1, st1⟩ := initO X0 hx hZ hown (own_h hw 40 rfl) (own_h hw 8 rfl) (own_h hw 9 rfl) e0 (g := (mkF m 1 #[rv a1, .val .null, rv a2, rv a3, .val .null, rv a4, .val .null, rv pr] [(.ref a1)])) rfl (by rw [hml]; rfl) rfl (hb hby own_dxi1_1) (by decide) (W := 0) (by show 2 * 0 + _ ≤ _; exact Nat.le_of_eq rfl) (by decide)
  refine own_s T1 (mkF m 4 #[rv a1, .val .null, rv a2, rv a3, .val .null, rv a4, .val .null, rv pr] []) st1 ?_
  refine own_s T1 (mkF m 5 #[rv a1, .val .null, rv a2, rv a3, .val .null, rv a4, .val .null, rv pr] [(.ref a1)]) (fun _ k => XS.aloadN X1.here hx rfl (hb hby own_dxi1_4) rfl rfl k) ?_
  obtain ⟨T2, X2, e2, st2⟩ := getS2 X1 hx hZ hown (host := "") (Or.inl (own_h hw 41 rfl)) Via.refl e1 pr12 (g := (mkF m 5 #[rv a1, .val .null, rv a2, rv a3, .val .null, rv a4, .val .null, rv pr] [(.ref a1)])) rfl (hb hby own_dxi1_5)
  refine own_s T2 (mkF m 8 #[rv a1, .val .null, rv a2, rv a3, .val .null, rv a4, .val .null, rv pr] [(.ref oN), (.ref a1)]) st2 ?_
  obtain ⟨T3, h3, X3, e3, W3, st3⟩ := putF X2 hx hZ hown (host := "") (Or.inl (own_h hw 43 rfl)) Via.refl e2 pr2 pr1 (Or.inl (own_h hw 44 rfl)) (own_h hw 33 rfl) (ty := (.object "java/util/List")) (by decide) rfl rfl (g := (mkF m 8 #[rv a1, .val .null, rv a2, rv a3, .val .null, rv a4, .val .null, rv pr] [(.ref oN), (.ref a1)])) rfl rfl (hb hby own_dxi1_8)
  have Fw3 := Fld.same W3 pr2
  have f4 := Exa.wr W3 pr1
  have f5 := Fld.other W3 pr3 (Or.inr (slot_ne (Or.inr (own_h hw 46 rfl)) (Or.inl (own_h hw 44 rfl)) (by decide) (t := (.object "java/lang/String")) (t' := (.object "java/util/List")) (by decide) (by decide)))
  have f6 := Fld.other W3 pr4 (Or.inr (slot_ne (Or.inr (own_h hw 48 rfl)) (Or.inl (own_h hw 44 rfl)) (by decide) (t := (.object "java/lang/String")) (t' := (.object "java/util/List")) (by decide) (by decide)))
  have f7 := Fld.other W3 pr5 (Or.inr (slot_ne (Or.inr (own_h hw 50 rfl)) (Or.inl (own_h hw 44 rfl)) (by decide) (t := (.object "java/lang/String")) (t' := (.object "java/util/List")) (by decide) (by decide)))
  have f8 := Fld.other W3 pr6 (Or.inr (slot_ne (Or.inr (own_h hw 52 rfl)) (Or.inl (own_h hw 44 rfl)) (by decide) (t := (.object "java/util/List")) (t' := (.object "java/util/List")) (by decide) (by decide)))
  have f9 := Fld.other W3 pr7 (Or.inr (slot_ne (Or.inr (own_h hw 56 rfl)) (Or.inl (own_h hw 44 rfl)) (by decide) (t := (.array (.object "java/lang/String"))) (t' := (.object "java/util/List")) (by decide) (by decide)))
  have f10 := Fld.other W3 pr8 (Or.inr (slot_ne (Or.inr (own_h hw 61 rfl)) (Or.inl (own_h hw 44 rfl)) (by decide) (t := .byte) (t' := (.object "java/util/List")) (by decide) (by decide)))
  have f11 := Fld.other W3 pr9 (Or.inr (slot_ne (Or.inr (own_h hw 63 rfl)) (Or.inl (own_h hw 44 rfl)) (by decide) (t := (.object "com/example/tagwright/tagwright/Location")) (t' := (.object "java/util/List")) (by decide) (by decide)))
  have f12 := Fld.other W3 pr10 (Or.inr (slot_ne (Or.inr (own_h hw 65 rfl)) (Or.inl (own_h hw 44 rfl)) (by decide) (t := (.object "com/example/tagwright/tagwright/XmlElement")) (t' := (.object "java/util/List")) (by decide) (by decide)))
  have f13 := Fld.other W3 pr11 (Or.inr (slot_ne (Or.inr (own_h hw 67 rfl)) (Or.inl (own_h hw 44 rfl)) (by decide) (t := .int) (t' := (.object "java/util/List")) (by decide) (by decide)))
  have f14 := Sta.wr W3 pr12
  have f15 := Sta.wr W3 pr13
  have f16 := pr14.other W3 (Ne.symm pr15)
  have f17 := Exa.wr W3 pr17
  have f18 := Fld.other W3 pr18 (Or.inl (Ne.symm pr20))
  have f19 := Fld.other W3 pr19 (Or.inl (Ne.symm pr20))
  have K3 : Keep h0 h3 [a1, pr] := (Keep.refl h0 [a1, pr]).wr W3 (Or.inl (List.mem_of_getElem? (i := 0) rfl))
  have Z3 := Nat.le_trans Z0 (Nat.le_of_eq W3.size.symm)
  have N3 := Fr.snoc X3 N0 g_a1
  refine own_s T3 (mkF m 11 #[rv a1, .val .null, rv a2, rv a3, .val .null, rv a4, .val .null, rv pr] []) st3 ?_
  refine own_s T3 (mkF m 13 #[rv a1, .val .null, rv a2, rv a3, .val .null, rv a4, .val .null, rv pr] [.null, (.ref a1)]) (fun _ k => XS.aloadN X3.here hx rfl (hb hby own_dxi1_11) rfl rfl (XS.aloadN X3.here hx rfl (hb hby own_dxi1_12) rfl rfl k)) ?_
  obtain ⟨T20, h20, X20, e20, W20, st20⟩ := putF X3 hx hZ hown (host := "") (Or.inl (own_h hw 45 rfl)) Via.refl e3 f5 f4 (Or.inr ⟨(own_h hw 46 rfl), rfl, hnm⟩) (own_h hw 33 rfl) (ty := (.object "java/lang/String")) (by decide) rfl rfl (g := (mkF m 13 #[rv a1, .val .null, rv a2, rv a3, .val .null, rv a4, .val .null, rv pr] [.null, (.ref a1)])) rfl rfl (hb hby own_dxi1_13)
  have Fw20 := Fld.same W20 f5
  have f21 := Exa.wr W20 f4
  have f22 := Fld.other W20 Fw3 (Or.inr (slot_ne (Or.inl (own_h hw 44 rfl)) (Or.inr (own_h hw 46 rfl)) (by decide) (t := (.object "java/util/List")) (t' := (.object "java/lang/String")) (by decide) (by decide)))
  have f23 := Fld.other W20 f6 (Or.inr (slot_ne (Or.inr (own_h hw 48 rfl)) (Or.inr (own_h hw 46 rfl)) (by decide) (t := (.object "java/lang/String")) (t' := (.object "java/lang/String")) (by decide) (by decide)))
  have f24 := Fld.other W20 f7 (Or.inr (slot_ne (Or.inr (own_h hw 50 rfl)) (Or.inr (own_h hw 46 rfl)) (by decide) (t := (.object "java/lang/String")) (t' := (.object "java/lang/String")) (by decide) (by decide)))
  have f25 := Fld.other W20 f8 (Or.inr (slot_ne (Or.inr (own_h hw 52 rfl)) (Or.inr (own_h hw 46 rfl)) (by decide) (t := (.object "java/util/List")) (t' := (.object "java/lang/String")) (by decide) (by decide)))
  have f26 := Fld.other W20 f9 (Or.inr (slot_ne (Or.inr (own_h hw 56 rfl)) (Or.inr (own_h hw 46 rfl)) (by decide) (t := (.array (.object "java/lang/String"))) (t' := (.object "java/lang/String")) (by decide) (by decide)))
  have f27 := Fld.other W20 f10 (Or.inr (slot_ne (Or.inr (own_h hw 61 rfl)) (Or.inr (own_h hw 46 rfl)) (by decide) (t := .byte) (t' := (.object "java/lang/String")) (by decide) (by decide)))
  have f28 := Fld.other W20 f11 (Or.inr (slot_ne (Or.inr (own_h hw 63 rfl)) (Or.inr (own_h hw 46 rfl)) (by decide) (t := (.object "com/example/tagwright/tagwright/Location")) (t' := (.object "java/lang/String")) (by decide) (by decide)))
  have f29 := Fld.other W20 f12 (Or.inr (slot_ne (Or.inr (own_h hw 65 rfl)) (Or.inr (own_h hw 46 rfl)) (by decide) (t := (.object "com/example/tagwright/tagwright/XmlElement")) (t' := (.object "java/lang/String")) (by decide) (by decide)))
  have f30 := Fld.other W20 f13 (Or.inr (slot_ne (Or.inr (own_h hw 67 rfl)) (Or.inr (own_h hw 46 rfl)) (by decide) (t := .int) (t' := (.object "java/lang/String")) (by decide) (by decide)))
  have f31 := Sta.wr W20 f14
  have f32 := Sta.wr W20 f15
  have f33 := f16.other W20 (Ne.symm pr15)
  have f34 := Exa.wr W20 f17
  have f35 := Fld.other W20 f18 (Or.inl (Ne.symm pr20))
  have f36 := Fld.other W20 f19 (Or.inl (Ne.symm pr20))
  have K20 : Keep h0 h20 [a1, pr] := K3.wr W20 (Or.inl (List.mem_of_getElem? (i := 0) rfl))
  have Z20 := Nat.le_trans Z3 (Nat.le_of_eq W20.size.symm)
  have N20 := Fr.snoc X20 N3 g_a1
  refine own_s T20 (mkF m 16 #[rv a1, .val .null, rv a2, rv a3, .val .null, rv a4, .val .null, rv pr] []) st20 ?_
  refine own_s T20 (mkF m 18 #[rv a1, .val .null, rv a2, rv a3, .val .null, rv a4, .val .null, rv pr] [(.ref a2), (.ref a1)]) (fun _ k => XS.aloadN X20.here hx rfl (hb hby own_dxi1_16) rfl rfl (XS.aloadN X20.here hx rfl (hb hby own_dxi1_17) rfl rfl k)) ?_
  obtain ⟨T37, h37, X37, e37, W37, st37⟩ := putF X20 hx hZ hown (host := "") (Or.inl (own_h hw 47 rfl)) Via.refl e20 f23 f21 (Or.inr ⟨(own_h hw 48 rfl), rfl, hnm⟩) (own_h hw 33 rfl) (ty := (.object "java/lang/String")) (by decide) rfl rfl (g := (mkF m 18 #[rv a1, .val .null, rv a2, rv a3, .val .null, rv a4, .val .null, rv pr] [(.ref a2), (.ref a1)])) rfl rfl (hb hby own_dxi1_18)
  have Fw37 := Fld.same W37 f23
  have f38 := Exa.wr W37 f21
  have f39 := Fld.other W37 f22 (Or.inr (slot_ne (Or.inl (own_h hw 44 rfl)) (Or.inr (own_h hw 48 rfl)) (by decide) (t := (.object "java/util/List")) (t' := (.object "java/lang/String")) (by decide) (by decide)))
  have f40 := Fld.other W37 Fw20 (Or.inr (slot_ne (Or.inr (own_h hw 46 rfl)) (Or.inr (own_h hw 48 rfl)) (by decide) (t := (.object "java/lang/String")) (t' := (.object "java/lang/String")) (by decide) (by decide)))
  have f41 := Fld.other W37 f24 (Or.inr (slot_ne (Or.inr (own_h hw 50 rfl)) (Or.inr (own_h hw 48 rfl)) (by decide) (t := (.object "java/lang/String")) (t' := (.object "java/lang/String")) (by decide) (by decide)))
  have f42 := Fld.other W37 f25 (Or.inr (slot_ne (Or.inr (own_h hw 52 rfl)) (Or.inr (own_h hw 48 rfl)) (by decide) (t := (.object "java/util/List")) (t' := (.object "java/lang/String")) (by decide) (by decide)))
  have f43 := Fld.other W37 f26 (Or.inr (slot_ne (Or.inr (own_h hw 56 rfl)) (Or.inr (own_h hw 48 rfl)) (by decide) (t := (.array (.object "java/lang/String"))) (t' := (.object "java/lang/String")) (by decide) (by decide)))
  have f44 := Fld.other W37 f27 (Or.inr (slot_ne (Or.inr (own_h hw 61 rfl)) (Or.inr (own_h hw 48 rfl)) (by decide) (t := .byte) (t' := (.object "java/lang/String")) (by decide) (by decide)))
  have f45 := Fld.other W37 f28 (Or.inr (slot_ne (Or.inr (own_h hw 63 rfl)) (Or.inr (own_h hw 48 rfl)) (by decide) (t := (.object "com/example/tagwright/tagwright/Location")) (t' := (.object "java/lang/String")) (by decide) (by decide)))
  have f46 := Fld.other W37 f29 (Or.inr (slot_ne (Or.inr (own_h hw 65 rfl)) (Or.inr (own_h hw 48 rfl)) (by decide) (t := (.object "com/example/tagwright/tagwright/XmlElement")) (t' := (.object "java/lang/String")) (by decide) (by decide)))
  have f47 := Fld.other W37 f30 (Or.inr (slot_ne (Or.inr (own_h hw 67 rfl)) (Or.inr (own_h hw 48 rfl)) (by decide) (t := .int) (t' := (.object "java/lang/String")) (by decide) (by decide)))
  have f48 := Sta.wr W37 f31
  have f49 := Sta.wr W37 f32
  have f50 := f33.other W37 (Ne.symm pr15)
  have f51 := Exa.wr W37 f34
  have f52 := Fld.other W37 f35 (Or.inl (Ne.symm pr20))
  have f53 := Fld.other W37 f36 (Or.inl (Ne.symm pr20))
  have K37 : Keep h0 h37 [a1, pr] := K20.wr W37 (Or.inl (List.mem_of_getElem? (i := 0) rfl))
  have Z37 := Nat.le_trans Z20 (Nat.le_of_eq W37.size.symm)
  have N37 := Fr.snoc X37 N20 g_a1
  refine own_s T37 (mkF m 21 #[rv a1, .val .null, rv a2, rv a3, .val .null, rv a4, .val .null, rv pr] []) st37 ?_
  refine own_s T37 (mkF m 23 #[rv a1, .val .null, rv a2, rv a3, .val .null, rv a4, .val .null, rv pr] [(.ref a3), (.ref a1)]) (fun _ k => XS.aloadN X37.here hx rfl (hb hby own_dxi1_21) rfl rfl (XS.aloadN X37.here hx rfl (hb hby own_dxi1_22) rfl rfl k)) ?_
  obtain ⟨T54, h54, X54, e54, W54, st54⟩ := putF X37 hx hZ hown (host := "") (Or.inl (own_h hw 49 rfl)) Via.refl e37 f41 f38 (Or.inr ⟨(own_h hw 50 rfl), rfl, hnm⟩) (own_h hw 33 rfl) (ty := (.object "java/lang/String")) (by decide) rfl rfl (g := (mkF m 23 #[rv a1, .val .null, rv a2, rv a3, .val .null, rv a4, .val .null, rv pr] [(.ref a3), (.ref a1)])) rfl rfl (hb hby own_dxi1_23)
  have Fw54 := Fld.same W54 f41
  have f55 := Exa.wr W54 f38
  have f56 := Fld.other W54 f39 (Or.inr (slot_ne (Or.inl (own_h hw 44 rfl)) (Or.inr (own_h hw 50 rfl)) (by decide) (t := (.object "java/util/List")) (t' := (.object "java/lang/String")) (by decide) (by decide)))
  have f57 := Fld.other W54 f40 (Or.inr (slot_ne (Or.inr (own_h hw 46 rfl)) (Or.inr (own_h hw 50 rfl)) (by decide) (t := (.object "java/lang/String")) (t' := (.object "java/lang/String")) (by decide) (by decide)))
  have f58 := Fld.other W54 Fw37 (Or.inr (slot_ne (Or.inr (own_h hw 48 rfl)) (Or.inr (own_h hw 50 rfl)) (by decide) (t := (.object "java/lang/String")) (t' := (.object "java/lang/String")) (by decide) (by decide)))
  have f59 := Fld.other W54 f42 (Or.inr (slot_ne (Or.inr (own_h hw 52 rfl)) (Or.inr (own_h hw 50 rfl)) (by decide) (t := (.object "java/util/List")) (t' := (.object "java/lang/String")) (by decide) (by decide)))
  have f60 := Fld.other W54 f43 (Or.inr (slot_ne (Or.inr (own_h hw 56 rfl)) (Or.inr (own_h hw 50 rfl)) (by decide) (t := (.array (.object "java/lang/String"))) (t' := (.object "java/lang/String")) (by decide) (by decide)))
  have f61 := Fld.other W54 f44 (Or.inr (slot_ne (Or.inr (own_h hw 61 rfl)) (Or.inr (own_h hw 50 rfl)) (by decide) (t := .byte) (t' := (.object "java/lang/String")) (by decide) (by decide)))
  have f62 := Fld.other W54 f45 (Or.inr (slot_ne (Or.inr (own_h hw 63 rfl)) (Or.inr (own_h hw 50 rfl)) (by decide) (t := (.object "com/example/tagwright/tagwright/Location")) (t' := (.object "java/lang/String")) (by decide) (by decide)))
  have f63 := Fld.other W54 f46 (Or.inr (slot_ne (Or.inr (own_h hw 65 rfl)) (Or.inr (own_h hw 50 rfl)) (by decide) (t := (.object "com/example/tagwright/tagwright/XmlElement")) (t' := (.object "java/lang/String")) (by decide) (by decide)))
  have f64 := Fld.other W54 f47 (Or.inr (slot_ne (Or.inr (own_h hw 67 rfl)) (Or.inr (own_h hw 50 rfl)) (by decide) (t := .int) (t' := (.object "java/lang/String")) (by decide) (by decide)))
  have f65 := Sta.wr W54 f48
  have f66 := Sta.wr W54 f49
  have f67 := f50.other W54 (Ne.symm pr15)
  have f68 := Exa.wr W54 f51
  have f69 := Fld.other W54 f52 (Or.inl (Ne.symm pr20))
  have f70 := Fld.other W54 f53 (Or.inl (Ne.symm pr20))
  have K54 : Keep h0 h54 [a1, pr] := K37.wr W54 (Or.inl (List.mem_of_getElem? (i := 0) rfl))
  have Z54 := Nat.le_trans Z37 (Nat.le_of_eq W54.size.symm)
  have N54 := Fr.snoc X54 N37 g_a1
  refine own_s T54 (mkF m 26 #[rv a1, .val .null, rv a2, rv a3, .val .null, rv a4, .val .null, rv pr] []) st54 ?_
  refine own_s T54 (mkF m 29 #[rv a1, .val .null, rv a2, rv a3, .val .null, rv a4, .val .null, rv pr] [.null, (.ref a1)]) (fun _ k => XS.aloadN X54.here hx rfl (hb hby own_dxi1_26) rfl rfl (XS.aload X54.here hx rfl (hb hby own_dxi1_27) rfl rfl k)) ?_
  obtain ⟨T71, h71, X71, e71, W71, st71⟩ := putF X54 hx hZ hown (host := "") (Or.inl (own_h hw 51 rfl)) Via.refl e54 f59 f55 (Or.inr ⟨(own_h hw 52 rfl), rfl, hnm⟩) (own_h hw 33 rfl) (ty := (.object "java/util/List")) (by decide) rfl rfl (g := (mkF m 29 #[rv a1, .val .null, rv a2, rv a3, .val .null, rv a4, .val .null, rv pr] [.null, (.ref a1)])) rfl rfl (hb hby own_dxi1_29)
  have Fw71 := Fld.same W71 f59
  have f72 := Exa.wr W71 f55
  have f73 := Fld.other W71 f56 (Or.inr (slot_ne (Or.inl (own_h hw 44 rfl)) (Or.inr (own_h hw 52 rfl)) (by decide) (t := (.object "java/util/List")) (t' := (.object "java/util/List")) (by decide) (by decide)))
  have f74 := Fld.other W71 f57 (Or.inr (slot_ne (Or.inr (own_h hw 46 rfl)) (Or.inr (own_h hw 52 rfl)) (by decide) (t := (.object "java/lang/String")) (t' := (.object "java/util/List")) (by decide) (by decide)))
  have f75 := Fld.other W71 f58 (Or.inr (slot_ne (Or.inr (own_h hw 48 rfl)) (Or.inr (own_h hw 52 rfl)) (by decide) (t := (.object "java/lang/String")) (t' := (.object "java/util/List")) (by decide) (by decide)))
  have f76 := Fld.other W71 Fw54 (Or.inr (slot_ne (Or.inr (own_h hw 50 rfl)) (Or.inr (own_h hw 52 rfl)) (by decide) (t := (.object "java/lang/String")) (t' := (.object "java/util/List")) (by decide) (by decide)))
  have f77 := Fld.other W71 f60 (Or.inr (slot_ne (Or.inr (own_h hw 56 rfl)) (Or.inr (own_h hw 52 rfl)) (by decide) (t := (.array (.object "java/lang/String"))) (t' := (.object "java/util/List")) (by decide) (by decide)))
  have f78 := Fld.other W71 f61 (Or.inr (slot_ne (Or.inr (own_h hw 61 rfl)) (Or.inr (own_h hw 52 rfl)) (by decide) (t := .byte) (t' := (.object "java/util/List")) (by decide) (by decide)))
  have f79 := Fld.other W71 f62 (Or.inr (slot_ne (Or.inr (own_h hw 63 rfl)) (Or.inr (own_h hw 52 rfl)) (by decide) (t := (.object "com/example/tagwright/tagwright/Location")) (t' := (.object "java/util/List")) (by decide) (by decide)))
  have f80 := Fld.other W71 f63 (Or.inr (slot_ne (Or.inr (own_h hw 65 rfl)) (Or.inr (own_h hw 52 rfl)) (by decide) (t := (.object "com/example/tagwright/tagwright/XmlElement")) (t' := (.object "java/util/List")) (by decide) (by decide)))
  have f81 := Fld.other W71 f64 (Or.inr (slot_ne (Or.inr (own_h hw 67 rfl)) (Or.inr (own_h hw 52 rfl)) (by decide) (t := .int) (t' := (.object "java/util/List")) (by decide) (by decide)))
  have f82 := Sta.wr W71 f65
  have f83 := Sta.wr W71 f66
  have f84 := f67.other W71 (Ne.symm pr15)
  have f85 := Exa.wr W71 f68
  have f86 := Fld.other W71 f69 (Or.inl (Ne.symm pr20))
  have f87 := Fld.other W71 f70 (Or.inl (Ne.symm pr20))
  have K71 : Keep h0 h71 [a1, pr] := K54.wr W71 (Or.inl (List.mem_of_getElem? (i := 0) rfl))
  have Z71 := Nat.le_trans Z54 (Nat.le_of_eq W71.size.symm)
  have N71 := Fr.snoc X71 N54 g_a1
  refine own_s T71 (mkF m 32 #[rv a1, .val .null, rv a2, rv a3, .val .null, rv a4, .val .null, rv pr] []) st71 ?_
  refine own_s T71 (mkF m 35 #[rv a1, .val .null, rv a2, rv a3, .val .null, rv a4, .val .null, rv pr] [(.ref a4), (.ref a1)]) (fun _ k => XS.aloadN X71.here hx rfl (hb hby own_dxi1_32) rfl rfl (XS.aload X71.here hx rfl (hb hby own_dxi1_33) rfl rfl k)) ?_
  obtain ⟨cl88, Ar88, q88, S88, Nn88, H88, G88⟩ := id f84
  refine own_s T71 (mkF m 39 #[rv a1, .val .null, rv a2, rv a3, .val .null, rv a4, .val .null, rv pr] [(.ref a1)]) (fun _ k => own_len X71 hx hZ e71 Ar88 S88 Nn88 (g := (mkF m 35 #[rv a1, .val .null, rv a2, rv a3, .val .null, rv a4, .val .null, rv pr] [(.ref a4), (.ref a1)])) rfl rfl (hb hby own_dxi1_35) (XS.ifNo X71.here hx rfl (hb hby own_dxi1_36) rfl ((if0 _ _).trans (teq (by decide : ((0 : Int32) = (0 : Int32)))).2) k)) ?_
  obtain ⟨T89, X89, e89, st89⟩ := getS2 X71 hx hZ hown (host := "") (Or.inl (own_h hw 53 rfl)) Via.refl e71 f83 (g := (mkF m 39 #[rv a1, .val .null, rv a2, rv a3, .val .null, rv a4, .val .null, rv pr] [(.ref a1)])) rfl (hb hby own_dxi1_39)
  refine own_s T89 (mkF m 42 #[rv a1, .val .null, rv a2, rv a3, .val .null, rv a4, .val .null, rv pr] [(.ref oA), (.ref a1)]) st89 ?_
  refine own_s T89 (mkF m 47 #[rv a1, .val .null, rv a2, rv a3, .val .null, rv a4, .val .null, rv pr] [(.ref oA), (.ref a1)]) (fun _ k => XS.goto X89.here hx rfl (pc0 := 42) (pc' := 47) rfl (hb hby own_dxi1_42) (by decide) (by decide) k) ?_
  obtain ⟨T90, h90, X90, e90, W90, st90⟩ := putF X89 hx hZ hown (host := "") (Or.inl (own_h hw 55 rfl)) Via.refl e89 f77 f72 (Or.inr ⟨(own_h hw 56 rfl), rfl, hnm⟩) (own_h hw 33 rfl) (ty := (.array (.object "java/lang/String"))) (by decide) rfl rfl (g := (mkF m 47 #[rv a1, .val .null, rv a2, rv a3, .val .null, rv a4, .val .null, rv pr] [(.ref oA), (.ref a1)])) rfl rfl (hb hby own_dxi1_47)
  have Fw90 := Fld.same W90 f77
  have f91 := Exa.wr W90 f72
  have f92 := Fld.other W90 f73 (Or.inr (slot_ne (Or.inl (own_h hw 44 rfl)) (Or.inr (own_h hw 56 rfl)) (by decide) (t := (.object "java/util/List")) (t' := (.array (.object "java/lang/String"))) (by decide) (by decide)))
  have f93 := Fld.other W90 f74 (Or.inr (slot_ne (Or.inr (own_h hw 46 rfl)) (Or.inr (own_h hw 56 rfl)) (by decide) (t := (.object "java/lang/String")) (t' := (.array (.object "java/lang/String"))) (by decide) (by decide)))
  have f94 := Fld.other W90 f75 (Or.inr (slot_ne (Or.inr (own_h hw 48 rfl)) (Or.inr (own_h hw 56 rfl)) (by decide) (t := (.object "java/lang/String")) (t' := (.array (.object "java/lang/String"))) (by decide) (by decide)))
  have f95 := Fld.other W90 f76 (Or.inr (slot_ne (Or.inr (own_h hw 50 rfl)) (Or.inr (own_h hw 56 rfl)) (by decide) (t := (.object "java/lang/String")) (t' := (.array (.object "java/lang/String"))) (by decide) (by decide)))
  have f96 := Fld.other W90 Fw71 (Or.inr (slot_ne (Or.inr (own_h hw 52 rfl)) (Or.inr (own_h hw 56 rfl)) (by decide) (t := (.object "java/util/List")) (t' := (.array (.object "java/lang/String"))) (by decide) (by decide)))
  have f97 := Fld.other W90 f78 (Or.inr (slot_ne (Or.inr (own_h hw 61 rfl)) (Or.inr (own_h hw 56 rfl)) (by decide) (t := .byte) (t' := (.array (.object "java/lang/String"))) (by decide) (by decide)))
  have f98 := Fld.other W90 f79 (Or.inr (slot_ne (Or.inr (own_h hw 63 rfl)) (Or.inr (own_h hw 56 rfl)) (by decide) (t := (.object "com/example/tagwright/tagwright/Location")) (t' := (.array (.object "java/lang/String"))) (by decide) (by decide)))
  have f99 := Fld.other W90 f80 (Or.inr (slot_ne (Or.inr (own_h hw 65 rfl)) (Or.inr (own_h hw 56 rfl)) (by decide) (t := (.object "com/example/tagwright/tagwright/XmlElement")) (t' := (.array (.object "java/lang/String"))) (by decide) (by decide)))
  have f100 := Fld.other W90 f81 (Or.inr (slot_ne (Or.inr (own_h hw 67 rfl)) (Or.inr (own_h hw 56 rfl)) (by decide) (t := .int) (t' := (.array (.object "java/lang/String"))) (by decide) (by decide)))
  have f101 := Sta.wr W90 f82
  have f102 := Sta.wr W90 f83
  have f103 := f84.other W90 (Ne.symm pr15)
  have f104 := Exa.wr W90 f85
  have f105 := Fld.other W90 f86 (Or.inl (Ne.symm pr20))
  have f106 := Fld.other W90 f87 (Or.inl (Ne.symm pr20))
  have K90 : Keep h0 h90 [a1, pr] := K71.wr W90 (Or.inl (List.mem_of_getElem? (i := 0) rfl))
  have Z90 := Nat.le_trans Z71 (Nat.le_of_eq W90.size.symm)
  have N90 := Fr.snoc X90 N71 g_a1
  refine own_s T90 (mkF m 50 #[rv a1, .val .null, rv a2, rv a3, .val .null, rv a4, .val .null, rv pr] []) st90 ?_
  refine own_s T90 (mkF m 53 #[rv a1, .val .null, rv a2, rv a3, .val .null, rv a4, .val .null, rv pr] [(.ref a4), (.ref a1)]) (fun _ k => XS.aloadN X90.here hx rfl (hb hby own_dxi1_50) rfl rfl (XS.aload X90.here hx rfl (hb hby own_dxi1_51) rfl rfl k)) ?_
  obtain ⟨v107, T107, L107, X107, hQ107, st107⟩ := own_callS X90 hx hZ (y := own_y14) (W := 1) hown (own_h hw 57 rfl) (own_h hw 58 rfl) (own_h hw 34 rfl) (own_h hw 59 rfl) (by decide) (own_rmisn l Z a0 hw [] a4 ka h90 n0 Z90 f103) (by decide) (by decide) (g := (mkF m 53 #[rv a1, .val .null, rv a2, rv a3, .val .null, rv a4, .val .null, rv pr] [(.ref a4), (.ref a1)])) rfl (by rw [hml]; rfl) (argsL := [(.ref a4)]) (rest := [(.ref a1)]) rfl (lenOf own_pd8 rfl) rfl (by show 2 * 0 + _ ≤ _; exact Nat.le_of_eq rfl) (hb hby own_dxi1_53) e90 (by decide) (by decide)
  obtain ⟨rfl, Nq107, Kq107⟩ := hQ107
  have N107 := Fr.app N90 Nq107
  have f108 := f91.keep Kq107
  have f109 := f92.keep Kq107 nin0
  have f110 := f93.keep Kq107 nin0
  have f111 := f94.keep Kq107 nin0
  have f112 := f95.keep Kq107 nin0
  have f113 := f96.keep Kq107 nin0
  have f114 := Fw90.keep Kq107 nin0
  have f115 := f97.keep Kq107 nin0
  have f116 := f98.keep Kq107 nin0
  have f117 := f99.keep Kq107 nin0
  have f118 := f100.keep Kq107 nin0
  have f119 := own_staKeep f101 Kq107
  have f120 := own_staKeep f102 Kq107
  have f121 := f103.keep Kq107 nin0
  have f122 := f104.keep Kq107
  have f123 := f105.keep Kq107 nin0
  have f124 := f106.keep Kq107 nin0
  have K107 : Keep h0 T107.heap [a1, pr] := K90.trans Kq107 all0
  have Z107 := Nat.le_trans Z90 Kq107.1
  refine own_s T107 (mkF m 56 #[rv a1, .val .null, rv a2, rv a3, .val .null, rv a4, .val .null, rv pr] [(.int 0), (.ref a1)]) st107 ?_
  refine own_s T107 (mkF m 65 #[rv a1, .val .null, rv a2, rv a3, .val .null, rv a4, .val .null, rv pr] [(.int ((2 : Int32).toInt8.toInt32)), (.ref a1)]) (fun _ k => XS.ifYes X107.here hx rfl (pc0 := 56) (pc' := 63) rfl (hb hby own_dxi1_56) rfl ((if0 _ _).trans (teq (by decide : ((0 : Int32) = (0 : Int32)))).1) (by decide) (by decide) (XS.iconst X107.here hx rfl (hb hby own_dxi1_63) (XS.i2b X107.here hx rfl (hb hby own_dxi1_64) rfl k))) ?_
  obtain ⟨T125, h125, X125, e125, W125, st125⟩ := putFN X107 hx hZ hown (own_h hw 60 rfl) Via.refl rfl f115 f108 (Or.inr ⟨(own_h hw 61 rfl), rfl, hnm⟩) (own_h hw 33 rfl) (ty := .byte) (v' := (.int 2)) (by decide) rfl rfl (g := (mkF m 65 #[rv a1, .val .null, rv a2, rv a3, .val .null, rv a4, .val .null, rv pr] [(.int ((2 : Int32).toInt8.toInt32)), (.ref a1)])) rfl rfl (hb hby own_dxi1_65)
  have Fw125 := Fld.same W125 f115
  have f126 := Exa.wr W125 f108
  have f127 := Fld.other W125 f109 (Or.inr (slot_ne (Or.inl (own_h hw 44 rfl)) (Or.inr (own_h hw 61 rfl)) (by decide) (t := (.object "java/util/List")) (t' := .byte) (by decide) (by decide)))
  have f128 := Fld.other W125 f110 (Or.inr (slot_ne (Or.inr (own_h hw 46 rfl)) (Or.inr (own_h hw 61 rfl)) (by decide) (t := (.object "java/lang/String")) (t' := .byte) (by decide) (by decide)))
  have f129 := Fld.other W125 f111 (Or.inr (slot_ne (Or.inr (own_h hw 48 rfl)) (Or.inr (own_h hw 61 rfl)) (by decide) (t := (.object "java/lang/String")) (t' := .byte) (by decide) (by decide)))
  have f130 := Fld.other W125 f112 (Or.inr (slot_ne (Or.inr (own_h hw 50 rfl)) (Or.inr (own_h hw 61 rfl)) (by decide) (t := (.object "java/lang/String")) (t' := .byte) (by decide) (by decide)))
  have f131 := Fld.other W125 f113 (Or.inr (slot_ne (Or.inr (own_h hw 52 rfl)) (Or.inr (own_h hw 61 rfl)) (by decide) (t := (.object "java/util/List")) (t' := .byte) (by decide) (by decide)))
  have f132 := Fld.other W125 f114 (Or.inr (slot_ne (Or.inr (own_h hw 56 rfl)) (Or.inr (own_h hw 61 rfl)) (by decide) (t := (.array (.object "java/lang/String"))) (t' := .byte) (by decide) (by decide)))
  have f133 := Fld.other W125 f116 (Or.inr (slot_ne (Or.inr (own_h hw 63 rfl)) (Or.inr (own_h hw 61 rfl)) (by decide) (t := (.object "com/example/tagwright/tagwright/Location")) (t' := .byte) (by decide) (by decide)))
  have f134 := Fld.other W125 f117 (Or.inr (slot_ne (Or.inr (own_h hw 65 rfl)) (Or.inr (own_h hw 61 rfl)) (by decide) (t := (.object "com/example/tagwright/tagwright/XmlElement")) (t' := .byte) (by decide) (by decide)))
  have f135 := Fld.other W125 f118 (Or.inr (slot_ne (Or.inr (own_h hw 67 rfl)) (Or.inr (own_h hw 61 rfl)) (by decide) (t := .int) (t' := .byte) (by decide) (by decide)))
  have f136 := Sta.wr W125 f119
  have f137 := Sta.wr W125 f120
  have f138 := f121.other W125 (Ne.symm pr15)
  have f139 := Exa.wr W125 f122
  have f140 := Fld.other W125 f123 (Or.inl (Ne.symm pr20))
  have f141 := Fld.other W125 f124 (Or.inl (Ne.symm pr20))
  have K125 : Keep h0 h125 [a1, pr] := K107.wr W125 (Or.inl (List.mem_of_getElem? (i := 0) rfl))
  have Z125 := Nat.le_trans Z107 (Nat.le_of_eq W125.size.symm)
  have N125 := Fr.snoc X125 N107 g_a1
  refine own_s T125 (mkF m 68 #[rv a1, .val .null, rv a2, rv a3, .val .null, rv a4, .val .null, rv pr] []) st125 ?_
  refine own_s T125 (mkF m 71 #[rv a1, .val .null, rv a2, rv a3, .val .null, rv a4, .val .null, rv pr] [.null, (.ref a1)]) (fun _ k => XS.aloadN X125.here hx rfl (hb hby own_dxi1_68) rfl rfl (XS.aload X125.here hx rfl (hb hby own_dxi1_69) rfl rfl k)) ?_
  obtain ⟨T142, h142, X142, e142, W142, st142⟩ := putF X125 hx hZ hown (host := "") (Or.inl (own_h hw 62 rfl)) Via.refl e125 f133 f126 (Or.inr ⟨(own_h hw 63 rfl), rfl, hnm⟩) (own_h hw 33 rfl) (ty := (.object "com/example/tagwright/tagwright/Location")) (by decide) rfl rfl (g := (mkF m 71 #[rv a1, .val .null, rv a2, rv a3, .val .null, rv a4, .val .null, rv pr] [.null, (.ref a1)])) rfl rfl (hb hby own_dxi1_71)
  have Fw142 := Fld.same W142 f133
  have f143 := Exa.wr W142 f126
  have f144 := Fld.other W142 f127 (Or.inr (slot_ne (Or.inl (own_h hw 44 rfl)) (Or.inr (own_h hw 63 rfl)) (by decide) (t := (.object "java/util/List")) (t' := (.object "com/example/tagwright/tagwright/Location")) (by decide) (by decide)))
  have f145 := Fld.other W142 f128 (Or.inr (slot_ne (Or.inr (own_h hw 46 rfl)) (Or.inr (own_h hw 63 rfl)) (by decide) (t := (.object "java/lang/String")) (t' := (.object "com/example/tagwright/tagwright/Location")) (by decide) (by decide)))
  have f146 := Fld.other W142 f129 (Or.inr (slot_ne (Or.inr (own_h hw 48 rfl)) (Or.inr (own_h hw 63 rfl)) (by decide) (t := (.object "java/lang/String")) (t' := (.object "com/example/tagwright/tagwright/Location")) (by decide) (by decide)))
  have f147 := Fld.other W142 f130 (Or.inr (slot_ne (Or.inr (own_h hw 50 rfl)) (Or.inr (own_h hw 63 rfl)) (by decide) (t := (.object "java/lang/String")) (t' := (.object "com/example/tagwright/tagwright/Location")) (by decide) (by decide)))
  have f148 := Fld.other W142 f131 (Or.inr (slot_ne (Or.inr (own_h hw 52 rfl)) (Or.inr (own_h hw 63 rfl)) (by decide) (t := (.object "java/util/List")) (t' := (.object "com/example/tagwright/tagwright/Location")) (by decide) (by decide)))
  have f149 := Fld.other W142 f132 (Or.inr (slot_ne (Or.inr (own_h hw 56 rfl)) (Or.inr (own_h hw 63 rfl)) (by decide) (t := (.array (.object "java/lang/String"))) (t' := (.object "com/example/tagwright/tagwright/Location")) (by decide) (by decide)))
  have f150 := Fld.other W142 Fw125 (Or.inr (slot_ne (Or.inr (own_h hw 61 rfl)) (Or.inr (own_h hw 63 rfl)) (by decide) (t := .byte) (t' := (.object "com/example/tagwright/tagwright/Location")) (by decide) (by decide)))
  have f151 := Fld.other W142 f134 (Or.inr (slot_ne (Or.inr (own_h hw 65 rfl)) (Or.inr (own_h hw 63 rfl)) (by decide) (t := (.object "com/example/tagwright/tagwright/XmlElement")) (t' := (.object "com/example/tagwright/tagwright/Location")) (by decide) (by decide)))
  have f152 := Fld.other W142 f135 (Or.inr (slot_ne (Or.inr (own_h hw 67 rfl)) (Or.inr (own_h hw 63 rfl)) (by decide) (t := .int) (t' := (.object "com/example/tagwright/tagwright/Location")) (by decide) (by decide)))
  have f153 := Sta.wr W142 f136
  have f154 := Sta.wr W142 f137
  have f155 := f138.other W142 (Ne.symm pr15)
  have f156 := Exa.wr W142 f139
  have f157 := Fld.other W142 f140 (Or.inl (Ne.symm pr20))
  have f158 := Fld.other W142 f141 (Or.inl (Ne.symm pr20))
  have K142 : Keep h0 h142 [a1, pr] := K125.wr W142 (Or.inl (List.mem_of_getElem? (i := 0) rfl))
  have Z142 := Nat.le_trans Z125 (Nat.le_of_eq W142.size.symm)
  have N142 := Fr.snoc X142 N125 g_a1
  refine own_s T142 (mkF m 74 #[rv a1, .val .null, rv a2, rv a3, .val .null, rv a4, .val .null, rv pr] []) st142 ?_
  refine own_s T142 (mkF m 77 #[rv a1, .val .null, rv a2, rv a3, .val .null, rv a4, .val .null, rv pr] [(.ref pr), (.ref a1)]) (fun _ k => XS.aloadN X142.here hx rfl (hb hby own_dxi1_74) rfl rfl (XS.aload X142.here hx rfl (hb hby own_dxi1_75) rfl rfl k)) ?_
  obtain ⟨T159, h159, X159, e159, W159, st159⟩ := putF X142 hx hZ hown (host := "") (Or.inl (own_h hw 64 rfl)) Via.refl e142 f151 f143 (Or.inr ⟨(own_h hw 65 rfl), rfl, hnm⟩) (own_h hw 33 rfl) (ty := (.object "com/example/tagwright/tagwright/XmlElement")) (by decide) rfl rfl (g := (mkF m 77 #[rv a1, .val .null, rv a2, rv a3, .val .null, rv a4, .val .null, rv pr] [(.ref pr), (.ref a1)])) rfl rfl (hb hby own_dxi1_77)
  have Fw159 := Fld.same W159 f151
  have f160 := Exa.wr W159 f143
  have f161 := Fld.other W159 f144 (Or.inr (slot_ne (Or.inl (own_h hw 44 rfl)) (Or.inr (own_h hw 65 rfl)) (by decide) (t := (.object "java/util/List")) (t' := (.object "com/example/tagwright/tagwright/XmlElement")) (by decide) (by decide)))
  have f162 := Fld.other W159 f145 (Or.inr (slot_ne (Or.inr (own_h hw 46 rfl)) (Or.inr (own_h hw 65 rfl)) (by decide) (t := (.object "java/lang/String")) (t' := (.object "com/example/tagwright/tagwright/XmlElement")) (by decide) (by decide)))
  have f163 := Fld.other W159 f146 (Or.inr (slot_ne (Or.inr (own_h hw 48 rfl)) (Or.inr (own_h hw 65 rfl)) (by decide) (t := (.object "java/lang/String")) (t' := (.object "com/example/tagwright/tagwright/XmlElement")) (by decide) (by decide)))
  have f164 := Fld.other W159 f147 (Or.inr (slot_ne (Or.inr (own_h hw 50 rfl)) (Or.inr (own_h hw 65 rfl)) (by decide) (t := (.object "java/lang/String")) (t' := (.object "com/example/tagwright/tagwright/XmlElement")) (by decide) (by decide)))
  have f165 := Fld.other W159 f148 (Or.inr (slot_ne (Or.inr (own_h hw 52 rfl)) (Or.inr (own_h hw 65 rfl)) (by decide) (t := (.object "java/util/List")) (t' := (.object "com/example/tagwright/tagwright/XmlElement")) (by decide) (by decide)))
  have f166 := Fld.other W159 f149 (Or.inr (slot_ne (Or.inr (own_h hw 56 rfl)) (Or.inr (own_h hw 65 rfl)) (by decide) (t := (.array (.object "java/lang/String"))) (t' := (.object "com/example/tagwright/tagwright/XmlElement")) (by decide) (by decide)))
  have f167 := Fld.other W159 f150 (Or.inr (slot_ne (Or.inr (own_h hw 61 rfl)) (Or.inr (own_h hw 65 rfl)) (by decide) (t := .byte) (t' := (.object "com/example/tagwright/tagwright/XmlElement")) (by decide) (by decide)))
  have f168 := Fld.other W159 Fw142 (Or.inr (slot_ne (Or.inr (own_h hw 63 rfl)) (Or.inr (own_h hw 65 rfl)) (by decide) (t := (.object "com/example/tagwright/tagwright/Location")) (t' := (.object "com/example/tagwright/tagwright/XmlElement")) (by decide) (by decide)))
  have f169 := Fld.other W159 f152 (Or.inr (slot_ne (Or.inr (own_h hw 67 rfl)) (Or.inr (own_h hw 65 rfl)) (by decide) (t := .int) (t' := (.object "com/example/tagwright/tagwright/XmlElement")) (by decide) (by decide)))
  have f170 := Sta.wr W159 f153
  have f171 := Sta.wr W159 f154
  have f172 := f155.other W159 (Ne.symm pr15)
  have f173 := Exa.wr W159 f156
  have f174 := Fld.other W159 f157 (Or.inl (Ne.symm pr20))
  have f175 := Fld.other W159 f158 (Or.inl (Ne.symm pr20))
  have K159 : Keep h0 h159 [a1, pr] := K142.wr W159 (Or.inl (List.mem_of_getElem? (i := 0) rfl))
  have Z159 := Nat.le_trans Z142 (Nat.le_of_eq W159.size.symm)
  have N159 := Fr.snoc X159 N142 g_a1
  refine own_s T159 (mkF m 80 #[rv a1, .val .null, rv a2, rv a3, .val .null, rv a4, .val .null, rv pr] []) st159 ?_
  refine own_s T159 (mkF m 93 #[rv a1, .val .null, rv a2, rv a3, .val .null, rv a4, .val .null, rv pr] [(.ref a1), (.ref pr), (.ref a1)]) (fun _ k => XS.aloadN X159.here hx rfl (hb hby own_dxi1_80) rfl rfl (XS.aload X159.here hx rfl (hb hby own_dxi1_81) rfl rfl (XS.ifnonnullYes X159.here hx rfl (pc0 := 83) (pc' := 90) rfl (hb hby own_dxi1_83) rfl (by decide) (by decide) (XS.aload X159.here hx rfl (hb hby own_dxi1_90) rfl rfl (XS.aloadN X159.here hx rfl (hb hby own_dxi1_92) rfl rfl k))))) ?_
  obtain ⟨v176, T176, L176, X176, hQ176, st176⟩ := own_callP X159 hx hZ (y := own_y13) (W := 1) (a := pr) hown (own_h hw 111 rfl) (own_h hw 112 rfl) (own_h hw 33 rfl) (own_h hw 113 rfl) (own_h hw 34 rfl) (own_h hw 114 rfl) (by decide) (own_rmadp0 l Z a0 hw [] pr a1 oN w h159 n0 Z159 g_pr f173 f174 f175 f170 f160 rw) (by decide) (by decide) f173 (g := (mkF m 93 #[rv a1, .val .null, rv a2, rv a3, .val .null, rv a4, .val .null, rv pr] [(.ref a1), (.ref pr), (.ref a1)])) rfl (by rw [hml]; rfl) (argsL := [(.ref a1)]) (rest := [(.ref a1)]) rfl (lenOf own_pd9 rfl) rfl (by show 2 * 0 + _ ≤ _; exact Nat.le_of_eq rfl) (hb hby own_dxi1_93) e159 (by decide) (by decide)
  obtain ⟨zli176, zd176, zkd176, rfl, Nq176, Kq176, g_zli176, sq_zli176, g_zd176, sq_zd176, q176_0, q176_1, q176_2, q176_3, q176_4, q176_5, q176_6, q176_7, q176_8, q176_9⟩ := hQ176
  have N176 := Fr.app N159 Nq176
  have ne_a1_zli176 : a1 ≠ zli176 := Nat.ne_of_lt (Nat.lt_of_lt_of_le f160.lt sq_zli176)
  have ne_a1_zd176 : a1 ≠ zd176 := Nat.ne_of_lt (Nat.lt_of_lt_of_le f160.lt sq_zd176)
  have ne_a4_zli176 : a4 ≠ zli176 := Nat.ne_of_lt (Nat.lt_of_lt_of_le f172.lt sq_zli176)
  have ne_a4_zd176 : a4 ≠ zd176 := Nat.ne_of_lt (Nat.lt_of_lt_of_le f172.lt sq_zd176)
  have ne_pr_zli176 : pr ≠ zli176 := Nat.ne_of_lt (Nat.lt_of_lt_of_le f173.lt sq_zli176)
  have ne_pr_zd176 : pr ≠ zd176 := Nat.ne_of_lt (Nat.lt_of_lt_of_le f173.lt sq_zd176)
  have sz_zli176 : h0.size ≤ zli176 := Nat.le_trans K159.1 sq_zli176
  have sz_zd176 : h0.size ≤ zd176 := Nat.le_trans K159.1 sq_zd176
  have f177 := f160.keep Kq176
  have f178 := f161.keep Kq176 (ninS pr20 nin0)
  have f179 := f162.keep Kq176 (ninS pr20 nin0)
  have f180 := f163.keep Kq176 (ninS pr20 nin0)
  have f181 := f164.keep Kq176 (ninS pr20 nin0)
  have f182 := f165.keep Kq176 (ninS pr20 nin0)
  have f183 := f166.keep Kq176 (ninS pr20 nin0)
  have f184 := f167.keep Kq176 (ninS pr20 nin0)
  have f185 := f168.keep Kq176 (ninS pr20 nin0)
  have f186 := Fw159.keep Kq176 (ninS pr20 nin0)
  have f187 := f169.keep Kq176 (ninS pr20 nin0)
  have f188 := own_staKeepW f170 Kq176 (allS f173.nostat all0)
  have f189 := own_staKeepW f171 Kq176 (allS f173.nostat all0)
  have f190 := f172.keep Kq176 (ninS (Ne.symm pr21) nin0)
  have f191 := f173.keep Kq176
  have K176 : Keep h0 T176.heap [a1, pr] := K159.trans Kq176 (allS (Or.inl (List.mem_of_getElem? (i := 1) rfl)) all0)
  have Z176 := Nat.le_trans Z159 Kq176.1
  refine own_s T176 (mkF m 96 #[rv a1, .val .null, rv a2, rv a3, .val .null, rv a4, .val .null, rv pr] [(.int 0), (.ref a1)]) st176 ?_
  obtain ⟨T192, h192, X192, e192, W192, st192⟩ := putF X176 hx hZ hown (host := "") (Or.inl (own_h hw 66 rfl)) Via.refl rfl f187 f177 (Or.inr ⟨(own_h hw 67 rfl), rfl, hnm⟩) (own_h hw 33 rfl) (ty := .int) (by decide) rfl rfl (g := (mkF m 96 #[rv a1, .val .null, rv a2, rv a3, .val .null, rv a4, .val .null, rv pr] [(.int 0), (.ref a1)])) rfl rfl (hb hby own_dxi1_96)
  have Fw192 := Fld.same W192 f187
  have f193 := Exa.wr W192 f177
  have f194 := Fld.other W192 f178 (Or.inr (slot_ne (Or.inl (own_h hw 44 rfl)) (Or.inr (own_h hw 67 rfl)) (by decide) (t := (.object "java/util/List")) (t' := .int) (by decide) (by decide)))
  have f195 := Fld.other W192 f179 (Or.inr (slot_ne (Or.inr (own_h hw 46 rfl)) (Or.inr (own_h hw 67 rfl)) (by decide) (t := (.object "java/lang/String")) (t' := .int) (by decide) (by decide)))
  have f196 := Fld.other W192 f180 (Or.inr (slot_ne (Or.inr (own_h hw 48 rfl)) (Or.inr (own_h hw 67 rfl)) (by decide) (t := (.object "java/lang/String")) (t' := .int) (by decide) (by decide)))
  have f197 := Fld.other W192 f181 (Or.inr (slot_ne (Or.inr (own_h hw 50 rfl)) (Or.inr (own_h hw 67 rfl)) (by decide) (t := (.object "java/lang/String")) (t' := .int) (by decide) (by decide)))
  have f198 := Fld.other W192 f182 (Or.inr (slot_ne (Or.inr (own_h hw 52 rfl)) (Or.inr (own_h hw 67 rfl)) (by decide) (t := (.object "java/util/List")) (t' := .int) (by decide) (by decide)))
  have f199 := Fld.other W192 f183 (Or.inr (slot_ne (Or.inr (own_h hw 56 rfl)) (Or.inr (own_h hw 67 rfl)) (by decide) (t := (.array (.object "java/lang/String"))) (t' := .int) (by decide) (by decide)))
  have f200 := Fld.other W192 f184 (Or.inr (slot_ne (Or.inr (own_h hw 61 rfl)) (Or.inr (own_h hw 67 rfl)) (by decide) (t := .byte) (t' := .int) (by decide) (by decide)))
  have f201 := Fld.other W192 f185 (Or.inr (slot_ne (Or.inr (own_h hw 63 rfl)) (Or.inr (own_h hw 67 rfl)) (by decide) (t := (.object "com/example/tagwright/tagwright/Location")) (t' := .int) (by decide) (by decide)))
  have f202 := Fld.other W192 f186 (Or.inr (slot_ne (Or.inr (own_h hw 65 rfl)) (Or.inr (own_h hw 67 rfl)) (by decide) (t := (.object "com/example/tagwright/tagwright/XmlElement")) (t' := .int) (by decide) (by decide)))
  have f203 := Sta.wr W192 f188
  have f204 := Sta.wr W192 f189
  have f205 := f190.other W192 (Ne.symm pr15)
  have f206 := Exa.wr W192 q176_0
  have f207 := Fld.other W192 q176_1 (Or.inl (Ne.symm pr20))
  have f208 := Fld.other W192 q176_2 (Or.inl (Ne.symm pr20))
  have f209 := Exa.wr W192 q176_3
  have f210 := Fld.other W192 q176_4 (Or.inl (Ne.symm ne_a1_zli176))
  have f211 := Fld.other W192 q176_5 (Or.inl (Ne.symm ne_a1_zli176))
  have f212 := Fld.other W192 q176_6 (Or.inl (Ne.symm ne_a1_zli176))
  have f213 := q176_7.other W192 (Ne.symm ne_a1_zd176)
  have K192 : Keep h0 h192 [a1, pr] := K176.wr W192 (Or.inl (List.mem_of_getElem? (i := 0) rfl))
  have Z192 := Nat.le_trans Z176 (Nat.le_of_eq W192.size.symm)
  have N192 := Fr.snoc X192 N176 g_a1
  refine own_s T192 (mkF m 99 #[rv a1, .val .null, rv a2, rv a3, .val .null, rv a4, .val .null, rv pr] []) st192 ?_
  exact own_finV X192 hx hret (hb hby own_dxi1_99) (own_end (Qv := (own_Qxi1 Z a1 a2 a3 a4 pr oN oA ka w h0 n0)) X192 (fun _ => rfl) hlk (by decide) (by decide) e192 ⟨zli176, zd176, zkd176, rfl, N192, K192, g_zli176, sz_zli176, g_zd176, sz_zd176, f193, f194, f202, f206, f207, f208, f209, f210, f211, f212, f213, q176_8, q176_9⟩)
theorem own_dxi2_0 : decode prog_100_method_1_code 0 = .ok (.aload_n 0, 1) := by decide +kernel
theorem own_dxi2_1 : decode prog_100_method_1_code 1 = .ok (.invokespecial 1, 3) := by decide +kernel
theorem own_dxi2_4 : decode prog_100_method_1_code 4 = .ok (.aload_n 0, 1) := by decide +kernel
theorem own_dxi2_5 : decode prog_100_method_1_code 5 = .ok (.getstatic 7, 3) := by decide +kernel
theorem own_dxi2_8 : decode prog_100_method_1_code 8 = .ok (.putfield 13, 3) := by decide +kernel
theorem own_dxi2_11 : decode prog_100_method_1_code 11 = .ok (.aload_n 0, 1) := by decide +kernel
theorem own_dxi2_12 : decode prog_100_method_1_code 12 = .ok (.aload_n 1, 1) := by decide +kernel
theorem own_dxi2_13 : decode prog_100_method_1_code 13 = .ok (.putfield 16, 3) := by decide +kernel
theorem own_dxi2_16 : decode prog_100_method_1_code 16 = .ok (.aload_n 0, 1) := by decide +kernel
theorem own_dxi2_17 : decode prog_100_method_1_code 17 = .ok (.aload_n 2, 1) := by decide +kernel
theorem own_dxi2_18 : decode prog_100_method_1_code 18 = .ok (.putfield 20, 3) := by decide +kernel
theorem own_dxi2_21 : decode prog_100_method_1_code 21 = .ok (.aload_n 0, 1) := by decide +kernel
theorem own_dxi2_22 : decode prog_100_method_1_code 22 = .ok (.aload_n 3, 1) := by decide +kernel
theorem own_dxi2_23 : decode prog_100_method_1_code 23 = .ok (.putfield 23, 3) := by decide +kernel
theorem own_dxi2_26 : decode prog_100_method_1_code 26 = .ok (.aload_n 0, 1) := by decide +kernel
theorem own_dxi2_27 : decode prog_100_method_1_code 27 = .ok (.aload 4, 2) := by decide +kernel
theorem own_dxi2_29 : decode prog_100_method_1_code 29 = .ok (.putfield 26, 3) := by decide +kernel
theorem own_dxi2_32 : decode prog_100_method_1_code 32 = .ok (.aload_n 0, 1) := by decide +kernel
theorem own_dxi2_33 : decode prog_100_method_1_code 33 = .ok (.aload 5, 2) := by decide +kernel
theorem own_dxi2_35 : decode prog_100_method_1_code 35 = .ok (.arraylength, 1) := by decide +kernel
theorem own_dxi2_36 : decode prog_100_method_1_code 36 = .ok (.ifCond .ne 9, 3) := by decide +kernel
theorem own_dxi2_39 : decode prog_100_method_1_code 39 = .ok (.getstatic 29, 3) := by decide +kernel
theorem own_dxi2_42 : decode prog_100_method_1_code 42 = .ok (.goto 5, 3) := by decide +kernel
theorem own_dxi2_47 : decode prog_100_method_1_code 47 = .ok (.putfield 33, 3) := by decide +kernel
theorem own_dxi2_50 : decode prog_100_method_1_code 50 = .ok (.aload_n 0, 1) := by decide +kernel
theorem own_dxi2_51 : decode prog_100_method_1_code 51 = .ok (.aload 5, 2) := by decide +kernel
theorem own_dxi2_53 : decode prog_100_method_1_code 53 = .ok (.invokestatic 36, 3) := by decide +kernel
theorem own_dxi2_56 : decode prog_100_method_1_code 56 = .ok (.ifCond .eq 7, 3) := by decide +kernel
theorem own_dxi2_63 : decode prog_100_method_1_code 63 = .ok (.iconst 2, 1) := by decide +kernel
theorem own_dxi2_64 : decode prog_100_method_1_code 64 = .ok (.i2b, 1) := by decide +kernel
theorem own_dxi2_65 : decode prog_100_method_1_code 65 = .ok (.putfield 40, 3) := by decide +kernel
theorem own_dxi2_68 : decode prog_100_method_1_code 68 = .ok (.aload_n 0, 1) := by decide +kernel
theorem own_dxi2_69 : decode prog_100_method_1_code 69 = .ok (.aload 6, 2) := by decide +kernel
theorem own_dxi2_71 : decode prog_100_method_1_code 71 = .ok (.putfield 44, 3) := by decide +kernel
theorem own_dxi2_74 : decode prog_100_method_1_code 74 = .ok (.aload_n 0, 1) := by decide +kernel
theorem own_dxi2_75 : decode prog_100_method_1_code 75 = .ok (.aload 7, 2) := by decide +kernel
theorem own_dxi2_77 : decode prog_100_method_1_code 77 = .ok (.putfield 48, 3) := by decide +kernel
theorem own_dxi2_80 : decode prog_100_method_1_code 80 = .ok (.aload_n 0, 1) := by decide +kernel
theorem own_dxi2_81 : decode prog_100_method_1_code 81 = .ok (.aload 7, 2) := by decide +kernel
theorem own_dxi2_83 : decode prog_100_method_1_code 83 = .ok (.ifnonnull 7, 3) := by decide +kernel
theorem own_dxi2_90 : decode prog_100_method_1_code 90 = .ok (.aload 7, 2) := by decide +kernel
theorem own_dxi2_92 : decode prog_100_method_1_code 92 = .ok (.aload_n 0, 1) := by decide +kernel
theorem own_dxi2_93 : decode prog_100_method_1_code 93 = .ok (.invokevirtual 52, 3) := by decide +kernel
theorem own_dxi2_96 : decode prog_100_method_1_code 96 = .ok (.putfield 56, 3) := by decide +kernel
theorem own_dxi2_99 : decode prog_100_method_1_code 99 = .ok (.return_, 1) := by decide +kernel
theorem own_efxi2 (m : MethodId) (x0 : Addr) (x2 : Addr) (x3 : Addr) (x5 : Addr) (x7 : Addr) : entryFrame m #[(.ref x0), .null, (.ref x2), (.ref x3), .null, (.ref x5), .null, (.ref x7)] 8 = mkF m 0 #[rv x0, .val .null, rv x2, rv x3, .val .null, rv x5, .val .null, rv x7] [] := by first | (simp [entryFrame, mkF, argsToLocals, Value.category]; done) | rfl
def own_Qxi2 (Z : State) (a1 : Addr) (a2 : Addr) (a3 : Addr) (a4 : Addr) (pr : Addr) (oN : Addr) (oA : Addr) (ka : ClassId) (li : Addr) (d : Addr) (kd : ClassId) (x0 : Addr) (h0 : Heap) (n0 : Nat) : Option Value → Heap → List Loc → Prop := fun v h L => v = none ∧ Fr n0 L ∧ Keep h0 h [a1, li, d] ∧ Exa Z h a1 "com/example/tagwright/tagwright/XmlElement" ∧ Fld Z h a1 "com/example/tagwright/tagwright/XmlElement" "children" "Ljava/util/List;" (.ref oN) ∧ Fld Z h a1 "com/example/tagwright/tagwright/XmlElement" "parent" "Lcom/example/tagwright/tagwright/XmlElement;" (.ref pr) ∧ Exa Z h li "java/util/ArrayList" ∧ Fld Z h li "java/util/AbstractList" "modCount" "I" (.int 2) ∧ Fld Z h li "java/util/ArrayList" "elementData" "[Ljava/lang/Object;" (.ref d) ∧ Fld Z h li "java/util/ArrayList" "size" "I" (.int 2) ∧ Arv Z h d kd (.object "java/lang/Object") (4 : Int32) [(.ref x0), (.ref a1), .null, .null] .null
def own_Rxi2 : Room := { frames := 3, cells := 0, slots := 0, locals := 42 }
set_option maxRecDepth 65536 in
set_option maxHeartbeats 40000000 in
theorem own_rmxi2 (l : Launch) (Z : State) (a0 : Array Value) (hw : ∀ d ∈ tables_1, d.before a0 Z = true) (ws : List Jvm.Cond) (a1 : Addr) (a2 : Addr) (a3 : Addr) (a4 : Addr) (pr : Addr) (oN : Addr) (oA : Addr) (ka : ClassId) (li : Addr) (d : Addr) (kd : ClassId) (x0 : Addr) (h0 : Heap) (n0 : Nat) (Z0 : n0 ≤ h0.size) (g_a1 : n0 ≤ a1) (pr1 : Exa Z h0 a1 "com/example/tagwright/tagwright/XmlElement") (pr2 : Fld Z h0 a1 "com/example/tagwright/tagwright/XmlElement" "children" "Ljava/util/List;" .null) (pr3 : Fld Z h0 a1 "com/example/tagwright/tagwright/XmlElement" "namespace" "Ljava/lang/String;" .null) (pr4 : Fld Z h0 a1 "com/example/tagwright/tagwright/XmlElement" "localName" "Ljava/lang/String;" .null) (pr5 : Fld Z h0 a1 "com/example/tagwright/tagwright/XmlElement" "tagName" "Ljava/lang/String;" .null) (pr6 : Fld Z h0 a1 "com/example/tagwright/tagwright/XmlElement" "declarations" "Ljava/util/List;" .null) (pr7 : Fld Z h0 a1 "com/example/tagwright/tagwright/XmlElement" "attributes" "[Ljava/lang/String;" .null) (pr8 : Fld Z h0 a1 "com/example/tagwright/tagwright/XmlElement" "stride" "B" (.int 0)) (pr9 : Fld Z h0 a1 "com/example/tagwright/tagwright/XmlElement" "location" "Lcom/example/tagwright/tagwright/Location;" .null) (pr10 : Fld Z h0 a1 "com/example/tagwright/tagwright/XmlElement" "parent" "Lcom/example/tagwright/tagwright/XmlElement;" .null) (pr11 : Fld Z h0 a1 "com/example/tagwright/tagwright/XmlElement" "index" "I" (.int 0)) (pr12 : Sta Z h0 "com/example/tagwright/tagwright/XmlElement" "NO_CHILDREN" "Ljava/util/List;" (.ref oN)) (pr13 : Sta Z h0 "com/example/tagwright/tagwright/XmlElement" "NO_ATTRIBUTES" "[Ljava/lang/String;" (.ref oA)) (pr14 : Arv Z h0 a4 ka (.object "java/lang/String") (0 : Int32) [] .null) (pr15 : a1 ≠ a4) (g_li : n0 ≤ li) (g_d : n0 ≤ d) (pr18 : Exa Z h0 pr "com/example/tagwright/tagwright/XmlElement") (pr19 : Fld Z h0 pr "com/example/tagwright/tagwright/XmlElement" "children" "Ljava/util/List;" (.ref li)) (pr20 : Exa Z h0 li "java/util/ArrayList") (pr21 : Fld Z h0 li "java/util/AbstractList" "modCount" "I" (.int 1)) (pr22 : Fld Z h0 li "java/util/ArrayList" "elementData" "[Ljava/lang/Object;" (.ref d)) (pr23 : Fld Z h0 li "java/util/ArrayList" "size" "I" (.int 1)) (pr24 : Arv Z h0 d kd (.object "java/lang/Object") (4 : Int32) [(.ref x0), .null, .null, .null] .null) (pr25 : Ovr Z kd "java/lang/Object") (pr26 : li ≠ d) (pr27 : li ≠ oN) (pr28 : pr ≠ li) (pr29 : pr ≠ d) (pr30 : a1 ≠ pr) (pr31 : a1 ≠ li) (pr32 : a1 ≠ d) (pr33 : pr ≠ a4) (pr34 : li ≠ a4) (pr35 : d ≠ a4) :
    own_Met l Z own_y15 prog_100_method_1_code 8 none ws own_Rxi2 h0 #[(.ref a1), .null, (.ref a2), (.ref a3), .null, (.ref a4), .null, (.ref pr)] (own_Qxi2 Z a1 a2 a3 a4 pr oN oA ka li d kd x0 h0 n0) own_Rxi2.cells own_Rxi2.slots := by
  refine own_start (plainFor_of_name own_pn6) ?_
  intro p e s m below meth c s₁ X0 hx hZ hby hml hret hlk hown hnm e0
  have hown : s.vm.findClass "com/example/tagwright/tagwright/XmlElement" = some m.cls := hown
  have hml : c.maxLocals = 8 := hml
  have N0 := Fr.nil n0
  refine own_cast (own_efxi2 m a1 a2 a3 a4 pr) ?_
  refine own_s s₁ (mkF m 1 #[rv a1, .val .null, rv a2, rv a3, .val .null, rv a4, .val .null, rv pr] [(.ref a1)]) (fun _ k => XS.aloadN X0.here hx rfl (hb hby own_dxi2_0) rfl rfl k) ?_
  obtain ⟨T1, X1, e1, st1⟩ := initO X0 hx hZ hown (own_h hw 40 rfl) (own_h hw 8 rfl) (own_h hw 9 rfl) e0 (g := (mkF m 1 #[rv a1, .val .null, rv a2, rv a3, .val .null, rv a4, .val .null, rv pr] [(.ref a1)])) rfl (by rw [hml]; rfl) rfl (hb hby own_dxi2_1) (by decide) (W := 0) (by show 2 * 0 + _ ≤ _; exact Nat.le_of_eq rfl) (by decide)
  refine own_s T1 (mkF m 4 #[rv a1, .val .null, rv a2, rv a3, .val .null, rv a4, .val .null, rv pr] []) st1 ?_
  refine own_s T1 (mkF m 5 #[rv a1, .val .null, rv a2, rv a3, .val .null, rv a4, .val .null, rv pr] [(.ref a1)]) (fun _ k => XS.aloadN X1.here hx rfl (hb hby own_dxi2_4) rfl rfl k) ?_
  obtain ⟨T2, X2, e2, st2⟩ := getS2 X1 hx hZ hown (host := "") (Or.inl (own_h hw 41 rfl)) Via.refl e1 pr12 (g := (mkF m 5 #[rv a1, .val .null, rv a2, rv a3, .val .null, rv a4, .val .null, rv pr] [(.ref a1)])) rfl (hb hby own_dxi2_5)
  refine own_s T2 (mkF m 8 #[rv a1, .val .null, rv a2, rv a3, .val .null, rv a4, .val .null, rv pr] [(.ref oN), (.ref a1)]) st2 ?_
  obtain ⟨T3, h3, X3, e3, W3, st3⟩ := putF X2 hx hZ hown (host := "") (Or.inl (own_h hw 43 rfl)) Via.refl e2 pr2 pr1 (Or.inl (own_h hw 44 rfl)) (own_h hw 33 rfl) (ty := (.object "java/util/List")) (by decide) rfl rfl (g := (mkF m 8 #[rv a1, .val .null, rv a2, rv a3, .val .null, rv a4, .val .null, rv pr] [(.ref oN), (.ref a1)])) rfl rfl (hb hby own_dxi2_8)
  have Fw3 := Fld.same W3 pr2
  have f4 := Exa.wr W3 pr1
  have f5 := Fld.other W3 pr3 (Or.inr (slot_ne (Or.inr (own_h hw 46 rfl)) (Or.inl (own_h hw 44 rfl)) (by decide) (t := (.object "java/lang/String")) (t' := (.object "java/util/List")) (by decide) (by decide)))
  have f6 := Fld.other W3 pr4 (Or.inr (slot_ne (Or.inr (own_h hw 48 rfl)) (Or.inl (own_h hw 44 rfl)) (by decide) (t := (.object "java/lang/String")) (t' := (.object "java/util/List")) (by decide) (by decide)))
  have f7 := Fld.other W3 pr5 (Or.inr (slot_ne (Or.inr (own_h hw 50 rfl)) (Or.inl (own_h hw 44 rfl)) (by decide) (t := (.object "java/lang/String")) (t' := (.object "java/util/List")) (by decide) (by decide)))
  have f8 := Fld.other W3 pr6 (Or.inr (slot_ne (Or.inr (own_h hw 52 rfl)) (Or.inl (own_h hw 44 rfl)) (by decide) (t := (.object "java/util/List")) (t' := (.object "java/util/List")) (by decide) (by decide)))
  have f9 := Fld.other W3 pr7 (Or.inr (slot_ne (Or.inr (own_h hw 56 rfl)) (Or.inl (own_h hw 44 rfl)) (by decide) (t := (.array (.object "java/lang/String"))) (t' := (.object "java/util/List")) (by decide) (by decide)))
  have f10 := Fld.other W3 pr8 (Or.inr (slot_ne (Or.inr (own_h hw 61 rfl)) (Or.inl (own_h hw 44 rfl)) (by decide) (t := .byte) (t' := (.object "java/util/List")) (by decide) (by decide)))
  have f11 := Fld.other W3 pr9 (Or.inr (slot_ne (Or.inr (own_h hw 63 rfl)) (Or.inl (own_h hw 44 rfl)) (by decide) (t := (.object "com/example/tagwright/tagwright/Location")) (t' := (.object "java/util/List")) (by decide) (by decide)))
  have f12 := Fld.other W3 pr10 (Or.inr (slot_ne (Or.inr (own_h hw 65 rfl)) (Or.inl (own_h hw 44 rfl)) (by decide) (t := (.object "com/example/tagwright/tagwright/XmlElement")) (t' := (.object "java/util/List")) (by decide) (by decide)))
  have f13 := Fld.other W3 pr11 (Or.inr (slot_ne (Or.inr (own_h hw 67 rfl)) (Or.inl (own_h hw 44 rfl)) (by decide) (t := .int) (t' := (.object "java/util/List")) (by decide) (by decide)))
  have f14 := Sta.wr W3 pr12
  have f15 := Sta.wr W3 pr13
  have f16 := pr14.other W3 (Ne.symm pr15)
  have f17 := Exa.wr W3 pr18
  have f18 := Fld.other W3 pr19 (Or.inl (Ne.symm pr30))
  have f19 := Exa.wr W3 pr20
  have f20 := Fld.other W3 pr21 (Or.inl (Ne.symm pr31))
  have f21 := Fld.other W3 pr22 (Or.inl (Ne.symm pr31))
  have f22 := Fld.other W3 pr23 (Or.inl (Ne.symm pr31))
  have f23 := pr24.other W3 (Ne.symm pr32)
  have K3 : Keep h0 h3 [a1, li, d] := (Keep.refl h0 [a1, li, d]).wr W3 (Or.inl (List.mem_of_getElem? (i := 0) rfl))
  have Z3 := Nat.le_trans Z0 (Nat.le_of_eq W3.size.symm)
  have N3 := Fr.snoc X3 N0 g_a1
  refine own_s T3 (mkF m 11 #[rv a1, .val .null, rv a2, rv a3, .val .null, rv a4, .val .null, rv pr] []) st3 ?_
  refine own_s T3 (mkF m 13 #[rv a1, .val .null, rv a2, rv a3, .val .null, rv a4, .val .null, rv pr] [.null, (.ref a1)]) (fun _ k => XS.aloadN X3.here hx rfl (hb hby own_dxi2_11) rfl rfl (XS.aloadN X3.here hx rfl (hb hby own_dxi2_12) rfl rfl k)) ?_
  obtain ⟨T24, h24, X24, e24, W24, st24⟩ := putF X3 hx hZ hown (host := "") (Or.inl (own_h hw 45 rfl)) Via.refl e3 f5 f4 (Or.inr ⟨(own_h hw 46 rfl), rfl, hnm⟩) (own_h hw 33 rfl) (ty := (.object "java/lang/String")) (by decide) rfl rfl (g := (mkF m 13 #[rv a1, .val .null, rv a2, rv a3, .val .null, rv a4, .val .null, rv pr] [.null, (.ref a1)])) rfl rfl (hb hby own_dxi2_13)
  have Fw24 := Fld.same W24 f5
  have f25 := Exa.wr W24 f4
  have f26 := Fld.other W24 Fw3 (Or.inr (slot_ne (Or.inl (own_h hw 44 rfl)) (Or.inr (own_h hw 46 rfl)) (by decide) (t := (.object "java/util/List")) (t' := (.object "java/lang/String")) (by decide) (by decide)))
  have f27 := Fld.other W24 f6 (Or.inr (slot_ne (Or.inr (own_h hw 48 rfl)) (Or.inr (own_h hw 46 rfl)) (by decide) (t := (.object "java/lang/String")) (t' := (.object "java/lang/String")) (by decide) (by decide)))
  have f28 := Fld.other W24 f7 (Or.inr (slot_ne (Or.inr (own_h hw 50 rfl)) (Or.inr (own_h hw 46 rfl)) (by decide) (t := (.object "java/lang/String")) (t' := (.object "java/lang/String")) (by decide) (by decide)))
  have f29 := Fld.other W24 f8 (Or.inr (slot_ne (Or.inr (own_h hw 52 rfl)) (Or.inr (own_h hw 46 rfl)) (by decide) (t := (.object "java/util/List")) (t' := (.object "java/lang/String")) (by decide) (by decide)))
  have f30 := Fld.other W24 f9 (Or.inr (slot_ne (Or.inr (own_h hw 56 rfl)) (Or.inr (own_h hw 46 rfl)) (by decide) (t := (.array (.object "java/lang/String"))) (t' := (.object "java/lang/String")) (by decide) (by decide)))
  have f31 := Fld.other W24 f10 (Or.inr (slot_ne (Or.inr (own_h hw 61 rfl)) (Or.inr (own_h hw 46 rfl)) (by decide) (t := .byte) (t' := (.object "java/lang/String")) (by decide) (by decide)))
  have f32 := Fld.other W24 f11 (Or.inr (slot_ne (Or.inr (own_h hw 63 rfl)) (Or.inr (own_h hw 46 rfl)) (by decide) (t := (.object "com/example/tagwright/tagwright/Location")) (t' := (.object "java/lang/String")) (by decide) (by decide)))
  have f33 := Fld.other W24 f12 (Or.inr (slot_ne (Or.inr (own_h hw 65 rfl)) (Or.inr (own_h hw 46 rfl)) (by decide) (t := (.object "com/example/tagwright/tagwright/XmlElement")) (t' := (.object "java/lang/String")) (by decide) (by decide)))
  have f34 := Fld.other W24 f13 (Or.inr (slot_ne (Or.inr (own_h hw 67 rfl)) (Or.inr (own_h hw 46 rfl)) (by decide) (t := .int) (t' := (.object "java/lang/String")) (by decide) (by decide)))
  have f35 := Sta.wr W24 f14
  have f36 := Sta.wr W24 f15
  have f37 := f16.other W24 (Ne.symm pr15)
  have f38 := Exa.wr W24 f17
  have f39 := Fld.other W24 f18 (Or.inl (Ne.symm pr30))
  have f40 := Exa.wr W24 f19
  have f41 := Fld.other W24 f20 (Or.inl (Ne.symm pr31))
  have f42 := Fld.other W24 f21 (Or.inl (Ne.symm pr31))
  have f43 := Fld.other W24 f22 (Or.inl (Ne.symm pr31))
  have f44 := f23.other W24 (Ne.symm pr32)
  have K24 : Keep h0 h24 [a1, li, d] := K3.wr W24 (Or.inl (List.mem_of_getElem? (i := 0) rfl))
  have Z24 := Nat.le_trans Z3 (Nat.le_of_eq W24.size.symm)
  have N24 := Fr.snoc X24 N3 g_a1
  refine own_s T24 (mkF m 16 #[rv a1, .val .null, rv a2, rv a3, .val .null, rv a4, .val .null, rv pr] []) st24 ?_
  refine own_s T24 (mkF m 18 #[rv a1, .val .null, rv a2, rv a3, .val .null, rv a4, .val .null, rv pr] [(.ref a2), (.ref a1)]) (fun _ k => XS.aloadN X24.here hx rfl (hb hby own_dxi2_16) rfl rfl (XS.aloadN X24.here hx rfl (hb hby own_dxi2_17) rfl rfl k)) ?_
  obtain ⟨T45, h45, X45, e45, W45, st45⟩ := putF X24 hx hZ hown (host := "") (Or.inl (own_h hw 47 rfl)) Via.refl e24 f27 f25 (Or.inr ⟨(own_h hw 48 rfl), rfl, hnm⟩) (own_h hw 33 rfl) (ty := (.object "java/lang/String")) (by decide) rfl rfl (g := (mkF m 18 #[rv a1, .val .null, rv a2, rv a3, .val .null, rv a4, .val .null, rv pr] [(.ref a2), (.ref a1)])) rfl rfl (hb hby own_dxi2_18)
  have Fw45 := Fld.same W45 f27
  have f46 := Exa.wr W45 f25
  have f47 := Fld.other W45 f26 (Or.inr (slot_ne (Or.inl (own_h hw 44 rfl)) (Or.inr (own_h hw 48 rfl)) (by decide) (t := (.object "java/util/List")) (t' := (.object "java/lang/String")) (by decide) (by decide)))
  have f48 := Fld.other W45 Fw24 (Or.inr (slot_ne (Or.inr (own_h hw 46 rfl)) (Or.inr (own_h hw 48 rfl)) (by decide) (t := (.object "java/lang/String")) (t' := (.object "java/lang/String")) (by decide) (by decide)))
  have f49 := Fld.other W45 f28 (Or.inr (slot_ne (Or.inr (own_h hw 50 rfl)) (Or.inr (own_h hw 48 rfl)) (by decide) (t := (.object "java/lang/String")) (t' := (.object "java/lang/String")) (by decide) (by decide)))
  have f50 := Fld.other W45 f29 (Or.inr (slot_ne (Or.inr (own_h hw 52 rfl)) (Or.inr (own_h hw 48 rfl)) (by decide) (t := (.object "java/util/List")) (t' := (.object "java/lang/String")) (by decide) (by decide)))
  have f51 := Fld.other W45 f30 (Or.inr (slot_ne (Or.inr (own_h hw 56 rfl)) (Or.inr (own_h hw 48 rfl)) (by decide) (t := (.array (.object "java/lang/String"))) (t' := (.object "java/lang/String")) (by decide) (by decide)))
  have f52 := Fld.other W45 f31 (Or.inr (slot_ne (Or.inr (own_h hw 61 rfl)) (Or.inr (own_h hw 48 rfl)) (by decide) (t := .byte) (t' := (.object "java/lang/String")) (by decide) (by decide)))
  have f53 := Fld.other W45 f32 (Or.inr (slot_ne (Or.inr (own_h hw 63 rfl)) (Or.inr (own_h hw 48 rfl)) (by decide) (t := (.object "com/example/tagwright/tagwright/Location")) (t' := (.object "java/lang/String")) (by decide) (by decide)))
  have f54 := Fld.other W45 f33 (Or.inr (slot_ne (Or.inr (own_h hw 65 rfl)) (Or.inr (own_h hw 48 rfl)) (by decide) (t := (.object "com/example/tagwright/tagwright/XmlElement")) (t' := (.object "java/lang/String")) (by decide) (by decide)))
  have f55 := Fld.other W45 f34 (Or.inr (slot_ne (Or.inr (own_h hw 67 rfl)) (Or.inr (own_h hw 48 rfl)) (by decide) (t := .int) (t' := (.object "java/lang/String")) (by decide) (by decide)))
  have f56 := Sta.wr W45 f35
  have f57 := Sta.wr W45 f36
  have f58 := f37.other W45 (Ne.symm pr15)
  have f59 := Exa.wr W45 f38
  have f60 := Fld.other W45 f39 (Or.inl (Ne.symm pr30))
  have f61 := Exa.wr W45 f40
  have f62 := Fld.other W45 f41 (Or.inl (Ne.symm pr31))
  have f63 := Fld.other W45 f42 (Or.inl (Ne.symm pr31))
  have f64 := Fld.other W45 f43 (Or.inl (Ne.symm pr31))
  have f65 := f44.other W45 (Ne.symm pr32)
  have K45 : Keep h0 h45 [a1, li, d] := K24.wr W45 (Or.inl (List.mem_of_getElem? (i := 0) rfl))
  have Z45 := Nat.le_trans Z24 (Nat.le_of_eq W45.size.symm)
  have N45 := Fr.snoc X45 N24 g_a1
  refine own_s T45 (mkF m 21 #[rv a1, .val .null, rv a2, rv a3, .val .null, rv a4, .val .null, rv pr] []) st45 ?_
  refine own_s T45 (mkF m 23 #[rv a1, .val .null, rv a2, rv a3, .val .null, rv a4, .val .null, rv pr] [(.ref a3), (.ref a1)]) (fun _ k => XS.aloadN X45.here hx rfl (hb hby own_dxi2_21) rfl rfl (XS.aloadN X45.here hx rfl (hb hby own_dxi2_22) rfl rfl k)) ?_
  obtain ⟨T66, h66, X66, e66, W66, st66⟩ := putF X45 hx hZ hown (host := "") (Or.inl (own_h hw 49 rfl)) Via.refl e45 f49 f46 (Or.inr ⟨(own_h hw 50 rfl), rfl, hnm⟩) (own_h hw 33 rfl) (ty := (.object "java/lang/String")) (by decide) rfl rfl (g := (mkF m 23 #[rv a1, .val .null, rv a2, rv a3, .val .null, rv a4, .val .null, rv pr] [(.ref a3), (.ref a1)])) rfl rfl (hb hby own_dxi2_23)
  have Fw66 := Fld.same W66 f49
  have f67 := Exa.wr W66 f46
  have f68 := Fld.other W66 f47 (Or.inr (slot_ne (Or.inl (own_h hw 44 rfl)) (Or.inr (own_h hw 50 rfl)) (by decide) (t := (.object "java/util/List")) (t' := (.object "java/lang/String")) (by decide) (by decide)))
  have f69 := Fld.other W66 f48 (Or.inr (slot_ne (Or.inr (own_h hw 46 rfl)) (Or.inr (own_h hw 50 rfl)) (by decide) (t := (.object "java/lang/String")) (t' := (.object "java/lang/String")) (by decide) (by decide)))
  have f70 := Fld.other W66 Fw45 (Or.inr (slot_ne (Or.inr (own_h hw 48 rfl)) (Or.inr (own_h hw 50 rfl)) (by decide) (t := (.object "java/lang/String")) (t' := (.object "java/lang/String")) (by decide) (by decide)))
  have f71 := Fld.other W66 f50 (Or.inr (slot_ne (Or.inr (own_h hw 52 rfl)) (Or.inr (own_h hw 50 rfl)) (by decide) (t := (.object "java/util/List")) (t' := (.object "java/lang/String")) (by decide) (by decide)))
  have f72 := Fld.other W66 f51 (Or.inr (slot_ne (Or.inr (own_h hw 56 rfl)) (Or.inr (own_h hw 50 rfl)) (by decide) (t := (.array (.object "java/lang/String"))) (t' := (.object "java/lang/String")) (by decide) (by decide)))
  have f73 := Fld.other W66 f52 (Or.inr (slot_ne (Or.inr (own_h hw 61 rfl)) (Or.inr (own_h hw 50 rfl)) (by decide) (t := .byte) (t' := (.object "java/lang/String")) (by decide) (by decide)))
  have f74 := Fld.other W66 f53 (Or.inr (slot_ne (Or.inr (own_h hw 63 rfl)) (Or.inr (own_h hw 50 rfl)) (by decide) (t := (.object "com/example/tagwright/tagwright/Location")) (t' := (.object "java/lang/String")) (by decide) (by decide)))
  have f75 := Fld.other W66 f54 (Or.inr (slot_ne (Or.inr (own_h hw 65 rfl)) (Or.inr (own_h hw 50 rfl)) (by decide) (t := (.object "com/example/tagwright/tagwright/XmlElement")) (t' := (.object "java/lang/String")) (by decide) (by decide)))
  have f76 := Fld.other W66 f55 (Or.inr (slot_ne (Or.inr (own_h hw 67 rfl)) (Or.inr (own_h hw 50 rfl)) (by decide) (t := .int) (t' := (.object "java/lang/String")) (by decide) (by decide)))
  have f77 := Sta.wr W66 f56
  have f78 := Sta.wr W66 f57
  have f79 := f58.other W66 (Ne.symm pr15)
  have f80 := Exa.wr W66 f59
  have f81 := Fld.other W66 f60 (Or.inl (Ne.symm pr30))
  have f82 := Exa.wr W66 f61
  have f83 := Fld.other W66 f62 (Or.inl (Ne.symm pr31))
  have f84 := Fld.other W66 f63 (Or.inl (Ne.symm pr31))
  have f85 := Fld.other W66 f64 (Or.inl (Ne.symm pr31))
  have f86 := f65.other W66 (Ne.symm pr32)
  have K66 : Keep h0 h66 [a1, li, d] := K45.wr W66 (Or.inl (List.mem_of_getElem? (i := 0) rfl))
  have Z66 := Nat.le_trans Z45 (Nat.le_of_eq W66.size.symm)
  have N66 := Fr.snoc X66 N45 g_a1
  refine own_s T66 (mkF m 26 #[rv a1, .val .null, rv a2, rv a3, .val .null, rv a4, .val .null, rv pr] []) st66 ?_
  refine own_s T66 (mkF m 29 #[rv a1, .val .null, rv a2, rv a3, .val .null, rv a4, .val .null, rv pr] [.null, (.ref a1)]) (fun _ k => XS.aloadN X66.here hx rfl (hb hby own_dxi2_26) rfl rfl (XS.aload X66.here hx rfl (hb hby own_dxi2_27) rfl rfl k)) ?_
  obtain ⟨T87, h87, X87, e87, W87, st87⟩ := putF X66 hx hZ hown (host := "") (Or.inl (own_h hw 51 rfl)) Via.refl e66 f71 f67 (Or.inr ⟨(own_h hw 52 rfl), rfl, hnm⟩) (own_h hw 33 rfl) (ty := (.object "java/util/List")) (by decide) rfl rfl (g := (mkF m 29 #[rv a1, .val .null, rv a2, rv a3, .val .null, rv a4, .val .null, rv pr] [.null, (.ref a1)])) rfl rfl (hb hby own_dxi2_29)
  have Fw87 := Fld.same W87 f71
  have f88 := Exa.wr W87 f67
  have f89 := Fld.other W87 f68 (Or.inr (slot_ne (Or.inl (own_h hw 44 rfl)) (Or.inr (own_h hw 52 rfl)) (by decide) (t := (.object "java/util/List")) (t' := (.object "java/util/List")) (by decide) (by decide)))
  have f90 := Fld.other W87 f69 (Or.inr (slot_ne (Or.inr (own_h hw 46 rfl)) (Or.inr (own_h hw 52 rfl)) (by decide) (t := (.object "java/lang/String")) (t' := (.object "java/util/List")) (by decide) (by decide)))
  have f91 := Fld.other W87 f70 (Or.inr (slot_ne (Or.inr (own_h hw 48 rfl)) (Or.inr (own_h hw 52 rfl)) (by decide) (t := (.object "java/lang/String")) (t' := (.object "java/util/List")) (by decide) (by decide)))
  have f92 := Fld.other W87 Fw66 (Or.inr (slot_ne (Or.inr (own_h hw 50 rfl)) (Or.inr (own_h hw 52 rfl)) (by decide) (t := (.object "java/lang/String")) (t' := (.object "java/util/List")) (by decide) (by decide)))
  have f93 := Fld.other W87 f72 (Or.inr (slot_ne (Or.inr (own_h hw 56 rfl)) (Or.inr (own_h hw 52 rfl)) (by decide) (t := (.array (.object "java/lang/String"))) (t' := (.object "java/util/List")) (by decide) (by decide)))
  have f94 := Fld.other W87 f73 (Or.inr (slot_ne (Or.inr (own_h hw 61 rfl)) (Or.inr (own_h hw 52 rfl)) (by decide) (t := .byte) (t' := (.object "java/util/List")) (by decide) (by decide)))
  have f95 := Fld.other W87 f74 (Or.inr (slot_ne (Or.inr (own_h hw 63 rfl)) (Or.inr (own_h hw 52 rfl)) (by decide) (t := (.object "com/example/tagwright/tagwright/Location")) (t' := (.object "java/util/List")) (by decide) (by decide)))
  have f96 := Fld.other W87 f75 (Or.inr (slot_ne (Or.inr (own_h hw 65 rfl)) (Or.inr (own_h hw 52 rfl)) (by decide) (t := (.object "com/example/tagwright/tagwright/XmlElement")) (t' := (.object "java/util/List")) (by decide) (by decide)))
  have f97 := Fld.other W87 f76 (Or.inr (slot_ne (Or.inr (own_h hw 67 rfl)) (Or.inr (own_h hw 52 rfl)) (by decide) (t := .int) (t' := (.object "java/util/List")) (by decide) (by decide)))
  have f98 := Sta.wr W87 f77
  have f99 := Sta.wr W87 f78
  have f100 := f79.other W87 (Ne.symm pr15)
  have f101 := Exa.wr W87 f80
  have f102 := Fld.other W87 f81 (Or.inl (Ne.symm pr30))
  have f103 := Exa.wr W87 f82
  have f104 := Fld.other W87 f83 (Or.inl (Ne.symm pr31))
  have f105 := Fld.other W87 f84 (Or.inl (Ne.symm pr31))
  have f106 := Fld.other W87 f85 (Or.inl (Ne.symm pr31))
  have f107 := f86.other W87 (Ne.symm pr32)
  have K87 : Keep h0 h87 [a1, li, d] := K66.wr W87 (Or.inl (List.mem_of_getElem? (i := 0) rfl))
  have Z87 := Nat.le_trans Z66 (Nat.le_of_eq W87.size.symm)
  have N87 := Fr.snoc X87 N66 g_a1
  refine own_s T87 (mkF m 32 #[rv a1, .val .null, rv a2, rv a3, .val .null, rv a4, .val .null, rv pr] []) st87 ?_
  refine own_s T87 (mkF m 35 #[rv a1, .val .null, rv a2, rv a3, .val .null, rv a4, .val .null, rv pr] [(.ref a4), (.ref a1)]) (fun _ k => XS.aloadN X87.here hx rfl (hb hby own_dxi2_32) rfl rfl (XS.aload X87.here hx rfl (hb hby own_dxi2_33) rfl rfl k)) ?_
  obtain ⟨cl108, Ar108, q108, S108, Nn108, H108, G108⟩ := id f100
  refine own_s T87 (mkF m 39 #[rv a1, .val .null, rv a2, rv a3, .val .null, rv a4, .val .null, rv pr] [(.ref a1)]) (fun _ k => own_len X87 hx hZ e87 Ar108 S108 Nn108 (g := (mkF m 35 #[rv a1, .val .null, rv a2, rv a3, .val .null, rv a4, .val .null, rv pr] [(.ref a4), (.ref a1)])) rfl rfl (hb hby own_dxi2_35) (XS.ifNo X87.here hx rfl (hb hby own_dxi2_36) rfl ((if0 _ _).trans (teq (by decide : ((0 : Int32) = (0 : Int32)))).2) k)) ?_
  obtain ⟨T109, X109, e109, st109⟩ := getS2 X87 hx hZ hown (host := "") (Or.inl (own_h hw 53 rfl)) Via.refl e87 f99 (g := (mkF m 39 #[rv a1, .val .null, rv a2, rv a3, .val .null, rv a4, .val .null, rv pr] [(.ref a1)])) rfl (hb hby own_dxi2_39)
  refine own_s T109 (mkF m 42 #[rv a1, .val .null, rv a2, rv a3, .val .null, rv a4, .val .null, rv pr] [(.ref oA), (.ref a1)]) st109 ?_
  refine own_s T109 (mkF m 47 #[rv a1, .val .null, rv a2, rv a3, .val .null, rv a4, .val .null, rv pr] [(.ref oA), (.ref a1)]) (fun _ k => XS.goto X109.here hx rfl (pc0 := 42) (pc' := 47) rfl (hb hby own_dxi2_42) (by decide) (by decide) k) ?_
  obtain ⟨T110, h110, X110, e110, W110, st110⟩ := putF X109 hx hZ hown (host := "") (Or.inl (own_h hw 55 rfl)) Via.refl e109 f93 f88 (Or.inr ⟨(own_h hw 56 rfl), rfl, hnm⟩) (own_h hw 33 rfl) (ty := (.array (.object "java/lang/String"))) (by decide) rfl rfl (g := (mkF m 47 #[rv a1, .val .null, rv a2, rv a3, .val .null, rv a4, .val .null, rv pr] [(.ref oA), (.ref a1)])) rfl rfl (hb hby own_dxi2_47)
  have Fw110 := Fld.same W110 f93
  have f111 := Exa.wr W110 f88
  have f112 := Fld.other W110 f89 (Or.inr (slot_ne (Or.inl (own_h hw 44 rfl)) (Or.inr (own_h hw 56 rfl)) (by decide) (t := (.object "java/util/List")) (t' := (.array (.object "java/lang/String"))) (by decide) (by decide)))
  have f113 := Fld.other W110 f90 (Or.inr (slot_ne (Or.inr (own_h hw 46 rfl)) (Or.inr (own_h hw 56 rfl)) (by decide) (t := (.object "java/lang/String")) (t' := (.array (.object "java/lang/String"))) (by decide) (by decide)))
  have f114 := Fld.other W110 f91 (Or.inr (slot_ne (Or.inr (own_h hw 48 rfl)) (Or.inr (own_h hw 56 rfl)) (by decide) (t := (.object "java/lang/String")) (t' := (.array (.object "java/lang/String"))) (by decide) (by decide)))
  have f115 := Fld.other W110 f92 (Or.inr (slot_ne (Or.inr (own_h hw 50 rfl)) (Or.inr (own_h hw 56 rfl)) (by decide) (t := (.object "java/lang/String")) (t' := (.array (.object "java/lang/String"))) (by decide) (by decide)))
  have f116 := Fld.other W110 Fw87 (Or.inr (slot_ne (Or.inr (own_h hw 52 rfl)) (Or.inr (own_h hw 56 rfl)) (by decide) (t := (.object "java/util/List")) (t' := (.array (.object "java/lang/String"))) (by decide) (by decide)))
  have f117 := Fld.other W110 f94 (Or.inr (slot_ne (Or.inr (own_h hw 61 rfl)) (Or.inr (own_h hw 56 rfl)) (by decide) (t := .byte) (t' := (.array (.object "java/lang/String"))) (by decide) (by decide)))
  have f118 := Fld.other W110 f95 (Or.inr (slot_ne (Or.inr (own_h hw 63 rfl)) (Or.inr (own_h hw 56 rfl)) (by decide) (t := (.object "com/example/tagwright/tagwright/Location")) (t' := (.array (.object "java/lang/String"))) (by decide) (by decide)))
  have f119 := Fld.other W110 f96 (Or.inr (slot_ne (Or.inr (own_h hw 65 rfl)) (Or.inr (own_h hw 56 rfl)) (by decide) (t := (.object "com/example/tagwright/tagwright/XmlElement")) (t' := (.array (.object "java/lang/String"))) (by decide) (by decide)))
  have f120 := Fld.other W110 f97 (Or.inr (slot_ne (Or.inr (own_h hw 67 rfl)) (Or.inr (own_h hw 56 rfl)) (by decide) (t := .int) (t' := (.array (.object "java/lang/String"))) (by decide) (by decide)))
  have f121 := Sta.wr W110 f98
  have f122 := Sta.wr W110 f99
  have f123 := f100.other W110 (Ne.symm pr15)
  have f124 := Exa.wr W110 f101
  have f125 := Fld.other W110 f102 (Or.inl (Ne.symm pr30))
  have f126 := Exa.wr W110 f103
  have f127 := Fld.other W110 f104 (Or.inl (Ne.symm pr31))
  have f128 := Fld.other W110 f105 (Or.inl (Ne.symm pr31))
  have f129 := Fld.other W110 f106 (Or.inl (Ne.symm pr31))
  have f130 := f107.other W110 (Ne.symm pr32)
  have K110 : Keep h0 h110 [a1, li, d] := K87.wr W110 (Or.inl (List.mem_of_getElem? (i := 0) rfl))
  have Z110 := Nat.le_trans Z87 (Nat.le_of_eq W110.size.symm)
  have N110 := Fr.snoc X110 N87 g_a1
  refine own_s T110 (mkF m 50 #[rv a1, .val .null, rv a2, rv a3, .val .null, rv a4, .val .null, rv pr] []) st110 ?_
  refine own_s T110 (mkF m 53 #[rv a1, .val .null, rv a2, rv a3, .val .null, rv a4, .val .null, rv pr] [(.ref a4), (.ref a1)]) (fun _ k => XS.aloadN X110.here hx rfl (hb hby own_dxi2_50) rfl rfl (XS.aload X110.here hx rfl (hb hby own_dxi2_51) rfl rfl k)) ?_
  obtain ⟨v131, T131, L131, X131, hQ131, st131⟩ := own_callS X110 hx hZ (y := own_y14) (W := 1) hown (own_h hw 57 rfl) (own_h hw 58 rfl) (own_h hw 34 rfl) (own_h hw 59 rfl) (by decide) (own_rmisn l Z a0 hw [] a4 ka h110 n0 Z110 f123) (by decide) (by decide) (g := (mkF m 53 #[rv a1, .val .null, rv a2, rv a3, .val .null, rv a4, .val .null, rv pr] [(.ref a4), (.ref a1)])) rfl (by rw [hml]; rfl) (argsL := [(.ref a4)]) (rest := [(.ref a1)]) rfl (lenOf own_pd8 rfl) rfl (by show 2 * 0 + _ ≤ _; exact Nat.le_of_eq rfl) (hb hby own_dxi2_53) e110 (by decide) (by decide)
  obtain ⟨rfl, Nq131, Kq131⟩ := hQ131
  have N131 := Fr.app N110 Nq131
  have f132 := f111.keep Kq131
  have f133 := f112.keep Kq131 nin0
  have f134 := f113.keep Kq131 nin0
  have f135 := f114.keep Kq131 nin0
  have f136 := f115.keep Kq131 nin0
  have f137 := f116.keep Kq131 nin0
  have f138 := Fw110.keep Kq131 nin0
  have f139 := f117.keep Kq131 nin0
  have f140 := f118.keep Kq131 nin0
  have f141 := f119.keep Kq131 nin0
  have f142 := f120.keep Kq131 nin0
  have f143 := own_staKeep f121 Kq131
  have f144 := own_staKeep f122 Kq131
  have f145 := f123.keep Kq131 nin0
  have f146 := f124.keep Kq131
  have f147 := f125.keep Kq131 nin0
  have f148 := f126.keep Kq131
  have f149 := f127.keep Kq131 nin0
  have f150 := f128.keep Kq131 nin0
  have f151 := f129.keep Kq131 nin0
  have f152 := f130.keep Kq131 nin0
  have K131 : Keep h0 T131.heap [a1, li, d] := K110.trans Kq131 all0
  have Z131 := Nat.le_trans Z110 Kq131.1
  refine own_s T131 (mkF m 56 #[rv a1, .val .null, rv a2, rv a3, .val .null, rv a4, .val .null, rv pr] [(.int 0), (.ref a1)]) st131 ?_
  refine own_s T131 (mkF m 65 #[rv a1, .val .null, rv a2, rv a3, .val .null, rv a4, .val .null, rv pr] [(.int ((2 : Int32).toInt8.toInt32)), (.ref a1)]) (fun _ k => XS.ifYes X131.here hx rfl (pc0 := 56) (pc' := 63) rfl (hb hby own_dxi2_56) rfl ((if0 _ _).trans (teq (by decide : ((0 : Int32) = (0 : Int32)))).1) (by decide) (by decide) (XS.iconst X131.here hx rfl (hb hby own_dxi2_63) (XS.i2b X131.here hx rfl (hb hby own_dxi2_64) rfl k))) ?_
  obtain ⟨T153, h153, X153, e153, W153, st153⟩ := putFN X131 hx hZ hown (own_h hw 60 rfl) Via.refl rfl f139 f132 (Or.inr ⟨(own_h hw 61 rfl), rfl, hnm⟩) (own_h hw 33 rfl) (ty := .byte) (v' := (.int 2)) (by decide) rfl rfl (g := (mkF m 65 #[rv a1, .val .null, rv a2, rv a3, .val .null, rv a4, .val .null, rv pr] [(.int ((2 : Int32).toInt8.toInt32)), (.ref a1)])) rfl rfl (hb hby own_dxi2_65)
  have Fw153 := Fld.same W153 f139
  have f154 := Exa.wr W153 f132
  have f155 := Fld.other W153 f133 (Or.inr (slot_ne (Or.inl (own_h hw 44 rfl)) (Or.inr (own_h hw 61 rfl)) (by decide) (t := (.object "java/util/List")) (t' := .byte) (by decide) (by decide)))
  have f156 := Fld.other W153 f134 (Or.inr (slot_ne (Or.inr (own_h hw 46 rfl)) (Or.inr (own_h hw 61 rfl)) (by decide) (t := (.object "java/lang/String")) (t' := .byte) (by decide) (by decide)))
  have f157 := Fld.other W153 f135 (Or.inr (slot_ne (Or.inr (own_h hw 48 rfl)) (Or.inr (own_h hw 61 rfl)) (by decide) (t := (.object "java/lang/String")) (t' := .byte) (by decide) (by decide)))
  have f158 := Fld.other W153 f136 (Or.inr (slot_ne (Or.inr (own_h hw 50 rfl)) (Or.inr (own_h hw 61 rfl)) (by decide) (t := (.object "java/lang/String")) (t' := .byte) (by decide) (by decide)))
  have f159 := Fld.other W153 f137 (Or.inr (slot_ne (Or.inr (own_h hw 52 rfl)) (Or.inr (own_h hw 61 rfl)) (by decide) (t := (.object "java/util/List")) (t' := .byte) (by decide) (by decide)))
  have f160 := Fld.other W153 f138 (Or.inr (slot_ne (Or.inr (own_h hw 56 rfl)) (Or.inr (own_h hw 61 rfl)) (by decide) (t := (.array (.object "java/lang/String"))) (t' := .byte) (by decide) (by decide)))
  have f161 := Fld.other W153 f140 (Or.inr (slot_ne (Or.inr (own_h hw 63 rfl)) (Or.inr (own_h hw 61 rfl)) (by decide) (t := (.object "com/example/tagwright/tagwright/Location")) (t' := .byte) (by decide) (by decide)))
  have f162 := Fld.other W153 f141 (Or.inr (slot_ne (Or.inr (own_h hw 65 rfl)) (Or.inr (own_h hw 61 rfl)) (by decide) (t := (.object "com/example/tagwright/tagwright/XmlElement")) (t' := .byte) (by decide) (by decide)))
  have f163 := Fld.other W153 f142 (Or.inr (slot_ne (Or.inr (own_h hw 67 rfl)) (Or.inr (own_h hw 61 rfl)) (by decide) (t := .int) (t' := .byte) (by decide) (by decide)))
  have f164 := Sta.wr W153 f143
  have f165 := Sta.wr W153 f144
  have f166 := f145.other W153 (Ne.symm pr15)
  have f167 := Exa.wr W153 f146
  have f168 := Fld.other W153 f147 (Or.inl (Ne.symm pr30))
  have f169 := Exa.wr W153 f148
  have f170 := Fld.other W153 f149 (Or.inl (Ne.symm pr31))
  have f171 := Fld.other W153 f150 (Or.inl (Ne.symm pr31))
  have f172 := Fld.other W153 f151 (Or.inl (Ne.symm pr31))
  have f173 := f152.other W153 (Ne.symm pr32)
  have K153 : Keep h0 h153 [a1, li, d] := K131.wr W153 (Or.inl (List.mem_of_getElem? (i := 0) rfl))
  have Z153 := Nat.le_trans Z131 (Nat.le_of_eq W153.size.symm)
  have N153 := Fr.snoc X153 N131 g_a1
  refine own_s T153 (mkF m 68 #[rv a1, .val .null, rv a2, rv a3, .val .null, rv a4, .val .null, rv pr] []) st153 ?_
  refine own_s T153 (mkF m 71 #[rv a1, .val .null, rv a2, rv a3, .val .null, rv a4, .val .null, rv pr] [.null, (.ref a1)]) (fun _ k => XS.aloadN X153.here hx rfl (hb hby own_dxi2_68) rfl rfl (XS.aload X153.here hx rfl (hb hby own_dxi2_69) rfl rfl k)) ?_
  obtain ⟨T174, h174, X174, e174, W174, st174⟩ := putF X153 hx hZ hown (host := "") (Or.inl (own_h hw 62 rfl)) Via.refl e153 f161 f154 (Or.inr ⟨(own_h hw 63 rfl), rfl, hnm⟩) (own_h hw 33 rfl) (ty := (.object "com/example/tagwright/tagwright/Location")) (by decide) rfl rfl (g := (mkF m 71 #[rv a1, .val .null, rv a2, rv a3, .val .null, rv a4, .val .null, rv pr] [.null, (.ref a1)])) rfl rfl (hb hby own_dxi2_71)
  have Fw174 := Fld.same W174 f161
  have f175 := Exa.wr W174 f154
  have f176 := Fld.other W174 f155 (Or.inr (slot_ne (Or.inl (own_h hw 44 rfl)) (Or.inr (own_h hw 63 rfl)) (by decide) (t := (.object "java/util/List")) (t' := (.object "com/example/tagwright/tagwright/Location")) (by decide) (by decide)))
  have f177 := Fld.other W174 f156 (Or.inr (slot_ne (Or.inr (own_h hw 46 rfl)) (Or.inr (own_h hw 63 rfl)) (by decide) (t := (.object "java/lang/String")) (t' := (.object "com/example/tagwright/tagwright/Location")) (by decide) (by decide)))
  have f178 := Fld.other W174 f157 (Or.inr (slot_ne (Or.inr (own_h hw 48 rfl)) (Or.inr (own_h hw 63 rfl)) (by decide) (t := (.object "java/lang/String")) (t' := (.object "com/example/tagwright/tagwright/Location")) (by decide) (by decide)))
  have f179 := Fld.other W174 f158 (Or.inr (slot_ne (Or.inr (own_h hw 50 rfl)) (Or.inr (own_h hw 63 rfl)) (by decide) (t := (.object "java/lang/String")) (t' := (.object "com/example/tagwright/tagwright/Location")) (by decide) (by decide)))
  have f180 := Fld.other W174 f159 (Or.inr (slot_ne (Or.inr (own_h hw 52 rfl)) (Or.inr (own_h hw 63 rfl)) (by decide) (t := (.object "java/util/List")) (t' := (.object "com/example/tagwright/tagwright/Location")) (by decide) (by decide)))
  have f181 := Fld.other W174 f160 (Or.inr (slot_ne (Or.inr (own_h hw 56 rfl)) (Or.inr (own_h hw 63 rfl)) (by decide) (t := (.array (.object "java/lang/String"))) (t' := (.object "com/example/tagwright/tagwright/Location")) (by decide) (by decide)))
  have f182 := Fld.other W174 Fw153 (Or.inr (slot_ne (Or.inr (own_h hw 61 rfl)) (Or.inr (own_h hw 63 rfl)) (by decide) (t := .byte) (t' := (.object "com/example/tagwright/tagwright/Location")) (by decide) (by decide)))
  have f183 := Fld.other W174 f162 (Or.inr (slot_ne (Or.inr (own_h hw 65 rfl)) (Or.inr (own_h hw 63 rfl)) (by decide) (t := (.object "com/example/tagwright/tagwright/XmlElement")) (t' := (.object "com/example/tagwright/tagwright/Location")) (by decide) (by decide)))
  have f184 := Fld.other W174 f163 (Or.inr (slot_ne (Or.inr (own_h hw 67 rfl)) (Or.inr (own_h hw 63 rfl)) (by decide) (t := .int) (t' := (.object "com/example/tagwright/tagwright/Location")) (by decide) (by decide)))
  have f185 := Sta.wr W174 f164
  have f186 := Sta.wr W174 f165
  have f187 := f166.other W174 (Ne.symm pr15)
  have f188 := Exa.wr W174 f167
  have f189 := Fld.other W174 f168 (Or.inl (Ne.symm pr30))
  have f190 := Exa.wr W174 f169
  have f191 := Fld.other W174 f170 (Or.inl (Ne.symm pr31))
  have f192 := Fld.other W174 f171 (Or.inl (Ne.symm pr31))
  have f193 := Fld.other W174 f172 (Or.inl (Ne.symm pr31))
  have f194 := f173.other W174 (Ne.symm pr32)
  have K174 : Keep h0 h174 [a1, li, d] := K153.wr W174 (Or.inl (List.mem_of_getElem? (i := 0) rfl))
  have Z174 := Nat.le_trans Z153 (Nat.le_of_eq W174.size.symm)
  have N174 := Fr.snoc X174 N153 g_a1
  refine own_s T174 (mkF m 74 #[rv a1, .val .null, rv a2, rv a3, .val .null, rv a4, .val .null, rv pr] []) st174 ?_
  refine own_s T174 (mkF m 77 #[rv a1, .val .null, rv a2, rv a3, .val .null, rv a4, .val .null, rv pr] [(.ref pr), (.ref a1)]) (fun _ k => XS.aloadN X174.here hx rfl (hb hby own_dxi2_74) rfl rfl (XS.aload X174.here hx rfl (hb hby own_dxi2_75) rfl rfl k)) ?_
  obtain ⟨T195, h195, X195, e195, W195, st195⟩ := putF X174 hx hZ hown (host := "") (Or.inl (own_h hw 64 rfl)) Via.refl e174 f183 f175 (Or.inr ⟨(own_h hw 65 rfl), rfl, hnm⟩) (own_h hw 33 rfl) (ty := (.object "com/example/tagwright/tagwright/XmlElement")) (by decide) rfl rfl (g := (mkF m 77 #[rv a1, .val .null, rv a2, rv a3, .val .null, rv a4, .val .null, rv pr] [(.ref pr), (.ref a1)])) rfl rfl (hb hby own_dxi2_77)
  have Fw195 := Fld.same W195 f183
  have f196 := Exa.wr W195 f175
  have f197 := Fld.other W195 f176 (Or.inr (slot_ne (Or.inl (own_h hw 44 rfl)) (Or.inr (own_h hw 65 rfl)) (by decide) (t := (.object "java/util/List")) (t' := (.object "com/example/tagwright/tagwright/XmlElement")) (by decide) (by decide)))
  have f198 := Fld.other W195 f177 (Or.inr (slot_ne (Or.inr (own_h hw 46 rfl)) (Or.inr (own_h hw 65 rfl)) (by decide) (t := (.object "java/lang/String")) (t' := (.object "com/example/tagwright/tagwright/XmlElement")) (by decide) (by decide)))
  have f199 := Fld.other W195 f178 (Or.inr (slot_ne (Or.inr (own_h hw 48 rfl)) (Or.inr (own_h hw 65 rfl)) (by decide) (t := (.object "java/lang/String")) (t' := (.object "com/example/tagwright/tagwright/XmlElement")) (by decide) (by decide)))
  have f200 := Fld.other W195 f179 (Or.inr (slot_ne (Or.inr (own_h hw 50 rfl)) (Or.inr (own_h hw 65 rfl)) (by decide) (t := (.object "java/lang/String")) (t' := (.object "com/example/tagwright/tagwright/XmlElement")) (by decide) (by decide)))
  have f201 := Fld.other W195 f180 (Or.inr (slot_ne (Or.inr (own_h hw 52 rfl)) (Or.inr (own_h hw 65 rfl)) (by decide) (t := (.object "java/util/List")) (t' := (.object "com/example/tagwright/tagwright/XmlElement")) (by decide) (by decide)))
  have f202 := Fld.other W195 f181 (Or.inr (slot_ne (Or.inr (own_h hw 56 rfl)) (Or.inr (own_h hw 65 rfl)) (by decide) (t := (.array (.object "java/lang/String"))) (t' := (.object "com/example/tagwright/tagwright/XmlElement")) (by decide) (by decide)))
  have f203 := Fld.other W195 f182 (Or.inr (slot_ne (Or.inr (own_h hw 61 rfl)) (Or.inr (own_h hw 65 rfl)) (by decide) (t := .byte) (t' := (.object "com/example/tagwright/tagwright/XmlElement")) (by decide) (by decide)))
  have f204 := Fld.other W195 Fw174 (Or.inr (slot_ne (Or.inr (own_h hw 63 rfl)) (Or.inr (own_h hw 65 rfl)) (by decide) (t := (.object "com/example/tagwright/tagwright/Location")) (t' := (.object "com/example/tagwright/tagwright/XmlElement")) (by decide) (by decide)))
  have f205 := Fld.other W195 f184 (Or.inr (slot_ne (Or.inr (own_h hw 67 rfl)) (Or.inr (own_h hw 65 rfl)) (by decide) (t := .int) (t' := (.object "com/example/tagwright/tagwright/XmlElement")) (by decide) (by decide)))
  have f206 := Sta.wr W195 f185
  have f207 := Sta.wr W195 f186
  have f208 := f187.other W195 (Ne.symm pr15)
  have f209 := Exa.wr W195 f188
  have f210 := Fld.other W195 f189 (Or.inl (Ne.symm pr30))
  have f211 := Exa.wr W195 f190
  have f212 := Fld.other W195 f191 (Or.inl (Ne.symm pr31))
  have f213 := Fld.other W195 f192 (Or.inl (Ne.symm pr31))
  have f214 := Fld.other W195 f193 (Or.inl (Ne.symm pr31))
  have f215 := f194.other W195 (Ne.symm pr32)
  have K195 : Keep h0 h195 [a1, li, d] := K174.wr W195 (Or.inl (List.mem_of_getElem? (i := 0) rfl))
  have Z195 := Nat.le_trans Z174 (Nat.le_of_eq W195.size.symm)
  have N195 := Fr.snoc X195 N174 g_a1
  refine own_s T195 (mkF m 80 #[rv a1, .val .null, rv a2, rv a3, .val .null, rv a4, .val .null, rv pr] []) st195 ?_
  refine own_s T195 (mkF m 93 #[rv a1, .val .null, rv a2, rv a3, .val .null, rv a4, .val .null, rv pr] [(.ref a1), (.ref pr), (.ref a1)]) (fun _ k => XS.aloadN X195.here hx rfl (hb hby own_dxi2_80) rfl rfl (XS.aload X195.here hx rfl (hb hby own_dxi2_81) rfl rfl (XS.ifnonnullYes X195.here hx rfl (pc0 := 83) (pc' := 90) rfl (hb hby own_dxi2_83) rfl (by decide) (by decide) (XS.aload X195.here hx rfl (hb hby own_dxi2_90) rfl rfl (XS.aloadN X195.here hx rfl (hb hby own_dxi2_92) rfl rfl k))))) ?_
  obtain ⟨v216, T216, L216, X216, hQ216, st216⟩ := own_callP X195 hx hZ (y := own_y13) (W := 1) (a := pr) hown (own_h hw 111 rfl) (own_h hw 112 rfl) (own_h hw 33 rfl) (own_h hw 113 rfl) (own_h hw 34 rfl) (own_h hw 114 rfl) (by decide) (own_rmadp1 l Z a0 hw [] pr a1 oN li d kd x0 h195 n0 Z195 f209 f206 f196 g_li g_d f210 f211 f212 f213 f214 f215 pr25 pr26 pr27 pr28 pr29) (by decide) (by decide) f209 (g := (mkF m 93 #[rv a1, .val .null, rv a2, rv a3, .val .null, rv a4, .val .null, rv pr] [(.ref a1), (.ref pr), (.ref a1)])) rfl (by rw [hml]; rfl) (argsL := [(.ref a1)]) (rest := [(.ref a1)]) rfl (lenOf own_pd9 rfl) rfl (by show 2 * 0 + _ ≤ _; exact Nat.le_of_eq rfl) (hb hby own_dxi2_93) e195 (by decide) (by decide)
  obtain ⟨rfl, Nq216, Kq216, q216_0, q216_1, q216_2, q216_3, q216_4⟩ := hQ216
  have N216 := Fr.app N195 Nq216
  have f217 := f196.keep Kq216
  have f218 := f197.keep Kq216 (ninS pr31 (ninS pr32 nin0))
  have f219 := f198.keep Kq216 (ninS pr31 (ninS pr32 nin0))
  have f220 := f199.keep Kq216 (ninS pr31 (ninS pr32 nin0))
  have f221 := f200.keep Kq216 (ninS pr31 (ninS pr32 nin0))
  have f222 := f201.keep Kq216 (ninS pr31 (ninS pr32 nin0))
  have f223 := f202.keep Kq216 (ninS pr31 (ninS pr32 nin0))
  have f224 := f203.keep Kq216 (ninS pr31 (ninS pr32 nin0))
  have f225 := f204.keep Kq216 (ninS pr31 (ninS pr32 nin0))
  have f226 := Fw195.keep Kq216 (ninS pr31 (ninS pr32 nin0))
  have f227 := f205.keep Kq216 (ninS pr31 (ninS pr32 nin0))
  have f228 := own_staKeepW f206 Kq216 (allS f211.nostat (allS f215.nostat all0))
  have f229 := own_staKeepW f207 Kq216 (allS f211.nostat (allS f215.nostat all0))
  have f230 := f208.keep Kq216 (ninS (Ne.symm pr34) (ninS (Ne.symm pr35) nin0))
  have f231 := f209.keep Kq216
  have f232 := f210.keep Kq216 (ninS pr28 (ninS pr29 nin0))
  have f233 := f211.keep Kq216
  have K216 : Keep h0 T216.heap [a1, li, d] := K195.trans Kq216 (allS (Or.inl (List.mem_of_getElem? (i := 1) rfl)) (allS (Or.inl (List.mem_of_getElem? (i := 2) rfl)) all0))
  have Z216 := Nat.le_trans Z195 Kq216.1
  refine own_s T216 (mkF m 96 #[rv a1, .val .null, rv a2, rv a3, .val .null, rv a4, .val .null, rv pr] [(.int 1), (.ref a1)]) st216 ?_
  obtain ⟨T234, h234, X234, e234, W234, st234⟩ := putF X216 hx hZ hown (host := "") (Or.inl (own_h hw 66 rfl)) Via.refl rfl f227 f217 (Or.inr ⟨(own_h hw 67 rfl), rfl, hnm⟩) (own_h hw 33 rfl) (ty := .int) (by decide) rfl rfl (g := (mkF m 96 #[rv a1, .val .null, rv a2, rv a3, .val .null, rv a4, .val .null, rv pr] [(.int 1), (.ref a1)])) rfl rfl (hb hby own_dxi2_96)
  have Fw234 := Fld.same W234 f227
  have f235 := Exa.wr W234 f217
  have f236 := Fld.other W234 f218 (Or.inr (slot_ne (Or.inl (own_h hw 44 rfl)) (Or.inr (own_h hw 67 rfl)) (by decide) (t := (.object "java/util/List")) (t' := .int) (by decide) (by decide)))
  have f237 := Fld.other W234 f219 (Or.inr (slot_ne (Or.inr (own_h hw 46 rfl)) (Or.inr (own_h hw 67 rfl)) (by decide) (t := (.object "java/lang/String")) (t' := .int) (by decide) (by decide)))
  have f238 := Fld.other W234 f220 (Or.inr (slot_ne (Or.inr (own_h hw 48 rfl)) (Or.inr (own_h hw 67 rfl)) (by decide) (t := (.object "java/lang/String")) (t' := .int) (by decide) (by decide)))
  have f239 := Fld.other W234 f221 (Or.inr (slot_ne (Or.inr (own_h hw 50 rfl)) (Or.inr (own_h hw 67 rfl)) (by decide) (t := (.object "java/lang/String")) (t' := .int) (by decide) (by decide)))
  have f240 := Fld.other W234 f222 (Or.inr (slot_ne (Or.inr (own_h hw 52 rfl)) (Or.inr (own_h hw 67 rfl)) (by decide) (t := (.object "java/util/List")) (t' := .int) (by decide) (by decide)))
  have f241 := Fld.other W234 f223 (Or.inr (slot_ne (Or.inr (own_h hw 56 rfl)) (Or.inr (own_h hw 67 rfl)) (by decide) (t := (.array (.object "java/lang/String"))) (t' := .int) (by decide) (by decide)))
  have f242 := Fld.other W234 f224 (Or.inr (slot_ne (Or.inr (own_h hw 61 rfl)) (Or.inr (own_h hw 67 rfl)) (by decide) (t := .byte) (t' := .int) (by decide) (by decide)))
  have f243 := Fld.other W234 f225 (Or.inr (slot_ne (Or.inr (own_h hw 63 rfl)) (Or.inr (own_h hw 67 rfl)) (by decide) (t := (.object "com/example/tagwright/tagwright/Location")) (t' := .int) (by decide) (by decide)))
  have f244 := Fld.other W234 f226 (Or.inr (slot_ne (Or.inr (own_h hw 65 rfl)) (Or.inr (own_h hw 67 rfl)) (by decide) (t := (.object "com/example/tagwright/tagwright/XmlElement")) (t' := .int) (by decide) (by decide)))
  have f245 := Sta.wr W234 f228
  have f246 := Sta.wr W234 f229
  have f247 := f230.other W234 (Ne.symm pr15)
  have f248 := Exa.wr W234 f231
  have f249 := Fld.other W234 f232 (Or.inl (Ne.symm pr30))
  have f250 := Exa.wr W234 q216_0
  have f251 := Fld.other W234 q216_1 (Or.inl (Ne.symm pr31))
  have f252 := Fld.other W234 q216_2 (Or.inl (Ne.symm pr31))
  have f253 := Fld.other W234 q216_3 (Or.inl (Ne.symm pr31))
  have f254 := q216_4.other W234 (Ne.symm pr32)
  have K234 : Keep h0 h234 [a1, li, d] := K216.wr W234 (Or.inl (List.mem_of_getElem? (i := 0) rfl))
  have Z234 := Nat.le_trans Z216 (Nat.le_of_eq W234.size.symm)
  have N234 := Fr.snoc X234 N216 g_a1
  refine own_s T234 (mkF m 99 #[rv a1, .val .null, rv a2, rv a3, .val .null, rv a4, .val .null, rv pr] []) st234 ?_
  exact own_finV X234 hx hret (hb hby own_dxi2_99) (own_end (Qv := (own_Qxi2 Z a1 a2 a3 a4 pr oN oA ka li d kd x0 h0 n0)) X234 (fun _ => rfl) hlk (by decide) (by decide) e234 ⟨rfl, N234, K234, f235, f236, f244, f250, f251, f252, f253, f254⟩)
abbrev own_y16 : MethodName := ⟨"com/example/tagwright/tagwright/XmlTree", "<init>", "()V"⟩
theorem own_pn7 : plainName "com/example/tagwright/tagwright/XmlTree" = true := by first | (simp [plainName, overriddenIn]; done) | decide +kernel
theorem own_dti_0 : decode prog_111_method_1_code 0 = .ok (.aload_n 0, 1) := by decide +kernel
theorem own_dti_1 : decode prog_111_method_1_code 1 = .ok (.invokespecial 1, 3) := by decide +kernel
theorem own_dti_4 : decode prog_111_method_1_code 4 = .ok (.aload_n 0, 1) := by decide +kernel
theorem own_dti_5 : decode prog_111_method_1_code 5 = .ok (.bipush 16, 2) := by decide +kernel
theorem own_dti_7 : decode prog_111_method_1_code 7 = .ok (.anewarray 9, 3) := by decide +kernel
theorem own_dti_10 : decode prog_111_method_1_code 10 = .ok (.putfield 11, 3) := by decide +kernel
theorem own_dti_13 : decode prog_111_method_1_code 13 = .ok (.aload_n 0, 1) := by decide +kernel
theorem own_dti_14 : decode prog_111_method_1_code 14 = .ok (.bipush 16, 2) := by decide +kernel
theorem own_dti_16 : decode prog_111_method_1_code 16 = .ok (.anewarray 15, 3) := by decide +kernel
theorem own_dti_19 : decode prog_111_method_1_code 19 = .ok (.putfield 17, 3) := by decide +kernel
theorem own_dti_22 : decode prog_111_method_1_code 22 = .ok (.return_, 1) := by decide +kernel
theorem own_efti (m : MethodId) (x0 : Addr) : entryFrame m #[(.ref x0)] 1 = mkF m 0 #[rv x0] [] := by first | (simp [entryFrame, mkF, argsToLocals, Value.category]; done) | rfl
def own_Qti (Z : State) (a1 : Addr) (h0 : Heap) (n0 : Nat) : Option Value → Heap → List Loc → Prop := fun v h L => v = none ∧ Fr n0 L ∧ Keep h0 h [a1] ∧ Exa Z h a1 "com/example/tagwright/tagwright/XmlTree" ∧ Fld Z h a1 "com/example/tagwright/tagwright/XmlTree" "current" "Lcom/example/tagwright/tagwright/XmlElement;" .null ∧ Fld Z h a1 "com/example/tagwright/tagwright/XmlTree" "root" "Lcom/example/tagwright/tagwright/XmlElement;" .null ∧ Fld Z h a1 "com/example/tagwright/tagwright/XmlTree" "depth" "I" (.int 0)
def own_Rti : Room := { frames := 1, cells := 2, slots := 32, locals := 12 }
set_option maxRecDepth 65536 in
set_option maxHeartbeats 40000000 in
theorem own_rmti (l : Launch) (Z : State) (a0 : Array Value) (hw : ∀ d ∈ tables_1, d.before a0 Z = true) (ws : List Jvm.Cond) (a1 : Addr) (h0 : Heap) (n0 : Nat) (Z0 : n0 ≤ h0.size) (g_a1 : n0 ≤ a1) (pr1 : Exa Z h0 a1 "com/example/tagwright/tagwright/XmlTree") (pr2 : Fld Z h0 a1 "com/example/tagwright/tagwright/XmlTree" "current" "Lcom/example/tagwright/tagwright/XmlElement;" .null) (pr3 : Fld Z h0 a1 "com/example/tagwright/tagwright/XmlTree" "root" "Lcom/example/tagwright/tagwright/XmlElement;" .null) (pr4 : Fld Z h0 a1 "com/example/tagwright/tagwright/XmlTree" "depth" "I" (.int 0)) (pr5 : Fld Z h0 a1 "com/example/tagwright/tagwright/XmlTree" "whiteSpaces" "[Ljava/lang/String;" .null) (pr6 : Fld Z h0 a1 "com/example/tagwright/tagwright/XmlTree" "whiteSpaceBytes" "[[B" .null) :
    own_Met l Z own_y16 prog_111_method_1_code 1 none ws own_Rti h0 #[(.ref a1)] (own_Qti Z a1 h0 n0) own_Rti.cells own_Rti.slots := by
  refine own_start (plainFor_of_name own_pn7) ?_
  intro p e s m below meth c s₁ X0 hx hZ hby hml hret hlk hown hnm e0
  have hown : s.vm.findClass "com/example/tagwright/tagwright/XmlTree" = some m.cls := hown
  have hml : c.maxLocals = 1 := hml
  have N0 := Fr.nil n0
  refine own_cast (own_efti m a1) ?_
  refine own_s s₁ (mkF m 1 #[rv a1] [(.ref a1)]) (fun _ k => XS.aloadN X0.here hx rfl (hb hby own_dti_0) rfl rfl k) ?_
  obtain ⟨T1, X1, e1, st1⟩ := initO X0 hx hZ hown (own_h hw 7 rfl) (own_h hw 8 rfl) (own_h hw 9 rfl) e0 (g := (mkF m 1 #[rv a1] [(.ref a1)])) rfl (by rw [hml]; rfl) rfl (hb hby own_dti_1) (by decide) (W := 0) (by show 2 * 0 + _ ≤ _; exact Nat.le_of_eq rfl) (by decide)
  refine own_s T1 (mkF m 4 #[rv a1] []) st1 ?_
  refine own_s T1 (mkF m 7 #[rv a1] [(.int 16), (.ref a1)]) (fun _ k => XS.aloadN X1.here hx rfl (hb hby own_dti_4) rfl rfl (XS.bipush X1.here hx rfl (hb hby own_dti_5) k)) ?_
  obtain ⟨T2, h2, k2, X2, e2, E2, A2, O2, st2⟩ := newR X1 hx hZ hown (own_h hw 10 rfl) (own_h hw 11 rfl) e1 (g := (mkF m 7 #[rv a1] [(.int 16), (.ref a1)])) rfl (hb hby own_dti_7) rfl (by decide) (cap := 16) (by decide) (by decide) (by decide) (by decide)
  obtain ⟨b2, g2⟩ : ∃ z, z = h0.size := ⟨_, rfl⟩
  have ne_a1_b2 : a1 ≠ b2 := Nat.ne_of_lt (Nat.lt_of_lt_of_le pr1.lt (Nat.le_of_eq g2.symm))
  have g_b2 : n0 ≤ b2 := Nat.le_trans Z0 (Nat.le_of_eq g2.symm)
  have sz_b2 : h0.size ≤ b2 := Nat.le_trans (Keep.refl h0 [a1]).1 (Nat.le_of_eq g2.symm)
  rw [← g2] at A2 st2
  have f3 := Exa.ext E2 pr1
  have f4 := Fld.ext E2 pr2
  have f5 := Fld.ext E2 pr3
  have f6 := Fld.ext E2 pr4
  have f7 := Fld.ext E2 pr5
  have f8 := Fld.ext E2 pr6
  have K2 : Keep h0 h2 [a1] := (Keep.refl h0 [a1]).ext E2
  have Z2 := Nat.le_trans Z0 E2.1
  have f2 : Arv Z h2 b2 k2 (.object "java/lang/String") 16 [.null, .null, .null, .null, .null, .null, .null, .null, .null, .null, .null, .null, .null, .null, .null, .null] .null := (Arv.new A2 (by decide)).pad (pad_rep [] .null 16)
  refine own_s T2 (mkF m 10 #[rv a1] [(.ref b2), (.ref a1)]) st2 ?_
  obtain ⟨T9, h9, X9, e9, W9, st9⟩ := putF X2 hx hZ hown (host := "") (Or.inl (own_h hw 12 rfl)) Via.refl e2 f7 f3 (Or.inr ⟨(own_h hw 13 rfl), rfl, hnm⟩) (own_h hw 2 rfl) (ty := (.array (.object "java/lang/String"))) (by decide) rfl rfl (g := (mkF m 10 #[rv a1] [(.ref b2), (.ref a1)])) rfl rfl (hb hby own_dti_10)
  have Fw9 := Fld.same W9 f7
  have f10 := Exa.wr W9 f3
  have f11 := Fld.other W9 f4 (Or.inr (slot_ne (Or.inl (own_h hw 36 rfl)) (Or.inr (own_h hw 13 rfl)) (by decide) (t := (.object "com/example/tagwright/tagwright/XmlElement")) (t' := (.array (.object "java/lang/String"))) (by decide) (by decide)))
  have f12 := Fld.other W9 f5 (Or.inr (slot_ne (Or.inl (own_h hw 69 rfl)) (Or.inr (own_h hw 13 rfl)) (by decide) (t := (.object "com/example/tagwright/tagwright/XmlElement")) (t' := (.array (.object "java/lang/String"))) (by decide) (by decide)))
  have f13 := Fld.other W9 f6 (Or.inr (slot_ne (Or.inl (own_h hw 71 rfl)) (Or.inr (own_h hw 13 rfl)) (by decide) (t := .int) (t' := (.array (.object "java/lang/String"))) (by decide) (by decide)))
  have f14 := Fld.other W9 f8 (Or.inr (slot_ne (Or.inr (own_h hw 17 rfl)) (Or.inr (own_h hw 13 rfl)) (by decide) (t := (.array (.array .byte))) (t' := (.array (.object "java/lang/String"))) (by decide) (by decide)))
  have f15 := f2.other W9 (Ne.symm ne_a1_b2)
  have K9 : Keep h0 h9 [a1] := K2.wr W9 (Or.inl (List.mem_of_getElem? (i := 0) rfl))
  have Z9 := Nat.le_trans Z2 (Nat.le_of_eq W9.size.symm)
  have N9 := Fr.snoc X9 N0 g_a1
  refine own_s T9 (mkF m 13 #[rv a1] []) st9 ?_
  refine own_s T9 (mkF m 16 #[rv a1] [(.int 16), (.ref a1)]) (fun _ k => XS.aloadN X9.here hx rfl (hb hby own_dti_13) rfl rfl (XS.bipush X9.here hx rfl (hb hby own_dti_14) k)) ?_
  obtain ⟨T16, h16, k16, X16, e16, E16, A16, -, O16, st16⟩ := newRA X9 hx hZ hown (ty := .byte) (C := "[B") (by decide) (own_h hw 14 rfl) (own_h hw 15 rfl) e9 (g := (mkF m 16 #[rv a1] [(.int 16), (.ref a1)])) rfl (hb hby own_dti_16) rfl (by decide) (cap := 16) (by decide) (by decide) (by decide) (by decide) rfl
  obtain ⟨b16, g16⟩ : ∃ z, z = h9.size := ⟨_, rfl⟩
  have ne_a1_b16 : a1 ≠ b16 := Nat.ne_of_lt (Nat.lt_of_lt_of_le f10.lt (Nat.le_of_eq g16.symm))
  have ne_b2_b16 : b2 ≠ b16 := Nat.ne_of_lt (Nat.lt_of_lt_of_le f15.lt (Nat.le_of_eq g16.symm))
  have g_b16 : n0 ≤ b16 := Nat.le_trans Z9 (Nat.le_of_eq g16.symm)
  have sz_b16 : h0.size ≤ b16 := Nat.le_trans K9.1 (Nat.le_of_eq g16.symm)
  rw [← g16] at A16 st16
  have f17 := Exa.ext E16 f10
  have f18 := Fld.ext E16 f11
  have f19 := Fld.ext E16 f12
  have f20 := Fld.ext E16 f13
  have f21 := Fld.ext E16 Fw9
  have f22 := Fld.ext E16 f14
  have f23 := f15.ext E16
  have K16 : Keep h0 h16 [a1] := K9.ext E16
  have Z16 := Nat.le_trans Z9 E16.1
  have f16 : Arv Z h16 b16 k16 (.array .byte) 16 [.null, .null, .null, .null, .null, .null, .null, .null, .null, .null, .null, .null, .null, .null, .null, .null] .null := (Arv.new A16 (by decide)).pad (pad_rep [] .null 16)
  refine own_s T16 (mkF m 19 #[rv a1] [(.ref b16), (.ref a1)]) st16 ?_
  obtain ⟨T24, h24, X24, e24, W24, st24⟩ := putF X16 hx hZ hown (host := "") (Or.inl (own_h hw 16 rfl)) Via.refl e16 f22 f17 (Or.inr ⟨(own_h hw 17 rfl), rfl, hnm⟩) (own_h hw 2 rfl) (ty := (.array (.array .byte))) (by decide) rfl rfl (g := (mkF m 19 #[rv a1] [(.ref b16), (.ref a1)])) rfl rfl (hb hby own_dti_19)
  have Fw24 := Fld.same W24 f22
  have f25 := Exa.wr W24 f17
  have f26 := Fld.other W24 f18 (Or.inr (slot_ne (Or.inl (own_h hw 36 rfl)) (Or.inr (own_h hw 17 rfl)) (by decide) (t := (.object "com/example/tagwright/tagwright/XmlElement")) (t' := (.array (.array .byte))) (by decide) (by decide)))
  have f27 := Fld.other W24 f19 (Or.inr (slot_ne (Or.inl (own_h hw 69 rfl)) (Or.inr (own_h hw 17 rfl)) (by decide) (t := (.object "com/example/tagwright/tagwright/XmlElement")) (t' := (.array (.array .byte))) (by decide) (by decide)))
  have f28 := Fld.other W24 f20 (Or.inr (slot_ne (Or.inl (own_h hw 71 rfl)) (Or.inr (own_h hw 17 rfl)) (by decide) (t := .int) (t' := (.array (.array .byte))) (by decide) (by decide)))
  have f29 := Fld.other W24 f21 (Or.inr (slot_ne (Or.inr (own_h hw 13 rfl)) (Or.inr (own_h hw 17 rfl)) (by decide) (t := (.array (.object "java/lang/String"))) (t' := (.array (.array .byte))) (by decide) (by decide)))
  have f30 := f23.other W24 (Ne.symm ne_a1_b2)
  have f31 := f16.other W24 (Ne.symm ne_a1_b16)
  have K24 : Keep h0 h24 [a1] := K16.wr W24 (Or.inl (List.mem_of_getElem? (i := 0) rfl))
  have Z24 := Nat.le_trans Z16 (Nat.le_of_eq W24.size.symm)
  have N24 := Fr.snoc X24 N9 g_a1
  refine own_s T24 (mkF m 22 #[rv a1] []) st24 ?_
  exact own_finV X24 hx hret (hb hby own_dti_22) (own_end (Qv := (own_Qti Z a1 h0 n0)) X24 (fun _ => rfl) hlk (by decide) (by decide) e24 ⟨rfl, N24, K24, f25, f26, f27, f28⟩)
theorem own_pd10 : parseMethodDescriptor "(Ljava/lang/String;Ljava/lang/String;Ljava/lang/String;Ljava/util/List;[Ljava/lang/String;Lcom/example/tagwright/tagwright/Location;Lcom/example/tagwright/tagwright/XmlElement;)V" = some ⟨[(.object "java/lang/String"), (.object "java/lang/String"), (.object "java/lang/String"), (.object "java/util/List"), (.array (.object "java/lang/String")), (.object "com/example/tagwright/tagwright/Location"), (.object "com/example/tagwright/tagwright/XmlElement")], none⟩ := by decide +kernel
abbrev own_y17 : MethodName := ⟨"com/example/tagwright/tagwright/XmlTree", "start", "(Ljava/lang/String;Ljava/lang/String;Ljava/lang/String;Ljava/util/List;[Ljava/lang/String;Lcom/example/tagwright/tagwright/Location;)V"⟩
theorem own_dst0_0 : decode prog_111_method_2_code 0 = .ok (.aload_n 0, 1) := by decide +kernel
theorem own_dst0_1 : decode prog_111_method_2_code 1 = .ok (.new 21, 3) := by decide +kernel
theorem own_dst0_4 : decode prog_111_method_2_code 4 = .ok (.dup, 1) := by decide +kernel
theorem own_dst0_5 : decode prog_111_method_2_code 5 = .ok (.aload_n 1, 1) := by decide +kernel
theorem own_dst0_6 : decode prog_111_method_2_code 6 = .ok (.aload_n 2, 1) := by decide +kernel
theorem own_dst0_7 : decode prog_111_method_2_code 7 = .ok (.aload_n 3, 1) := by decide +kernel
theorem own_dst0_8 : decode prog_111_method_2_code 8 = .ok (.aload 4, 2) := by decide +kernel
theorem own_dst0_10 : decode prog_111_method_2_code 10 = .ok (.aload 5, 2) := by decide +kernel
theorem own_dst0_12 : decode prog_111_method_2_code 12 = .ok (.aload 6, 2) := by decide +kernel
theorem own_dst0_14 : decode prog_111_method_2_code 14 = .ok (.aload_n 0, 1) := by decide +kernel
theorem own_dst0_15 : decode prog_111_method_2_code 15 = .ok (.getfield 23, 3) := by decide +kernel
theorem own_dst0_18 : decode prog_111_method_2_code 18 = .ok (.invokespecial 27, 3) := by decide +kernel
theorem own_dst0_21 : decode prog_111_method_2_code 21 = .ok (.putfield 23, 3) := by decide +kernel
theorem own_dst0_24 : decode prog_111_method_2_code 24 = .ok (.aload_n 0, 1) := by decide +kernel
theorem own_dst0_25 : decode prog_111_method_2_code 25 = .ok (.getfield 30, 3) := by decide +kernel
theorem own_dst0_28 : decode prog_111_method_2_code 28 = .ok (.ifnonnull 11, 3) := by decide +kernel
theorem own_dst0_31 : decode prog_111_method_2_code 31 = .ok (.aload_n 0, 1) := by decide +kernel
theorem own_dst0_32 : decode prog_111_method_2_code 32 = .ok (.aload_n 0, 1) := by decide +kernel
theorem own_dst0_33 : decode prog_111_method_2_code 33 = .ok (.getfield 23, 3) := by decide +kernel
theorem own_dst0_36 : decode prog_111_method_2_code 36 = .ok (.putfield 30, 3) := by decide +kernel
theorem own_dst0_39 : decode prog_111_method_2_code 39 = .ok (.aload_n 0, 1) := by decide +kernel
theorem own_dst0_40 : decode prog_111_method_2_code 40 = .ok (.dup, 1) := by decide +kernel
theorem own_dst0_41 : decode prog_111_method_2_code 41 = .ok (.getfield 33, 3) := by decide +kernel
theorem own_dst0_44 : decode prog_111_method_2_code 44 = .ok (.iconst 1, 1) := by decide +kernel
theorem own_dst0_45 : decode prog_111_method_2_code 45 = .ok (.iadd, 1) := by decide +kernel
theorem own_dst0_46 : decode prog_111_method_2_code 46 = .ok (.putfield 33, 3) := by decide +kernel
theorem own_dst0_49 : decode prog_111_method_2_code 49 = .ok (.return_, 1) := by decide +kernel
theorem own_efst0 (m : MethodId) (x0 : Addr) (x2 : Addr) (x3 : Addr) (x5 : Addr) : entryFrame m #[(.ref x0), .null, (.ref x2), (.ref x3), .null, (.ref x5), .null] 7 = mkF m 0 #[rv x0, .val .null, rv x2, rv x3, .val .null, rv x5, .val .null] [] := by first | (simp [entryFrame, mkF, argsToLocals, Value.category]; done) | rfl
def own_Qst0 (Z : State) (a1 : Addr) (a2 : Addr) (a3 : Addr) (a4 : Addr) (oN : Addr) (oA : Addr) (ka : ClassId) (h0 : Heap) (n0 : Nat) : Option Value → Heap → List Loc → Prop := fun v h L => ∃ (x : Addr), v = none ∧ Fr n0 L ∧ Keep h0 h [a1] ∧ n0 ≤ x ∧ h0.size ≤ x ∧ Exa Z h a1 "com/example/tagwright/tagwright/XmlTree" ∧ Fld Z h a1 "com/example/tagwright/tagwright/XmlTree" "current" "Lcom/example/tagwright/tagwright/XmlElement;" (.ref x) ∧ Fld Z h a1 "com/example/tagwright/tagwright/XmlTree" "root" "Lcom/example/tagwright/tagwright/XmlElement;" (.ref x) ∧ Fld Z h a1 "com/example/tagwright/tagwright/XmlTree" "depth" "I" (.int 1) ∧ Exa Z h x "com/example/tagwright/tagwright/XmlElement" ∧ Fld Z h x "com/example/tagwright/tagwright/XmlElement" "children" "Ljava/util/List;" (.ref oN) ∧ Fld Z h x "com/example/tagwright/tagwright/XmlElement" "parent" "Lcom/example/tagwright/tagwright/XmlElement;" .null
def own_Rst0 : Room := { frames := 2, cells := 1, slots := 12, locals := 34 }
set_option maxRecDepth 65536 in
set_option maxHeartbeats 40000000 in
theorem own_rmst0 (l : Launch) (Z : State) (a0 : Array Value) (hw : ∀ d ∈ tables_1, d.before a0 Z = true) (ws : List Jvm.Cond) (a1 : Addr) (a2 : Addr) (a3 : Addr) (a4 : Addr) (oN : Addr) (oA : Addr) (ka : ClassId) (h0 : Heap) (n0 : Nat) (Z0 : n0 ≤ h0.size) (g_a1 : n0 ≤ a1) (pr1 : Exa Z h0 a1 "com/example/tagwright/tagwright/XmlTree") (pr2 : Fld Z h0 a1 "com/example/tagwright/tagwright/XmlTree" "current" "Lcom/example/tagwright/tagwright/XmlElement;" .null) (pr3 : Fld Z h0 a1 "com/example/tagwright/tagwright/XmlTree" "root" "Lcom/example/tagwright/tagwright/XmlElement;" .null) (pr4 : Fld Z h0 a1 "com/example/tagwright/tagwright/XmlTree" "depth" "I" (.int 0)) (pr5 : Sta Z h0 "com/example/tagwright/tagwright/XmlElement" "NO_CHILDREN" "Ljava/util/List;" (.ref oN)) (pr6 : Sta Z h0 "com/example/tagwright/tagwright/XmlElement" "NO_ATTRIBUTES" "[Ljava/lang/String;" (.ref oA)) (pr7 : Arv Z h0 a4 ka (.object "java/lang/String") (0 : Int32) [] .null) (pr8 : a1 ≠ a4) :
    own_Met l Z own_y17 prog_111_method_2_code 7 none ws own_Rst0 h0 #[(.ref a1), .null, (.ref a2), (.ref a3), .null, (.ref a4), .null] (own_Qst0 Z a1 a2 a3 a4 oN oA ka h0 n0) own_Rst0.cells own_Rst0.slots := by
  refine own_start (plainFor_of_name own_pn7) ?_
  intro p e s m below meth c s₁ X0 hx hZ hby hml hret hlk hown hnm e0
  have hown : s.vm.findClass "com/example/tagwright/tagwright/XmlTree" = some m.cls := hown
  have hml : c.maxLocals = 7 := hml
  have N0 := Fr.nil n0
  refine own_cast (own_efst0 m a1 a2 a3 a4) ?_
  refine own_s s₁ (mkF m 1 #[rv a1, .val .null, rv a2, rv a3, .val .null, rv a4, .val .null] [(.ref a1)]) (fun _ k => XS.aloadN X0.here hx rfl (hb hby own_dst0_0) rfl rfl k) ?_
  obtain ⟨T1, h1, X1, e1, E1, A1, D1, -, st1⟩ := newO X0 hx hZ hown (own_h hw 32 rfl) (own_h hw 33 rfl) (own_h hw 34 rfl) e0 (g := (mkF m 1 #[rv a1, .val .null, rv a2, rv a3, .val .null, rv a4, .val .null] [(.ref a1)])) rfl (hb hby own_dst0_1) (by decide) (by decide)
  obtain ⟨b1, g1⟩ : ∃ z, z = h0.size := ⟨_, rfl⟩
  have ne_a1_b1 : a1 ≠ b1 := Nat.ne_of_lt (Nat.lt_of_lt_of_le pr1.lt (Nat.le_of_eq g1.symm))
  have ne_a4_b1 : a4 ≠ b1 := Nat.ne_of_lt (Nat.lt_of_lt_of_le pr7.lt (Nat.le_of_eq g1.symm))
  have g_b1 : n0 ≤ b1 := Nat.le_trans Z0 (Nat.le_of_eq g1.symm)
  have sz_b1 : h0.size ≤ b1 := Nat.le_trans (Keep.refl h0 [a1]).1 (Nat.le_of_eq g1.symm)
  rw [← g1] at A1 D1 st1
  have f2 := Exa.ext E1 pr1
  have f3 := Fld.ext E1 pr2
  have f4 := Fld.ext E1 pr3
  have f5 := Fld.ext E1 pr4
  have f6 := Sta.ext E1 pr5
  have f7 := Sta.ext E1 pr6
  have f8 := pr7.ext E1
  have K1 : Keep h0 h1 [a1] := (Keep.refl h0 [a1]).ext E1
  have Z1 := Nat.le_trans Z0 E1.1
  have f9 : Fld Z h1 b1 "com/example/tagwright/tagwright/XmlElement" "children" "Ljava/util/List;" .null := D1 (Or.inl (own_h hw 44 rfl)) (ty := (.object "java/util/List")) (by decide)
  have f10 : Fld Z h1 b1 "com/example/tagwright/tagwright/XmlElement" "namespace" "Ljava/lang/String;" .null := D1 (Or.inr (own_h hw 46 rfl)) (ty := (.object "java/lang/String")) (by decide)
  have f11 : Fld Z h1 b1 "com/example/tagwright/tagwright/XmlElement" "localName" "Ljava/lang/String;" .null := D1 (Or.inr (own_h hw 48 rfl)) (ty := (.object "java/lang/String")) (by decide)
  have f12 : Fld Z h1 b1 "com/example/tagwright/tagwright/XmlElement" "tagName" "Ljava/lang/String;" .null := D1 (Or.inr (own_h hw 50 rfl)) (ty := (.object "java/lang/String")) (by decide)
  have f13 : Fld Z h1 b1 "com/example/tagwright/tagwright/XmlElement" "declarations" "Ljava/util/List;" .null := D1 (Or.inr (own_h hw 52 rfl)) (ty := (.object "java/util/List")) (by decide)
  have f14 : Fld Z h1 b1 "com/example/tagwright/tagwright/XmlElement" "attributes" "[Ljava/lang/String;" .null := D1 (Or.inr (own_h hw 56 rfl)) (ty := (.array (.object "java/lang/String"))) (by decide)
  have f15 : Fld Z h1 b1 "com/example/tagwright/tagwright/XmlElement" "stride" "B" (.int 0) := D1 (Or.inr (own_h hw 61 rfl)) (ty := .byte) (by decide)
  have f16 : Fld Z h1 b1 "com/example/tagwright/tagwright/XmlElement" "location" "Lcom/example/tagwright/tagwright/Location;" .null := D1 (Or.inr (own_h hw 63 rfl)) (ty := (.object "com/example/tagwright/tagwright/Location")) (by decide)
  have f17 : Fld Z h1 b1 "com/example/tagwright/tagwright/XmlElement" "parent" "Lcom/example/tagwright/tagwright/XmlElement;" .null := D1 (Or.inr (own_h hw 65 rfl)) (ty := (.object "com/example/tagwright/tagwright/XmlElement")) (by decide)
  have f18 : Fld Z h1 b1 "com/example/tagwright/tagwright/XmlElement" "index" "I" (.int 0) := D1 (Or.inr (own_h hw 67 rfl)) (ty := .int) (by decide)
  refine own_s T1 (mkF m 4 #[rv a1, .val .null, rv a2, rv a3, .val .null, rv a4, .val .null] [(.ref b1), (.ref a1)]) st1 ?_
  refine own_s T1 (mkF m 10 #[rv a1, .val .null, rv a2, rv a3, .val .null, rv a4, .val .null] [.null, (.ref a3), (.ref a2), .null, (.ref b1), (.ref b1), (.ref a1)]) (fun _ k => XS.dup X1.here hx rfl (hb hby own_dst0_4) rfl rfl (XS.aloadN X1.here hx rfl (hb hby own_dst0_5) rfl rfl (XS.aloadN X1.here hx rfl (hb hby own_dst0_6) rfl rfl (XS.aloadN X1.here hx rfl (hb hby own_dst0_7) rfl rfl (XS.aload X1.here hx rfl (hb hby own_dst0_8) rfl rfl k))))) ?_
  refine own_s T1 (mkF m 15 #[rv a1, .val .null, rv a2, rv a3, .val .null, rv a4, .val .null] [(.ref a1), .null, (.ref a4), .null, (.ref a3), (.ref a2), .null, (.ref b1), (.ref b1), (.ref a1)]) (fun _ k => XS.aload X1.here hx rfl (hb hby own_dst0_10) rfl rfl (XS.aload X1.here hx rfl (hb hby own_dst0_12) rfl rfl (XS.aloadN X1.here hx rfl (hb hby own_dst0_14) rfl rfl k))) ?_
  obtain ⟨T19, X19, e19, st19⟩ := getF X1 hx hZ hown (host := "") (Or.inl (own_h hw 35 rfl)) Via.refl e1 f3 (g := (mkF m 15 #[rv a1, .val .null, rv a2, rv a3, .val .null, rv a4, .val .null] [(.ref a1), .null, (.ref a4), .null, (.ref a3), (.ref a2), .null, (.ref b1), (.ref b1), (.ref a1)])) rfl rfl (hb hby own_dst0_15)
  refine own_s T19 (mkF m 18 #[rv a1, .val .null, rv a2, rv a3, .val .null, rv a4, .val .null] [.null, .null, (.ref a4), .null, (.ref a3), (.ref a2), .null, (.ref b1), (.ref b1), (.ref a1)]) st19 ?_
  obtain ⟨v20, T20, L20, X20, hQ20, st20⟩ := own_callI X19 hx hZ (y := own_y15) (W := 2) (a := b1) rfl hown (own_h hw 37 rfl) (own_h hw 38 rfl) (own_h hw 34 rfl) (own_h hw 39 rfl) (by decide) (own_rmxi0 l Z a0 hw [] b1 a2 a3 a4 oN oA ka h1 n0 Z1 g_b1 A1 f9 f10 f11 f12 f13 f14 f15 f16 f17 f18 f6 f7 f8 (Ne.symm ne_a4_b1)) (by decide) (by decide) (g := (mkF m 18 #[rv a1, .val .null, rv a2, rv a3, .val .null, rv a4, .val .null] [.null, .null, (.ref a4), .null, (.ref a3), (.ref a2), .null, (.ref b1), (.ref b1), (.ref a1)])) rfl (by rw [hml]; rfl) (argsL := [.null, (.ref a2), (.ref a3), .null, (.ref a4), .null, .null]) (rest := [(.ref b1), (.ref a1)]) rfl (lenOf own_pd10 rfl) rfl (by show 2 * 0 + _ ≤ _; exact Nat.le_of_eq rfl) (hb hby own_dst0_18) e19 (by decide) (by decide)
  obtain ⟨rfl, Nq20, Kq20, q20_0, q20_1, q20_2⟩ := hQ20
  have N20 := Fr.app N0 Nq20
  have f21 := f2.keep Kq20
  have f22 := f3.keep Kq20 (ninS ne_a1_b1 nin0)
  have f23 := f4.keep Kq20 (ninS ne_a1_b1 nin0)
  have f24 := f5.keep Kq20 (ninS ne_a1_b1 nin0)
  have f25 := own_staKeepW f6 Kq20 (allS A1.nostat all0)
  have f26 := own_staKeepW f7 Kq20 (allS A1.nostat all0)
  have f27 := f8.keep Kq20 (ninS ne_a4_b1 nin0)
  have f28 := A1.keep Kq20
  have K20 : Keep h0 T20.heap [a1] := K1.trans Kq20 (allS (Or.inr sz_b1) all0)
  have Z20 := Nat.le_trans Z1 Kq20.1
  refine own_s T20 (mkF m 21 #[rv a1, .val .null, rv a2, rv a3, .val .null, rv a4, .val .null] [(.ref b1), (.ref a1)]) st20 ?_
  obtain ⟨T29, h29, X29, e29, W29, st29⟩ := putF X20 hx hZ hown (host := "") (Or.inl (own_h hw 35 rfl)) Via.refl rfl f22 f21 (Or.inl (own_h hw 36 rfl)) (own_h hw 2 rfl) (ty := (.object "com/example/tagwright/tagwright/XmlElement")) (by decide) rfl rfl (g := (mkF m 21 #[rv a1, .val .null, rv a2, rv a3, .val .null, rv a4, .val .null] [(.ref b1), (.ref a1)])) rfl rfl (hb hby own_dst0_21)
  have Fw29 := Fld.same W29 f22
  have f30 := Exa.wr W29 f21
  have f31 := Fld.other W29 f23 (Or.inr (slot_ne (Or.inl (own_h hw 69 rfl)) (Or.inl (own_h hw 36 rfl)) (by decide) (t := (.object "com/example/tagwright/tagwright/XmlElement")) (t' := (.object "com/example/tagwright/tagwright/XmlElement")) (by decide) (by decide)))
  have f32 := Fld.other W29 f24 (Or.inr (slot_ne (Or.inl (own_h hw 71 rfl)) (Or.inl (own_h hw 36 rfl)) (by decide) (t := .int) (t' := (.object "com/example/tagwright/tagwright/XmlElement")) (by decide) (by decide)))
  have f33 := Sta.wr W29 f25
  have f34 := Sta.wr W29 f26
  have f35 := f27.other W29 (Ne.symm pr8)
  have f36 := Exa.wr W29 q20_0
  have f37 := Fld.other W29 q20_1 (Or.inl (Ne.symm ne_a1_b1))
  have f38 := Fld.other W29 q20_2 (Or.inl (Ne.symm ne_a1_b1))
  have K29 : Keep h0 h29 [a1] := K20.wr W29 (Or.inl (List.mem_of_getElem? (i := 0) rfl))
  have Z29 := Nat.le_trans Z20 (Nat.le_of_eq W29.size.symm)
  have N29 := Fr.snoc X29 N20 g_a1
  refine own_s T29 (mkF m 24 #[rv a1, .val .null, rv a2, rv a3, .val .null, rv a4, .val .null] []) st29 ?_
  refine own_s T29 (mkF m 25 #[rv a1, .val .null, rv a2, rv a3, .val .null, rv a4, .val .null] [(.ref a1)]) (fun _ k => XS.aloadN X29.here hx rfl (hb hby own_dst0_24) rfl rfl k) ?_
  obtain ⟨T39, X39, e39, st39⟩ := getF X29 hx hZ hown (host := "") (Or.inl (own_h hw 68 rfl)) Via.refl e29 f31 (g := (mkF m 25 #[rv a1, .val .null, rv a2, rv a3, .val .null, rv a4, .val .null] [(.ref a1)])) rfl rfl (hb hby own_dst0_25)
  refine own_s T39 (mkF m 28 #[rv a1, .val .null, rv a2, rv a3, .val .null, rv a4, .val .null] [.null]) st39 ?_
  refine own_s T39 (mkF m 33 #[rv a1, .val .null, rv a2, rv a3, .val .null, rv a4, .val .null] [(.ref a1), (.ref a1)]) (fun _ k => XS.ifnonnullNo X39.here hx rfl (hb hby own_dst0_28) rfl (XS.aloadN X39.here hx rfl (hb hby own_dst0_31) rfl rfl (XS.aloadN X39.here hx rfl (hb hby own_dst0_32) rfl rfl k))) ?_
  obtain ⟨T40, X40, e40, st40⟩ := getF X39 hx hZ hown (host := "") (Or.inl (own_h hw 35 rfl)) Via.refl e39 Fw29 (g := (mkF m 33 #[rv a1, .val .null, rv a2, rv a3, .val .null, rv a4, .val .null] [(.ref a1), (.ref a1)])) rfl rfl (hb hby own_dst0_33)
  refine own_s T40 (mkF m 36 #[rv a1, .val .null, rv a2, rv a3, .val .null, rv a4, .val .null] [(.ref b1), (.ref a1)]) st40 ?_
  obtain ⟨T41, h41, X41, e41, W41, st41⟩ := putF X40 hx hZ hown (host := "") (Or.inl (own_h hw 68 rfl)) Via.refl e40 f31 f30 (Or.inl (own_h hw 69 rfl)) (own_h hw 2 rfl) (ty := (.object "com/example/tagwright/tagwright/XmlElement")) (by decide) rfl rfl (g := (mkF m 36 #[rv a1, .val .null, rv a2, rv a3, .val .null, rv a4, .val .null] [(.ref b1), (.ref a1)])) rfl rfl (hb hby own_dst0_36)
  have Fw41 := Fld.same W41 f31
  have f42 := Exa.wr W41 f30
  have f43 := Fld.other W41 Fw29 (Or.inr (slot_ne (Or.inl (own_h hw 36 rfl)) (Or.inl (own_h hw 69 rfl)) (by decide) (t := (.object "com/example/tagwright/tagwright/XmlElement")) (t' := (.object "com/example/tagwright/tagwright/XmlElement")) (by decide) (by decide)))
  have f44 := Fld.other W41 f32 (Or.inr (slot_ne (Or.inl (own_h hw 71 rfl)) (Or.inl (own_h hw 69 rfl)) (by decide) (t := .int) (t' := (.object "com/example/tagwright/tagwright/XmlElement")) (by decide) (by decide)))
  have f45 := Sta.wr W41 f33
  have f46 := Sta.wr W41 f34
  have f47 := f35.other W41 (Ne.symm pr8)
  have f48 := Exa.wr W41 f36
  have f49 := Fld.other W41 f37 (Or.inl (Ne.symm ne_a1_b1))
  have f50 := Fld.other W41 f38 (Or.inl (Ne.symm ne_a1_b1))
  have K41 : Keep h0 h41 [a1] := K29.wr W41 (Or.inl (List.mem_of_getElem? (i := 0) rfl))
  have Z41 := Nat.le_trans Z29 (Nat.le_of_eq W41.size.symm)
  have N41 := Fr.snoc X41 N29 g_a1
  refine own_s T41 (mkF m 39 #[rv a1, .val .null, rv a2, rv a3, .val .null, rv a4, .val .null] []) st41 ?_
  refine own_s T41 (mkF m 41 #[rv a1, .val .null, rv a2, rv a3, .val .null, rv a4, .val .null] [(.ref a1), (.ref a1)]) (fun _ k => XS.aloadN X41.here hx rfl (hb hby own_dst0_39) rfl rfl (XS.dup X41.here hx rfl (hb hby own_dst0_40) rfl rfl k)) ?_
  obtain ⟨T51, X51, e51, st51⟩ := getF X41 hx hZ hown (host := "") (Or.inl (own_h hw 70 rfl)) Via.refl e41 f44 (g := (mkF m 41 #[rv a1, .val .null, rv a2, rv a3, .val .null, rv a4, .val .null] [(.ref a1), (.ref a1)])) rfl rfl (hb hby own_dst0_41)
  refine own_s T51 (mkF m 44 #[rv a1, .val .null, rv a2, rv a3, .val .null, rv a4, .val .null] [(.int 0), (.ref a1)]) st51 ?_
  refine own_s T51 (mkF m 46 #[rv a1, .val .null, rv a2, rv a3, .val .null, rv a4, .val .null] [(.int 1), (.ref a1)]) (fun _ k => XS.iconst X51.here hx rfl (hb hby own_dst0_44) (XS.iadd X51.here hx rfl (hb hby own_dst0_45) rfl k)) ?_
  obtain ⟨T52, h52, X52, e52, W52, st52⟩ := putF X51 hx hZ hown (host := "") (Or.inl (own_h hw 70 rfl)) Via.refl e51 f44 f42 (Or.inl (own_h hw 71 rfl)) (own_h hw 2 rfl) (ty := .int) (by decide) rfl rfl (g := (mkF m 46 #[rv a1, .val .null, rv a2, rv a3, .val .null, rv a4, .val .null] [(.int 1), (.ref a1)])) rfl rfl (hb hby own_dst0_46)
  have Fw52 := Fld.same W52 f44
  have f53 := Exa.wr W52 f42
  have f54 := Fld.other W52 f43 (Or.inr (slot_ne (Or.inl (own_h hw 36 rfl)) (Or.inl (own_h hw 71 rfl)) (by decide) (t := (.object "com/example/tagwright/tagwright/XmlElement")) (t' := .int) (by decide) (by decide)))
  have f55 := Fld.other W52 Fw41 (Or.inr (slot_ne (Or.inl (own_h hw 69 rfl)) (Or.inl (own_h hw 71 rfl)) (by decide) (t := (.object "com/example/tagwright/tagwright/XmlElement")) (t' := .int) (by decide) (by decide)))
  have f56 := Sta.wr W52 f45
  have f57 := Sta.wr W52 f46
  have f58 := f47.other W52 (Ne.symm pr8)
  have f59 := Exa.wr W52 f48
  have f60 := Fld.other W52 f49 (Or.inl (Ne.symm ne_a1_b1))
  have f61 := Fld.other W52 f50 (Or.inl (Ne.symm ne_a1_b1))
  have K52 : Keep h0 h52 [a1] := K41.wr W52 (Or.inl (List.mem_of_getElem? (i := 0) rfl))
  have Z52 := Nat.le_trans Z41 (Nat.le_of_eq W52.size.symm)
  have N52 := Fr.snoc X52 N41 g_a1
  refine own_s T52 (mkF m 49 #[rv a1, .val .null, rv a2, rv a3, .val .null, rv a4, .val .null] []) st52 ?_
  exact own_finV X52 hx hret (hb hby own_dst0_49) (own_end (Qv := (own_Qst0 Z a1 a2 a3 a4 oN oA ka h0 n0)) X52 (fun _ => rfl) hlk (by decide) (by decide) e52 ⟨b1, rfl, N52, K52, g_b1, sz_b1, f53, f54, f55, Fw52, f59, f60, f61⟩)
theorem own_dst1_1_0 : decode prog_111_method_2_code 0 = .ok (.aload_n 0, 1) := by decide +kernel
theorem own_dst1_1_1 : decode prog_111_method_2_code 1 = .ok (.new 21, 3) := by decide +kernel
theorem own_dst1_1_4 : decode prog_111_method_2_code 4 = .ok (.dup, 1) := by decide +kernel
theorem own_dst1_1_5 : decode prog_111_method_2_code 5 = .ok (.aload_n 1, 1) := by decide +kernel
theorem own_dst1_1_6 : decode prog_111_method_2_code 6 = .ok (.aload_n 2, 1) := by decide +kernel
theorem own_dst1_1_7 : decode prog_111_method_2_code 7 = .ok (.aload_n 3, 1) := by decide +kernel
theorem own_dst1_1_8 : decode prog_111_method_2_code 8 = .ok (.aload 4, 2) := by decide +kernel
theorem own_dst1_1_10 : decode prog_111_method_2_code 10 = .ok (.aload 5, 2) := by decide +kernel
theorem own_dst1_1_12 : decode prog_111_method_2_code 12 = .ok (.aload 6, 2) := by decide +kernel
theorem own_dst1_1_14 : decode prog_111_method_2_code 14 = .ok (.aload_n 0, 1) := by decide +kernel
theorem own_dst1_1_15 : decode prog_111_method_2_code 15 = .ok (.getfield 23, 3) := by decide +kernel
theorem own_dst1_1_18 : decode prog_111_method_2_code 18 = .ok (.invokespecial 27, 3) := by decide +kernel
theorem own_dst1_1_21 : decode prog_111_method_2_code 21 = .ok (.putfield 23, 3) := by decide +kernel
theorem own_dst1_1_24 : decode prog_111_method_2_code 24 = .ok (.aload_n 0, 1) := by decide +kernel
theorem own_dst1_1_25 : decode prog_111_method_2_code 25 = .ok (.getfield 30, 3) := by decide +kernel
theorem own_dst1_1_28 : decode prog_111_method_2_code 28 = .ok (.ifnonnull 11, 3) := by decide +kernel
theorem own_dst1_1_39 : decode prog_111_method_2_code 39 = .ok (.aload_n 0, 1) := by decide +kernel
theorem own_dst1_1_40 : decode prog_111_method_2_code 40 = .ok (.dup, 1) := by decide +kernel
theorem own_dst1_1_41 : decode prog_111_method_2_code 41 = .ok (.getfield 33, 3) := by decide +kernel
theorem own_dst1_1_44 : decode prog_111_method_2_code 44 = .ok (.iconst 1, 1) := by decide +kernel
theorem own_dst1_1_45 : decode prog_111_method_2_code 45 = .ok (.iadd, 1) := by decide +kernel
theorem own_dst1_1_46 : decode prog_111_method_2_code 46 = .ok (.putfield 33, 3) := by decide +kernel
theorem own_dst1_1_49 : decode prog_111_method_2_code 49 = .ok (.return_, 1) := by decide +kernel
theorem own_efst1_1 (m : MethodId) (x0 : Addr) (x2 : Addr) (x3 : Addr) (x5 : Addr) : entryFrame m #[(.ref x0), .null, (.ref x2), (.ref x3), .null, (.ref x5), .null] 7 = mkF m 0 #[rv x0, .val .null, rv x2, rv x3, .val .null, rv x5, .val .null] [] := by first | (simp [entryFrame, mkF, argsToLocals, Value.category]; done) | rfl
def own_Qst1_1 (Z : State) (a1 : Addr) (a2 : Addr) (a3 : Addr) (a4 : Addr) (pr : Addr) (rt : Addr) (oN : Addr) (oA : Addr) (ka : ClassId) (w : Value) (h0 : Heap) (n0 : Nat) : Option Value → Heap → List Loc → Prop := fun v h L => ∃ (x : Addr) (li : Addr) (d : Addr) (kd : ClassId), v = none ∧ Fr n0 L ∧ Keep h0 h [a1, pr] ∧ n0 ≤ x ∧ h0.size ≤ x ∧ n0 ≤ li ∧ h0.size ≤ li ∧ n0 ≤ d ∧ h0.size ≤ d ∧ Exa Z h a1 "com/example/tagwright/tagwright/XmlTree" ∧ Fld Z h a1 "com/example/tagwright/tagwright/XmlTree" "current" "Lcom/example/tagwright/tagwright/XmlElement;" (.ref x) ∧ Fld Z h a1 "com/example/tagwright/tagwright/XmlTree" "root" "Lcom/example/tagwright/tagwright/XmlElement;" (.ref rt) ∧ Fld Z h a1 "com/example/tagwright/tagwright/XmlTree" "depth" "I" (.int 2) ∧ Exa Z h x "com/example/tagwright/tagwright/XmlElement" ∧ Fld Z h x "com/example/tagwright/tagwright/XmlElement" "children" "Ljava/util/List;" (.ref oN) ∧ Fld Z h x "com/example/tagwright/tagwright/XmlElement" "parent" "Lcom/example/tagwright/tagwright/XmlElement;" (.ref pr) ∧ Exa Z h pr "com/example/tagwright/tagwright/XmlElement" ∧ Fld Z h pr "com/example/tagwright/tagwright/XmlElement" "children" "Ljava/util/List;" (.ref li) ∧ Fld Z h pr "com/example/tagwright/tagwright/XmlElement" "parent" "Lcom/example/tagwright/tagwright/XmlElement;" w ∧ Exa Z h li "java/util/ArrayList" ∧ Fld Z h li "java/util/AbstractList" "modCount" "I" (.int 1) ∧ Fld Z h li "java/util/ArrayList" "elementData" "[Ljava/lang/Object;" (.ref d) ∧ Fld Z h li "java/util/ArrayList" "size" "I" (.int 1) ∧ Arv Z h d kd (.object "java/lang/Object") (4 : Int32) [(.ref x), .null, .null, .null] .null ∧ Ovr Z kd "java/lang/Object" ∧ li ≠ d ∧ x ≠ li ∧ x ≠ d
def own_Rst1_1 : Room := { frames := 6, cells := 3, slots := 19, locals := 86 }
set_option maxRecDepth 65536 in
set_option maxHeartbeats 40000000 in
theorem own_rmst1_1 (l : Launch) (Z : State) (a0 : Array Value) (hw : ∀ d ∈ tables_1, d.before a0 Z = true) (ws : List Jvm.Cond) (a1 : Addr) (a2 : Addr) (a3 : Addr) (a4 : Addr) (pr : Addr) (rt : Addr) (oN : Addr) (oA : Addr) (ka : ClassId) (w : Value) (h0 : Heap) (n0 : Nat) (Z0 : n0 ≤ h0.size) (g_a1 : n0 ≤ a1) (pr1 : Exa Z h0 a1 "com/example/tagwright/tagwright/XmlTree") (pr2 : Fld Z h0 a1 "com/example/tagwright/tagwright/XmlTree" "current" "Lcom/example/tagwright/tagwright/XmlElement;" (.ref pr)) (pr3 : Fld Z h0 a1 "com/example/tagwright/tagwright/XmlTree" "root" "Lcom/example/tagwright/tagwright/XmlElement;" (.ref rt)) (pr4 : Fld Z h0 a1 "com/example/tagwright/tagwright/XmlTree" "depth" "I" (.int 1)) (pr5 : Sta Z h0 "com/example/tagwright/tagwright/XmlElement" "NO_CHILDREN" "Ljava/util/List;" (.ref oN)) (pr6 : Sta Z h0 "com/example/tagwright/tagwright/XmlElement" "NO_ATTRIBUTES" "[Ljava/lang/String;" (.ref oA)) (pr7 : Arv Z h0 a4 ka (.object "java/lang/String") (0 : Int32) [] .null) (pr8 : a1 ≠ a4) (g_pr : n0 ≤ pr) (pr10 : Exa Z h0 pr "com/example/tagwright/tagwright/XmlElement") (pr11 : Fld Z h0 pr "com/example/tagwright/tagwright/XmlElement" "children" "Ljava/util/List;" (.ref oN)) (pr12 : Fld Z h0 pr "com/example/tagwright/tagwright/XmlElement" "parent" "Lcom/example/tagwright/tagwright/XmlElement;" w) (pr13 : a1 ≠ pr) (pr14 : pr ≠ a4) (rw : w.isRef = true) :
    own_Met l Z own_y17 prog_111_method_2_code 7 none ws own_Rst1_1 h0 #[(.ref a1), .null, (.ref a2), (.ref a3), .null, (.ref a4), .null] (own_Qst1_1 Z a1 a2 a3 a4 pr rt oN oA ka w h0 n0) own_Rst1_1.cells own_Rst1_1.slots := by
  refine own_start (plainFor_of_name own_pn7) ?_
  intro p e s m below meth c s₁ X0 hx hZ hby hml hret hlk hown hnm e0
  have hown : s.vm.findClass "com/example/tagwright/tagwright/XmlTree" = some m.cls := hown
  have hml : c.maxLocals = 7 := hml
  have N0 := Fr.nil n0
  refine own_cast (own_efst1_1 m a1 a2 a3 a4) ?_
  refine own_s s₁ (mkF m 1 #[rv a1, .val .null, rv a2, rv a3, .val .null, rv a4, .val .null] [(.ref a1)]) (fun _ k => XS.aloadN X0.here hx rfl (hb hby own_dst1_1_0) rfl rfl k) ?_
  obtain ⟨T1, h1, X1, e1, E1, A1, D1, -, st1⟩ := newO X0 hx hZ hown (own_h hw 32 rfl) (own_h hw 33 rfl) (own_h hw 34 rfl) e0 (g := (mkF m 1 #[rv a1, .val .null, rv a2, rv a3, .val .null, rv a4, .val .null] [(.ref a1)])) rfl (hb hby own_dst1_1_1) (by decide) (by decide)
  obtain ⟨b1, g1⟩ : ∃ z, z = h0.size := ⟨_, rfl⟩
  have ne_a1_b1 : a1 ≠ b1 := Nat.ne_of_lt (Nat.lt_of_lt_of_le pr1.lt (Nat.le_of_eq g1.symm))
  have ne_a4_b1 : a4 ≠ b1 := Nat.ne_of_lt (Nat.lt_of_lt_of_le pr7.lt (Nat.le_of_eq g1.symm))
  have ne_pr_b1 : pr ≠ b1 := Nat.ne_of_lt (Nat.lt_of_lt_of_le pr10.lt (Nat.le_of_eq g1.symm))
  have g_b1 : n0 ≤ b1 := Nat.le_trans Z0 (Nat.le_of_eq g1.symm)
  have sz_b1 : h0.size ≤ b1 := Nat.le_trans (Keep.refl h0 [a1, pr]).1 (Nat.le_of_eq g1.symm)
  rw [← g1] at A1 D1 st1
  have f2 := Exa.ext E1 pr1
  have f3 := Fld.ext E1 pr2
  have f4 := Fld.ext E1 pr3
  have f5 := Fld.ext E1 pr4
  have f6 := Sta.ext E1 pr5
  have f7 := Sta.ext E1 pr6
  have f8 := pr7.ext E1
  have f9 := Exa.ext E1 pr10
  have f10 := Fld.ext E1 pr11
  have f11 := Fld.ext E1 pr12
  have K1 : Keep h0 h1 [a1, pr] := (Keep.refl h0 [a1, pr]).ext E1
  have Z1 := Nat.le_trans Z0 E1.1
  have f12 : Fld Z h1 b1 "com/example/tagwright/tagwright/XmlElement" "children" "Ljava/util/List;" .null := D1 (Or.inl (own_h hw 44 rfl)) (ty := (.object "java/util/List")) (by decide)
  have f13 : Fld Z h1 b1 "com/example/tagwright/tagwright/XmlElement" "namespace" "Ljava/lang/String;" .null := D1 (Or.inr (own_h hw 46 rfl)) (ty := (.object "java/lang/String")) (by decide)
  have f14 : Fld Z h1 b1 "com/example/tagwright/tagwright/XmlElement" "localName" "Ljava/lang/String;" .null := D1 (Or.inr (own_h hw 48 rfl)) (ty := (.object "java/lang/String")) (by decide)
  have f15 : Fld Z h1 b1 "com/example/tagwright/tagwright/XmlElement" "tagName" "Ljava/lang/String;" .null := D1 (Or.inr (own_h hw 50 rfl)) (ty := (.object "java/lang/String")) (by decide)
  have f16 : Fld Z h1 b1 "com/example/tagwright/tagwright/XmlElement" "declarations" "Ljava/util/List;" .null := D1 (Or.inr (own_h hw 52 rfl)) (ty := (.object "java/util/List")) (by decide)
  have f17 : Fld Z h1 b1 "com/example/tagwright/tagwright/XmlElement" "attributes" "[Ljava/lang/String;" .null := D1 (Or.inr (own_h hw 56 rfl)) (ty := (.array (.object "java/lang/String"))) (by decide)
  have f18 : Fld Z h1 b1 "com/example/tagwright/tagwright/XmlElement" "stride" "B" (.int 0) := D1 (Or.inr (own_h hw 61 rfl)) (ty := .byte) (by decide)
  have f19 : Fld Z h1 b1 "com/example/tagwright/tagwright/XmlElement" "location" "Lcom/example/tagwright/tagwright/Location;" .null := D1 (Or.inr (own_h hw 63 rfl)) (ty := (.object "com/example/tagwright/tagwright/Location")) (by decide)
  have f20 : Fld Z h1 b1 "com/example/tagwright/tagwright/XmlElement" "parent" "Lcom/example/tagwright/tagwright/XmlElement;" .null := D1 (Or.inr (own_h hw 65 rfl)) (ty := (.object "com/example/tagwright/tagwright/XmlElement")) (by decide)
  have f21 : Fld Z h1 b1 "com/example/tagwright/tagwright/XmlElement" "index" "I" (.int 0) := D1 (Or.inr (own_h hw 67 rfl)) (ty := .int) (by decide)
  refine own_s T1 (mkF m 4 #[rv a1, .val .null, rv a2, rv a3, .val .null, rv a4, .val .null] [(.ref b1), (.ref a1)]) st1 ?_
  refine own_s T1 (mkF m 10 #[rv a1, .val .null, rv a2, rv a3, .val .null, rv a4, .val .null] [.null, (.ref a3), (.ref a2), .null, (.ref b1), (.ref b1), (.ref a1)]) (fun _ k => XS.dup X1.here hx rfl (hb hby own_dst1_1_4) rfl rfl (XS.aloadN X1.here hx rfl (hb hby own_dst1_1_5) rfl rfl (XS.aloadN X1.here hx rfl (hb hby own_dst1_1_6) rfl rfl (XS.aloadN X1.here hx rfl (hb hby own_dst1_1_7) rfl rfl (XS.aload X1.here hx rfl (hb hby own_dst1_1_8) rfl rfl k))))) ?_
  refine own_s T1 (mkF m 15 #[rv a1, .val .null, rv a2, rv a3, .val .null, rv a4, .val .null] [(.ref a1), .null, (.ref a4), .null, (.ref a3), (.ref a2), .null, (.ref b1), (.ref b1), (.ref a1)]) (fun _ k => XS.aload X1.here hx rfl (hb hby own_dst1_1_10) rfl rfl (XS.aload X1.here hx rfl (hb hby own_dst1_1_12) rfl rfl (XS.aloadN X1.here hx rfl (hb hby own_dst1_1_14) rfl rfl k))) ?_
  obtain ⟨T22, X22, e22, st22⟩ := getF X1 hx hZ hown (host := "") (Or.inl (own_h hw 35 rfl)) Via.refl e1 f3 (g := (mkF m 15 #[rv a1, .val .null, rv a2, rv a3, .val .null, rv a4, .val .null] [(.ref a1), .null, (.ref a4), .null, (.ref a3), (.ref a2), .null, (.ref b1), (.ref b1), (.ref a1)])) rfl rfl (hb hby own_dst1_1_15)
  refine own_s T22 (mkF m 18 #[rv a1, .val .null, rv a2, rv a3, .val .null, rv a4, .val .null] [(.ref pr), .null, (.ref a4), .null, (.ref a3), (.ref a2), .null, (.ref b1), (.ref b1), (.ref a1)]) st22 ?_
  obtain ⟨v23, T23, L23, X23, hQ23, st23⟩ := own_callI X22 hx hZ (y := own_y15) (W := 2) (a := b1) rfl hown (own_h hw 37 rfl) (own_h hw 38 rfl) (own_h hw 34 rfl) (own_h hw 39 rfl) (by decide) (own_rmxi1 l Z a0 hw [] b1 a2 a3 a4 pr oN oA ka w h1 n0 Z1 g_b1 A1 f12 f13 f14 f15 f16 f17 f18 f19 f20 f21 f6 f7 f8 (Ne.symm ne_a4_b1) g_pr f9 f10 f11 (Ne.symm ne_pr_b1) pr14 rw) (by decide) (by decide) (g := (mkF m 18 #[rv a1, .val .null, rv a2, rv a3, .val .null, rv a4, .val .null] [(.ref pr), .null, (.ref a4), .null, (.ref a3), (.ref a2), .null, (.ref b1), (.ref b1), (.ref a1)])) rfl (by rw [hml]; rfl) (argsL := [.null, (.ref a2), (.ref a3), .null, (.ref a4), .null, (.ref pr)]) (rest := [(.ref b1), (.ref a1)]) rfl (lenOf own_pd10 rfl) rfl (by show 2 * 0 + _ ≤ _; exact Nat.le_of_eq rfl) (hb hby own_dst1_1_18) e22 (by decide) (by decide)
  obtain ⟨zli23, zd23, zkd23, rfl, Nq23, Kq23, g_zli23, sq_zli23, g_zd23, sq_zd23, q23_0, q23_1, q23_2, q23_3, q23_4, q23_5, q23_6, q23_7, q23_8, q23_9, q23_10, q23_11, q23_12⟩ := hQ23
  have N23 := Fr.app N0 Nq23
  have ne_a1_zli23 : a1 ≠ zli23 := Nat.ne_of_lt (Nat.lt_of_lt_of_le f2.lt sq_zli23)
  have ne_a1_zd23 : a1 ≠ zd23 := Nat.ne_of_lt (Nat.lt_of_lt_of_le f2.lt sq_zd23)
  have ne_a4_zli23 : a4 ≠ zli23 := Nat.ne_of_lt (Nat.lt_of_lt_of_le f8.lt sq_zli23)
  have ne_a4_zd23 : a4 ≠ zd23 := Nat.ne_of_lt (Nat.lt_of_lt_of_le f8.lt sq_zd23)
  have ne_pr_zli23 : pr ≠ zli23 := Nat.ne_of_lt (Nat.lt_of_lt_of_le f9.lt sq_zli23)
  have ne_pr_zd23 : pr ≠ zd23 := Nat.ne_of_lt (Nat.lt_of_lt_of_le f9.lt sq_zd23)
  have ne_b1_zli23 : b1 ≠ zli23 := Nat.ne_of_lt (Nat.lt_of_lt_of_le A1.lt sq_zli23)
  have ne_b1_zd23 : b1 ≠ zd23 := Nat.ne_of_lt (Nat.lt_of_lt_of_le A1.lt sq_zd23)
  have sz_zli23 : h0.size ≤ zli23 := Nat.le_trans K1.1 sq_zli23
  have sz_zd23 : h0.size ≤ zd23 := Nat.le_trans K1.1 sq_zd23
  have f24 := f2.keep Kq23
  have f25 := f3.keep Kq23 (ninS ne_a1_b1 (ninS pr13 nin0))
  have f26 := f4.keep Kq23 (ninS ne_a1_b1 (ninS pr13 nin0))
  have f27 := f5.keep Kq23 (ninS ne_a1_b1 (ninS pr13 nin0))
  have f28 := own_staKeepW f6 Kq23 (allS A1.nostat (allS f9.nostat all0))
  have f29 := own_staKeepW f7 Kq23 (allS A1.nostat (allS f9.nostat all0))
  have f30 := f8.keep Kq23 (ninS ne_a4_b1 (ninS (Ne.symm pr14) nin0))
  have f31 := f9.keep Kq23
  have f32 := A1.keep Kq23
  have K23 : Keep h0 T23.heap [a1, pr] := K1.trans Kq23 (allS (Or.inr sz_b1) (allS (Or.inl (List.mem_of_getElem? (i := 1) rfl)) all0))
  have Z23 := Nat.le_trans Z1 Kq23.1
  refine own_s T23 (mkF m 21 #[rv a1, .val .null, rv a2, rv a3, .val .null, rv a4, .val .null] [(.ref b1), (.ref a1)]) st23 ?_
  obtain ⟨T33, h33, X33, e33, W33, st33⟩ := putF X23 hx hZ hown (host := "") (Or.inl (own_h hw 35 rfl)) Via.refl rfl f25 f24 (Or.inl (own_h hw 36 rfl)) (own_h hw 2 rfl) (ty := (.object "com/example/tagwright/tagwright/XmlElement")) (by decide) rfl rfl (g := (mkF m 21 #[rv a1, .val .null, rv a2, rv a3, .val .null, rv a4, .val .null] [(.ref b1), (.ref a1)])) rfl rfl (hb hby own_dst1_1_21)
  have Fw33 := Fld.same W33 f25
  have f34 := Exa.wr W33 f24
  have f35 := Fld.other W33 f26 (Or.inr (slot_ne (Or.inl (own_h hw 69 rfl)) (Or.inl (own_h hw 36 rfl)) (by decide) (t := (.object "com/example/tagwright/tagwright/XmlElement")) (t' := (.object "com/example/tagwright/tagwright/XmlElement")) (by decide) (by decide)))
  have f36 := Fld.other W33 f27 (Or.inr (slot_ne (Or.inl (own_h hw 71 rfl)) (Or.inl (own_h hw 36 rfl)) (by decide) (t := .int) (t' := (.object "com/example/tagwright/tagwright/XmlElement")) (by decide) (by decide)))
  have f37 := Sta.wr W33 f28
  have f38 := Sta.wr W33 f29
  have f39 := f30.other W33 (Ne.symm pr8)
  have f40 := Exa.wr W33 q23_3
  have f41 := Exa.wr W33 q23_0
  have f42 := Fld.other W33 q23_1 (Or.inl (Ne.symm ne_a1_b1))
  have f43 := Fld.other W33 q23_2 (Or.inl (Ne.symm ne_a1_b1))
  have f44 := Fld.other W33 q23_4 (Or.inl (Ne.symm pr13))
  have f45 := Fld.other W33 q23_5 (Or.inl (Ne.symm pr13))
  have f46 := Exa.wr W33 q23_6
  have f47 := Fld.other W33 q23_7 (Or.inl (Ne.symm ne_a1_zli23))
  have f48 := Fld.other W33 q23_8 (Or.inl (Ne.symm ne_a1_zli23))
  have f49 := Fld.other W33 q23_9 (Or.inl (Ne.symm ne_a1_zli23))
  have f50 := q23_10.other W33 (Ne.symm ne_a1_zd23)
  have K33 : Keep h0 h33 [a1, pr] := K23.wr W33 (Or.inl (List.mem_of_getElem? (i := 0) rfl))
  have Z33 := Nat.le_trans Z23 (Nat.le_of_eq W33.size.symm)
  have N33 := Fr.snoc X33 N23 g_a1
  refine own_s T33 (mkF m 24 #[rv a1, .val .null, rv a2, rv a3, .val .null, rv a4, .val .null] []) st33 ?_
  refine own_s T33 (mkF m 25 #[rv a1, .val .null, rv a2, rv a3, .val .null, rv a4, .val .null] [(.ref a1)]) (fun _ k => XS.aloadN X33.here hx rfl (hb hby own_dst1_1_24) rfl rfl k) ?_
  obtain ⟨T51, X51, e51, st51⟩ := getF X33 hx hZ hown (host := "") (Or.inl (own_h hw 68 rfl)) Via.refl e33 f35 (g := (mkF m 25 #[rv a1, .val .null, rv a2, rv a3, .val .null, rv a4, .val .null] [(.ref a1)])) rfl rfl (hb hby own_dst1_1_25)
  refine own_s T51 (mkF m 28 #[rv a1, .val .null, rv a2, rv a3, .val .null, rv a4, .val .null] [(.ref rt)]) st51 ?_
  refine own_s T51 (mkF m 41 #[rv a1, .val .null, rv a2, rv a3, .val .null, rv a4, .val .null] [(.ref a1), (.ref a1)]) (fun _ k => XS.ifnonnullYes X51.here hx rfl (pc0 := 28) (pc' := 39) rfl (hb hby own_dst1_1_28) rfl (by decide) (by decide) (XS.aloadN X51.here hx rfl (hb hby own_dst1_1_39) rfl rfl (XS.dup X51.here hx rfl (hb hby own_dst1_1_40) rfl rfl k))) ?_
  obtain ⟨T52, X52, e52, st52⟩ := getF X51 hx hZ hown (host := "") (Or.inl (own_h hw 70 rfl)) Via.refl e51 f36 (g := (mkF m 41 #[rv a1, .val .null, rv a2, rv a3, .val .null, rv a4, .val .null] [(.ref a1), (.ref a1)])) rfl rfl (hb hby own_dst1_1_41)
  refine own_s T52 (mkF m 44 #[rv a1, .val .null, rv a2, rv a3, .val .null, rv a4, .val .null] [(.int 1), (.ref a1)]) st52 ?_
  refine own_s T52 (mkF m 46 #[rv a1, .val .null, rv a2, rv a3, .val .null, rv a4, .val .null] [(.int 2), (.ref a1)]) (fun _ k => XS.iconst X52.here hx rfl (hb hby own_dst1_1_44) (XS.iadd X52.here hx rfl (hb hby own_dst1_1_45) rfl k)) ?_
  obtain ⟨T53, h53, X53, e53, W53, st53⟩ := putF X52 hx hZ hown (host := "") (Or.inl (own_h hw 70 rfl)) Via.refl e52 f36 f34 (Or.inl (own_h hw 71 rfl)) (own_h hw 2 rfl) (ty := .int) (by decide) rfl rfl (g := (mkF m 46 #[rv a1, .val .null, rv a2, rv a3, .val .null, rv a4, .val .null] [(.int 2), (.ref a1)])) rfl rfl (hb hby own_dst1_1_46)
  have Fw53 := Fld.same W53 f36
  have f54 := Exa.wr W53 f34
  have f55 := Fld.other W53 Fw33 (Or.inr (slot_ne (Or.inl (own_h hw 36 rfl)) (Or.inl (own_h hw 71 rfl)) (by decide) (t := (.object "com/example/tagwright/tagwright/XmlElement")) (t' := .int) (by decide) (by decide)))
  have f56 := Fld.other W53 f35 (Or.inr (slot_ne (Or.inl (own_h hw 69 rfl)) (Or.inl (own_h hw 71 rfl)) (by decide) (t := (.object "com/example/tagwright/tagwright/XmlElement")) (t' := .int) (by decide) (by decide)))
  have f57 := Sta.wr W53 f37
  have f58 := Sta.wr W53 f38
  have f59 := f39.other W53 (Ne.symm pr8)
  have f60 := Exa.wr W53 f40
  have f61 := Exa.wr W53 f41
  have f62 := Fld.other W53 f42 (Or.inl (Ne.symm ne_a1_b1))
  have f63 := Fld.other W53 f43 (Or.inl (Ne.symm ne_a1_b1))
  have f64 := Fld.other W53 f44 (Or.inl (Ne.symm pr13))
  have f65 := Fld.other W53 f45 (Or.inl (Ne.symm pr13))
  have f66 := Exa.wr W53 f46
  have f67 := Fld.other W53 f47 (Or.inl (Ne.symm ne_a1_zli23))
  have f68 := Fld.other W53 f48 (Or.inl (Ne.symm ne_a1_zli23))
  have f69 := Fld.other W53 f49 (Or.inl (Ne.symm ne_a1_zli23))
  have f70 := f50.other W53 (Ne.symm ne_a1_zd23)
  have K53 : Keep h0 h53 [a1, pr] := K33.wr W53 (Or.inl (List.mem_of_getElem? (i := 0) rfl))
  have Z53 := Nat.le_trans Z33 (Nat.le_of_eq W53.size.symm)
  have N53 := Fr.snoc X53 N33 g_a1
  refine own_s T53 (mkF m 49 #[rv a1, .val .null, rv a2, rv a3, .val .null, rv a4, .val .null] []) st53 ?_
  exact own_finV X53 hx hret (hb hby own_dst1_1_49) (own_end (Qv := (own_Qst1_1 Z a1 a2 a3 a4 pr rt oN oA ka w h0 n0)) X53 (fun _ => rfl) hlk (by decide) (by decide) e53 ⟨b1, zli23, zd23, zkd23, rfl, N53, K53, g_b1, sz_b1, g_zli23, sz_zli23, g_zd23, sz_zd23, f54, f55, f56, Fw53, f61, f62, f63, f60, f64, f65, f66, f67, f68, f69, f70, q23_11, q23_12, ne_b1_zli23, ne_b1_zd23⟩)
theorem own_dst2_1_0 : decode prog_111_method_2_code 0 = .ok (.aload_n 0, 1) := by decide +kernel
theorem own_dst2_1_1 : decode prog_111_method_2_code 1 = .ok (.new 21, 3) := by decide +kernel
theorem own_dst2_1_4 : decode prog_111_method_2_code 4 = .ok (.dup, 1) := by decide +kernel
theorem own_dst2_1_5 : decode prog_111_method_2_code 5 = .ok (.aload_n 1, 1) := by decide +kernel
theorem own_dst2_1_6 : decode prog_111_method_2_code 6 = .ok (.aload_n 2, 1) := by decide +kernel
theorem own_dst2_1_7 : decode prog_111_method_2_code 7 = .ok (.aload_n 3, 1) := by decide +kernel
theorem own_dst2_1_8 : decode prog_111_method_2_code 8 = .ok (.aload 4, 2) := by decide +kernel
theorem own_dst2_1_10 : decode prog_111_method_2_code 10 = .ok (.aload 5, 2) := by decide +kernel
theorem own_dst2_1_12 : decode prog_111_method_2_code 12 = .ok (.aload 6, 2) := by decide +kernel
theorem own_dst2_1_14 : decode prog_111_method_2_code 14 = .ok (.aload_n 0, 1) := by decide +kernel
theorem own_dst2_1_15 : decode prog_111_method_2_code 15 = .ok (.getfield 23, 3) := by decide +kernel
theorem own_dst2_1_18 : decode prog_111_method_2_code 18 = .ok (.invokespecial 27, 3) := by decide +kernel
theorem own_dst2_1_21 : decode prog_111_method_2_code 21 = .ok (.putfield 23, 3) := by decide +kernel
theorem own_dst2_1_24 : decode prog_111_method_2_code 24 = .ok (.aload_n 0, 1) := by decide +kernel
theorem own_dst2_1_25 : decode prog_111_method_2_code 25 = .ok (.getfield 30, 3) := by decide +kernel
theorem own_dst2_1_28 : decode prog_111_method_2_code 28 = .ok (.ifnonnull 11, 3) := by decide +kernel
theorem own_dst2_1_39 : decode prog_111_method_2_code 39 = .ok (.aload_n 0, 1) := by decide +kernel
theorem own_dst2_1_40 : decode prog_111_method_2_code 40 = .ok (.dup, 1) := by decide +kernel
theorem own_dst2_1_41 : decode prog_111_method_2_code 41 = .ok (.getfield 33, 3) := by decide +kernel
theorem own_dst2_1_44 : decode prog_111_method_2_code 44 = .ok (.iconst 1, 1) := by decide +kernel
theorem own_dst2_1_45 : decode prog_111_method_2_code 45 = .ok (.iadd, 1) := by decide +kernel
theorem own_dst2_1_46 : decode prog_111_method_2_code 46 = .ok (.putfield 33, 3) := by decide +kernel
theorem own_dst2_1_49 : decode prog_111_method_2_code 49 = .ok (.return_, 1) := by decide +kernel
theorem own_efst2_1 (m : MethodId) (x0 : Addr) (x2 : Addr) (x3 : Addr) (x5 : Addr) : entryFrame m #[(.ref x0), .null, (.ref x2), (.ref x3), .null, (.ref x5), .null] 7 = mkF m 0 #[rv x0, .val .null, rv x2, rv x3, .val .null, rv x5, .val .null] [] := by first | (simp [entryFrame, mkF, argsToLocals, Value.category]; done) | rfl
def own_Qst2_1 (Z : State) (a1 : Addr) (a2 : Addr) (a3 : Addr) (a4 : Addr) (pr : Addr) (rt : Addr) (oN : Addr) (oA : Addr) (ka : ClassId) (li : Addr) (d : Addr) (kd : ClassId) (x0 : Addr) (h0 : Heap) (n0 : Nat) : Option Value → Heap → List Loc → Prop := fun v h L => ∃ (x : Addr), v = none ∧ Fr n0 L ∧ Keep h0 h [a1, li, d] ∧ n0 ≤ x ∧ h0.size ≤ x ∧ Exa Z h a1 "com/example/tagwright/tagwright/XmlTree" ∧ Fld Z h a1 "com/example/tagwright/tagwright/XmlTree" "current" "Lcom/example/tagwright/tagwright/XmlElement;" (.ref x) ∧ Fld Z h a1 "com/example/tagwright/tagwright/XmlTree" "root" "Lcom/example/tagwright/tagwright/XmlElement;" (.ref rt) ∧ Fld Z h a1 "com/example/tagwright/tagwright/XmlTree" "depth" "I" (.int 2) ∧ Exa Z h x "com/example/tagwright/tagwright/XmlElement" ∧ Fld Z h x "com/example/tagwright/tagwright/XmlElement" "children" "Ljava/util/List;" (.ref oN) ∧ Fld Z h x "com/example/tagwright/tagwright/XmlElement" "parent" "Lcom/example/tagwright/tagwright/XmlElement;" (.ref pr) ∧ Exa Z h li "java/util/ArrayList" ∧ Fld Z h li "java/util/AbstractList" "modCount" "I" (.int 2) ∧ Fld Z h li "java/util/ArrayList" "elementData" "[Ljava/lang/Object;" (.ref d) ∧ Fld Z h li "java/util/ArrayList" "size" "I" (.int 2) ∧ Arv Z h d kd (.object "java/lang/Object") (4 : Int32) [(.ref x0), (.ref x), .null, .null] .null
def own_Rst2_1 : Room := { frames := 4, cells := 1, slots := 12, locals := 63 }
set_option maxRecDepth 65536 in
set_option maxHeartbeats 40000000 in
theorem own_rmst2_1 (l : Launch) (Z : State) (a0 : Array Value) (hw : ∀ d ∈ tables_1, d.before a0 Z = true) (ws : List Jvm.Cond) (a1 : Addr) (a2 : Addr) (a3 : Addr) (a4 : Addr) (pr : Addr) (rt : Addr) (oN : Addr) (oA : Addr) (ka : ClassId) (li : Addr) (d : Addr) (kd : ClassId) (x0 : Addr) (h0 : Heap) (n0 : Nat) (Z0 : n0 ≤ h0.size) (g_a1 : n0 ≤ a1) (pr1 : Exa Z h0 a1 "com/example/tagwright/tagwright/XmlTree") (pr2 : Fld Z h0 a1 "com/example/tagwright/tagwright/XmlTree" "current" "Lcom/example/tagwright/tagwright/XmlElement;" (.ref pr)) (pr3 : Fld Z h0 a1 "com/example/tagwright/tagwright/XmlTree" "root" "Lcom/example/tagwright/tagwright/XmlElement;" (.ref rt)) (pr4 : Fld Z h0 a1 "com/example/tagwright/tagwright/XmlTree" "depth" "I" (.int 1)) (pr5 : Sta Z h0 "com/example/tagwright/tagwright/XmlElement" "NO_CHILDREN" "Ljava/util/List;" (.ref oN)) (pr6 : Sta Z h0 "com/example/tagwright/tagwright/XmlElement" "NO_ATTRIBUTES" "[Ljava/lang/String;" (.ref oA)) (pr7 : Arv Z h0 a4 ka (.object "java/lang/String") (0 : Int32) [] .null) (pr8 : a1 ≠ a4) (g_li : n0 ≤ li) (g_d : n0 ≤ d) (pr11 : Exa Z h0 pr "com/example/tagwright/tagwright/XmlElement") (pr12 : Fld Z h0 pr "com/example/tagwright/tagwright/XmlElement" "children" "Ljava/util/List;" (.ref li)) (pr13 : Exa Z h0 li "java/util/ArrayList") (pr14 : Fld Z h0 li "java/util/AbstractList" "modCount" "I" (.int 1)) (pr15 : Fld Z h0 li "java/util/ArrayList" "elementData" "[Ljava/lang/Object;" (.ref d)) (pr16 : Fld Z h0 li "java/util/ArrayList" "size" "I" (.int 1)) (pr17 : Arv Z h0 d kd (.object "java/lang/Object") (4 : Int32) [(.ref x0), .null, .null, .null] .null) (pr18 : Ovr Z kd "java/lang/Object") (pr19 : li ≠ d) (pr20 : li ≠ oN) (pr21 : pr ≠ li) (pr22 : pr ≠ d) (pr23 : a1 ≠ pr) (pr24 : a1 ≠ li) (pr25 : a1 ≠ d) (pr26 : pr ≠ a4) (pr27 : li ≠ a4) (pr28 : d ≠ a4) :
    own_Met l Z own_y17 prog_111_method_2_code 7 none ws own_Rst2_1 h0 #[(.ref a1), .null, (.ref a2), (.ref a3), .null, (.ref a4), .null] (own_Qst2_1 Z a1 a2 a3 a4 pr rt oN oA ka li d kd x0 h0 n0) own_Rst2_1.cells own_Rst2_1.slots := by
  refine own_start (plainFor_of_name own_pn7) ?_
  intro p e s m below meth c s₁ X0 hx hZ hby hml hret hlk hown hnm e0
  have hown : s.vm.findClass "com/example/tagwright/tagwright/XmlTree" = some m.cls := hown
  have hml : c.maxLocals = 7 := hml
  have N0 := Fr.nil n0
  refine own_cast (own_efst2_1 m a1 a2 a3 a4) ?_
  refine own_s s₁ (mkF m 1 #[rv a1, .val .null, rv a2, rv a3, .val .null, rv a4, .val .null] [(.ref a1)]) (fun _ k => XS.aloadN X0.here hx rfl (hb hby own_dst2_1_0) rfl rfl k) ?_
  obtain ⟨T1, h1, X1, e1, E1, A1, D1, -, st1⟩ := newO X0 hx hZ hown (own_h hw 32 rfl) (own_h hw 33 rfl) (own_h hw 34 rfl) e0 (g := (mkF m 1 #[rv a1, .val .null, rv a2, rv a3, .val .null, rv a4, .val .null] [(.ref a1)])) rfl (hb hby own_dst2_1_1) (by decide) (by decide)
  obtain ⟨b1, g1⟩ : ∃ z, z = h0.size := ⟨_, rfl⟩
  have ne_a1_b1 : a1 ≠ b1 := Nat.ne_of_lt (Nat.lt_of_lt_of_le pr1.lt (Nat.le_of_eq g1.symm))
  have ne_a4_b1 : a4 ≠ b1 := Nat.ne_of_lt (Nat.lt_of_lt_of_le pr7.lt (Nat.le_of_eq g1.symm))
  have ne_pr_b1 : pr ≠ b1 := Nat.ne_of_lt (Nat.lt_of_lt_of_le pr11.lt (Nat.le_of_eq g1.symm))
  have ne_li_b1 : li ≠ b1 := Nat.ne_of_lt (Nat.lt_of_lt_of_le pr13.lt (Nat.le_of_eq g1.symm))
  have ne_d_b1 : d ≠ b1 := Nat.ne_of_lt (Nat.lt_of_lt_of_le pr17.lt (Nat.le_of_eq g1.symm))
  have g_b1 : n0 ≤ b1 := Nat.le_trans Z0 (Nat.le_of_eq g1.symm)
  have sz_b1 : h0.size ≤ b1 := Nat.le_trans (Keep.refl h0 [a1, li, d]).1 (Nat.le_of_eq g1.symm)
  rw [← g1] at A1 D1 st1
  have f2 := Exa.ext E1 pr1
  have f3 := Fld.ext E1 pr2
  have f4 := Fld.ext E1 pr3
  have f5 := Fld.ext E1 pr4
  have f6 := Sta.ext E1 pr5
  have f7 := Sta.ext E1 pr6
  have f8 := pr7.ext E1
  have f9 := Exa.ext E1 pr11
  have f10 := Fld.ext E1 pr12
  have f11 := Exa.ext E1 pr13
  have f12 := Fld.ext E1 pr14
  have f13 := Fld.ext E1 pr15
  have f14 := Fld.ext E1 pr16
  have f15 := pr17.ext E1
  have K1 : Keep h0 h1 [a1, li, d] := (Keep.refl h0 [a1, li, d]).ext E1
  have Z1 := Nat.le_trans Z0 E1.1
  have f16 : Fld Z h1 b1 "com/example/tagwright/tagwright/XmlElement" "children" "Ljava/util/List;" .null := D1 (Or.inl (own_h hw 44 rfl)) (ty := (.object "java/util/List")) (by decide)
  have f17 : Fld Z h1 b1 "com/example/tagwright/tagwright/XmlElement" "namespace" "Ljava/lang/String;" .null := D1 (Or.inr (own_h hw 46 rfl)) (ty := (.object "java/lang/String")) (by decide)
  have f18 : Fld Z h1 b1 "com/example/tagwright/tagwright/XmlElement" "localName" "Ljava/lang/String;" .null := D1 (Or.inr (own_h hw 48 rfl)) (ty := (.object "java/lang/String")) (by decide)
  have f19 : Fld Z h1 b1 "com/example/tagwright/tagwright/XmlElement" "tagName" "Ljava/lang/String;" .null := D1 (Or.inr (own_h hw 50 rfl)) (ty := (.object "java/lang/String")) (by decide)
  have f20 : Fld Z h1 b1 "com/example/tagwright/tagwright/XmlElement" "declarations" "Ljava/util/List;" .null := D1 (Or.inr (own_h hw 52 rfl)) (ty := (.object "java/util/List")) (by decide)
  have f21 : Fld Z h1 b1 "com/example/tagwright/tagwright/XmlElement" "attributes" "[Ljava/lang/String;" .null := D1 (Or.inr (own_h hw 56 rfl)) (ty := (.array (.object "java/lang/String"))) (by decide)
  have f22 : Fld Z h1 b1 "com/example/tagwright/tagwright/XmlElement" "stride" "B" (.int 0) := D1 (Or.inr (own_h hw 61 rfl)) (ty := .byte) (by decide)
  have f23 : Fld Z h1 b1 "com/example/tagwright/tagwright/XmlElement" "location" "Lcom/example/tagwright/tagwright/Location;" .null := D1 (Or.inr (own_h hw 63 rfl)) (ty := (.object "com/example/tagwright/tagwright/Location")) (by decide)
  have f24 : Fld Z h1 b1 "com/example/tagwright/tagwright/XmlElement" "parent" "Lcom/example/tagwright/tagwright/XmlElement;" .null := D1 (Or.inr (own_h hw 65 rfl)) (ty := (.object "com/example/tagwright/tagwright/XmlElement")) (by decide)
  have f25 : Fld Z h1 b1 "com/example/tagwright/tagwright/XmlElement" "index" "I" (.int 0) := D1 (Or.inr (own_h hw 67 rfl)) (ty := .int) (by decide)
  refine own_s T1 (mkF m 4 #[rv a1, .val .null, rv a2, rv a3, .val .null, rv a4, .val .null] [(.ref b1), (.ref a1)]) st1 ?_
  refine own_s T1 (mkF m 10 #[rv a1, .val .null, rv a2, rv a3, .val .null, rv a4, .val .null] [.null, (.ref a3), (.ref a2), .null, (.ref b1), (.ref b1), (.ref a1)]) (fun _ k => XS.dup X1.here hx rfl (hb hby own_dst2_1_4) rfl rfl (XS.aloadN X1.here hx rfl (hb hby own_dst2_1_5) rfl rfl (XS.aloadN X1.here hx rfl (hb hby own_dst2_1_6) rfl rfl (XS.aloadN X1.here hx rfl (hb hby own_dst2_1_7) rfl rfl (XS.aload X1.here hx rfl (hb hby own_dst2_1_8) rfl rfl k))))) ?_
  refine own_s T1 (mkF m 15 #[rv a1, .val .null, rv a2, rv a3, .val .null, rv a4, .val .null] [(.ref a1), .null, (.ref a4), .null, (.ref a3), (.ref a2), .null, (.ref b1), (.ref b1), (.ref a1)]) (fun _ k => XS.aload X1.here hx rfl (hb hby own_dst2_1_10) rfl rfl (XS.aload X1.here hx rfl (hb hby own_dst2_1_12) rfl rfl (XS.aloadN X1.here hx rfl (hb hby own_dst2_1_14) rfl rfl k))) ?_
  obtain ⟨T26, X26, e26, st26⟩ := getF X1 hx hZ hown (host := "") (Or.inl (own_h hw 35 rfl)) Via.refl e1 f3 (g := (mkF m 15 #[rv a1, .val .null, rv a2, rv a3, .val .null, rv a4, .val .null] [(.ref a1), .null, (.ref a4), .null, (.ref a3), (.ref a2), .null, (.ref b1), (.ref b1), (.ref a1)])) rfl rfl (hb hby own_dst2_1_15)
  refine own_s T26 (mkF m 18 #[rv a1, .val .null, rv a2, rv a3, .val .null, rv a4, .val .null] [(.ref pr), .null, (.ref a4), .null, (.ref a3), (.ref a2), .null, (.ref b1), (.ref b1), (.ref a1)]) st26 ?_
  obtain ⟨v27, T27, L27, X27, hQ27, st27⟩ := own_callI X26 hx hZ (y := own_y15) (W := 2) (a := b1) rfl hown (own_h hw 37 rfl) (own_h hw 38 rfl) (own_h hw 34 rfl) (own_h hw 39 rfl) (by decide) (own_rmxi2 l Z a0 hw [] b1 a2 a3 a4 pr oN oA ka li d kd x0 h1 n0 Z1 g_b1 A1 f16 f17 f18 f19 f20 f21 f22 f23 f24 f25 f6 f7 f8 (Ne.symm ne_a4_b1) g_li g_d f9 f10 f11 f12 f13 f14 f15 pr18 pr19 pr20 pr21 pr22 (Ne.symm ne_pr_b1) (Ne.symm ne_li_b1) (Ne.symm ne_d_b1) pr26 pr27 pr28) (by decide) (by decide) (g := (mkF m 18 #[rv a1, .val .null, rv a2, rv a3, .val .null, rv a4, .val .null] [(.ref pr), .null, (.ref a4), .null, (.ref a3), (.ref a2), .null, (.ref b1), (.ref b1), (.ref a1)])) rfl (by rw [hml]; rfl) (argsL := [.null, (.ref a2), (.ref a3), .null, (.ref a4), .null, (.ref pr)]) (rest := [(.ref b1), (.ref a1)]) rfl (lenOf own_pd10 rfl) rfl (by show 2 * 0 + _ ≤ _; exact Nat.le_of_eq rfl) (hb hby own_dst2_1_18) e26 (by decide) (by decide)
  obtain ⟨rfl, Nq27, Kq27, q27_0, q27_1, q27_2, q27_3, q27_4, q27_5, q27_6, q27_7⟩ := hQ27
  have N27 := Fr.app N0 Nq27
  have f28 := f2.keep Kq27
  have f29 := f3.keep Kq27 (ninS ne_a1_b1 (ninS pr24 (ninS pr25 nin0)))
  have f30 := f4.keep Kq27 (ninS ne_a1_b1 (ninS pr24 (ninS pr25 nin0)))
  have f31 := f5.keep Kq27 (ninS ne_a1_b1 (ninS pr24 (ninS pr25 nin0)))
  have f32 := own_staKeepW f6 Kq27 (allS A1.nostat (allS f11.nostat (allS f15.nostat all0)))
  have f33 := own_staKeepW f7 Kq27 (allS A1.nostat (allS f11.nostat (allS f15.nostat all0)))
  have f34 := f8.keep Kq27 (ninS ne_a4_b1 (ninS (Ne.symm pr27) (ninS (Ne.symm pr28) nin0)))
  have f35 := f9.keep Kq27
  have f36 := f10.keep Kq27 (ninS ne_pr_b1 (ninS pr21 (ninS pr22 nin0)))
  have f37 := f11.keep Kq27
  have f38 := A1.keep Kq27
  have K27 : Keep h0 T27.heap [a1, li, d] := K1.trans Kq27 (allS (Or.inr sz_b1) (allS (Or.inl (List.mem_of_getElem? (i := 1) rfl)) (allS (Or.inl (List.mem_of_getElem? (i := 2) rfl)) all0)))
  have Z27 := Nat.le_trans Z1 Kq27.1
  refine own_s T27 (mkF m 21 #[rv a1, .val .null, rv a2, rv a3, .val .null, rv a4, .val .null] [(.ref b1), (.ref a1)]) st27 ?_
  obtain ⟨T39, h39, X39, e39, W39, st39⟩ := putF X27 hx hZ hown (host := "") (Or.inl (own_h hw 35 rfl)) Via.refl rfl f29 f28 (Or.inl (own_h hw 36 rfl)) (own_h hw 2 rfl) (ty := (.object "com/example/tagwright/tagwright/XmlElement")) (by decide) rfl rfl (g := (mkF m 21 #[rv a1, .val .null, rv a2, rv a3, .val .null, rv a4, .val .null] [(.ref b1), (.ref a1)])) rfl rfl (hb hby own_dst2_1_21)
  have Fw39 := Fld.same W39 f29
  have f40 := Exa.wr W39 f28
  have f41 := Fld.other W39 f30 (Or.inr (slot_ne (Or.inl (own_h hw 69 rfl)) (Or.inl (own_h hw 36 rfl)) (by decide) (t := (.object "com/example/tagwright/tagwright/XmlElement")) (t' := (.object "com/example/tagwright/tagwright/XmlElement")) (by decide) (by decide)))
  have f42 := Fld.other W39 f31 (Or.inr (slot_ne (Or.inl (own_h hw 71 rfl)) (Or.inl (own_h hw 36 rfl)) (by decide) (t := .int) (t' := (.object "com/example/tagwright/tagwright/XmlElement")) (by decide) (by decide)))
  have f43 := Sta.wr W39 f32
  have f44 := Sta.wr W39 f33
  have f45 := f34.other W39 (Ne.symm pr8)
  have f46 := Exa.wr W39 f35
  have f47 := Fld.other W39 f36 (Or.inl (Ne.symm pr23))
  have f48 := Exa.wr W39 q27_3
  have f49 := Exa.wr W39 q27_0
  have f50 := Fld.other W39 q27_1 (Or.inl (Ne.symm ne_a1_b1))
  have f51 := Fld.other W39 q27_2 (Or.inl (Ne.symm ne_a1_b1))
  have f52 := Fld.other W39 q27_4 (Or.inl (Ne.symm pr24))
  have f53 := Fld.other W39 q27_5 (Or.inl (Ne.symm pr24))
  have f54 := Fld.other W39 q27_6 (Or.inl (Ne.symm pr24))
  have f55 := q27_7.other W39 (Ne.symm pr25)
  have K39 : Keep h0 h39 [a1, li, d] := K27.wr W39 (Or.inl (List.mem_of_getElem? (i := 0) rfl))
  have Z39 := Nat.le_trans Z27 (Nat.le_of_eq W39.size.symm)
  have N39 := Fr.snoc X39 N27 g_a1
  refine own_s T39 (mkF m 24 #[rv a1, .val .null, rv a2, rv a3, .val .null, rv a4, .val .null] []) st39 ?_
  refine own_s T39 (mkF m 25 #[rv a1, .val .null, rv a2, rv a3, .val .null, rv a4, .val .null] [(.ref a1)]) (fun _ k => XS.aloadN X39.here hx rfl (hb hby own_dst2_1_24) rfl rfl k) ?_
  obtain ⟨T56, X56, e56, st56⟩ := getF X39 hx hZ hown (host := "") (Or.inl (own_h hw 68 rfl)) Via.refl e39 f41 (g := (mkF m 25 #[rv a1, .val .null, rv a2, rv a3, .val .null, rv a4, .val .null] [(.ref a1)])) rfl rfl (hb hby own_dst2_1_25)
  refine own_s T56 (mkF m 28 #[rv a1, .val .null, rv a2, rv a3, .val .null, rv a4, .val .null] [(.ref rt)]) st56 ?_
  refine own_s T56 (mkF m 41 #[rv a1, .val .null, rv a2, rv a3, .val .null, rv a4, .val .null] [(.ref a1), (.ref a1)]) (fun _ k => XS.ifnonnullYes X56.here hx rfl (pc0 := 28) (pc' := 39) rfl (hb hby own_dst2_1_28) rfl (by decide) (by decide) (XS.aloadN X56.here hx rfl (hb hby own_dst2_1_39) rfl rfl (XS.dup X56.here hx rfl (hb hby own_dst2_1_40) rfl rfl k))) ?_
  obtain ⟨T57, X57, e57, st57⟩ := getF X56 hx hZ hown (host := "") (Or.inl (own_h hw 70 rfl)) Via.refl e56 f42 (g := (mkF m 41 #[rv a1, .val .null, rv a2, rv a3, .val .null, rv a4, .val .null] [(.ref a1), (.ref a1)])) rfl rfl (hb hby own_dst2_1_41)
  refine own_s T57 (mkF m 44 #[rv a1, .val .null, rv a2, rv a3, .val .null, rv a4, .val .null] [(.int 1), (.ref a1)]) st57 ?_
  refine own_s T57 (mkF m 46 #[rv a1, .val .null, rv a2, rv a3, .val .null, rv a4, .val .null] [(.int 2), (.ref a1)]) (fun _ k => XS.iconst X57.here hx rfl (hb hby own_dst2_1_44) (XS.iadd X57.here hx rfl (hb hby own_dst2_1_45) rfl k)) ?_
  obtain ⟨T58, h58, X58, e58, W58, st58⟩ := putF X57 hx hZ hown (host := "") (Or.inl (own_h hw 70 rfl)) Via.refl e57 f42 f40 (Or.inl (own_h hw 71 rfl)) (own_h hw 2 rfl) (ty := .int) (by decide) rfl rfl (g := (mkF m 46 #[rv a1, .val .null, rv a2, rv a3, .val .null, rv a4, .val .null] [(.int 2), (.ref a1)])) rfl rfl (hb hby own_dst2_1_46)
  have Fw58 := Fld.same W58 f42
  have f59 := Exa.wr W58 f40
  have f60 := Fld.other W58 Fw39 (Or.inr (slot_ne (Or.inl (own_h hw 36 rfl)) (Or.inl (own_h hw 71 rfl)) (by decide) (t := (.object "com/example/tagwright/tagwright/XmlElement")) (t' := .int) (by decide) (by decide)))
  have f61 := Fld.other W58 f41 (Or.inr (slot_ne (Or.inl (own_h hw 69 rfl)) (Or.inl (own_h hw 71 rfl)) (by decide) (t := (.object "com/example/tagwright/tagwright/XmlElement")) (t' := .int) (by decide) (by decide)))
  have f62 := Sta.wr W58 f43
  have f63 := Sta.wr W58 f44
  have f64 := f45.other W58 (Ne.symm pr8)
  have f65 := Exa.wr W58 f46
  have f66 := Fld.other W58 f47 (Or.inl (Ne.symm pr23))
  have f67 := Exa.wr W58 f48
  have f68 := Exa.wr W58 f49
  have f69 := Fld.other W58 f50 (Or.inl (Ne.symm ne_a1_b1))
  have f70 := Fld.other W58 f51 (Or.inl (Ne.symm ne_a1_b1))
  have f71 := Fld.other W58 f52 (Or.inl (Ne.symm pr24))
  have f72 := Fld.other W58 f53 (Or.inl (Ne.symm pr24))
  have f73 := Fld.other W58 f54 (Or.inl (Ne.symm pr24))
  have f74 := f55.other W58 (Ne.symm pr25)
  have K58 : Keep h0 h58 [a1, li, d] := K39.wr W58 (Or.inl (List.mem_of_getElem? (i := 0) rfl))
  have Z58 := Nat.le_trans Z39 (Nat.le_of_eq W58.size.symm)
  have N58 := Fr.snoc X58 N39 g_a1
  refine own_s T58 (mkF m 49 #[rv a1, .val .null, rv a2, rv a3, .val .null, rv a4, .val .null] []) st58 ?_
  exact own_finV X58 hx hret (hb hby own_dst2_1_49) (own_end (Qv := (own_Qst2_1 Z a1 a2 a3 a4 pr rt oN oA ka li d kd x0 h0 n0)) X58 (fun _ => rfl) hlk (by decide) (by decide) e58 ⟨b1, rfl, N58, K58, g_b1, sz_b1, f59, f60, f61, Fw58, f68, f69, f70, f67, f71, f72, f73, f74⟩)
theorem own_dst1_2_0 : decode prog_111_method_2_code 0 = .ok (.aload_n 0, 1) := by decide +kernel
theorem own_dst1_2_1 : decode prog_111_method_2_code 1 = .ok (.new 21, 3) := by decide +kernel
theorem own_dst1_2_4 : decode prog_111_method_2_code 4 = .ok (.dup, 1) := by decide +kernel
theorem own_dst1_2_5 : decode prog_111_method_2_code 5 = .ok (.aload_n 1, 1) := by decide +kernel
theorem own_dst1_2_6 : decode prog_111_method_2_code 6 = .ok (.aload_n 2, 1) := by decide +kernel
theorem own_dst1_2_7 : decode prog_111_method_2_code 7 = .ok (.aload_n 3, 1) := by decide +kernel
theorem own_dst1_2_8 : decode prog_111_method_2_code 8 = .ok (.aload 4, 2) := by decide +kernel
theorem own_dst1_2_10 : decode prog_111_method_2_code 10 = .ok (.aload 5, 2) := by decide +kernel
theorem own_dst1_2_12 : decode prog_111_method_2_code 12 = .ok (.aload 6, 2) := by decide +kernel
theorem own_dst1_2_14 : decode prog_111_method_2_code 14 = .ok (.aload_n 0, 1) := by decide +kernel
theorem own_dst1_2_15 : decode prog_111_method_2_code 15 = .ok (.getfield 23, 3) := by decide +kernel
theorem own_dst1_2_18 : decode prog_111_method_2_code 18 = .ok (.invokespecial 27, 3) := by decide +kernel
theorem own_dst1_2_21 : decode prog_111_method_2_code 21 = .ok (.putfield 23, 3) := by decide +kernel
theorem own_dst1_2_24 : decode prog_111_method_2_code 24 = .ok (.aload_n 0, 1) := by decide +kernel
theorem own_dst1_2_25 : decode prog_111_method_2_code 25 = .ok (.getfield 30, 3) := by decide +kernel
theorem own_dst1_2_28 : decode prog_111_method_2_code 28 = .ok (.ifnonnull 11, 3) := by decide +kernel
theorem own_dst1_2_39 : decode prog_111_method_2_code 39 = .ok (.aload_n 0, 1) := by decide +kernel
theorem own_dst1_2_40 : decode prog_111_method_2_code 40 = .ok (.dup, 1) := by decide +kernel
theorem own_dst1_2_41 : decode prog_111_method_2_code 41 = .ok (.getfield 33, 3) := by decide +kernel
theorem own_dst1_2_44 : decode prog_111_method_2_code 44 = .ok (.iconst 1, 1) := by decide +kernel
theorem own_dst1_2_45 : decode prog_111_method_2_code 45 = .ok (.iadd, 1) := by decide +kernel
theorem own_dst1_2_46 : decode prog_111_method_2_code 46 = .ok (.putfield 33, 3) := by decide +kernel
theorem own_dst1_2_49 : decode prog_111_method_2_code 49 = .ok (.return_, 1) := by decide +kernel
theorem own_efst1_2 (m : MethodId) (x0 : Addr) (x2 : Addr) (x3 : Addr) (x5 : Addr) : entryFrame m #[(.ref x0), .null, (.ref x2), (.ref x3), .null, (.ref x5), .null] 7 = mkF m 0 #[rv x0, .val .null, rv x2, rv x3, .val .null, rv x5, .val .null] [] := by first | (simp [entryFrame, mkF, argsToLocals, Value.category]; done) | rfl
def own_Qst1_2 (Z : State) (a1 : Addr) (a2 : Addr) (a3 : Addr) (a4 : Addr) (pr : Addr) (rt : Addr) (oN : Addr) (oA : Addr) (ka : ClassId) (w : Value) (h0 : Heap) (n0 : Nat) : Option Value → Heap → List Loc → Prop := fun v h L => ∃ (x : Addr) (li : Addr) (d : Addr) (kd : ClassId), v = none ∧ Fr n0 L ∧ Keep h0 h [a1, pr] ∧ n0 ≤ x ∧ h0.size ≤ x ∧ n0 ≤ li ∧ h0.size ≤ li ∧ n0 ≤ d ∧ h0.size ≤ d ∧ Exa Z h a1 "com/example/tagwright/tagwright/XmlTree" ∧ Fld Z h a1 "com/example/tagwright/tagwright/XmlTree" "current" "Lcom/example/tagwright/tagwright/XmlElement;" (.ref x) ∧ Fld Z h a1 "com/example/tagwright/tagwright/XmlTree" "root" "Lcom/example/tagwright/tagwright/XmlElement;" (.ref rt) ∧ Fld Z h a1 "com/example/tagwright/tagwright/XmlTree" "depth" "I" (.int 3) ∧ Exa Z h x "com/example/tagwright/tagwright/XmlElement" ∧ Fld Z h x "com/example/tagwright/tagwright/XmlElement" "children" "Ljava/util/List;" (.ref oN) ∧ Fld Z h x "com/example/tagwright/tagwright/XmlElement" "parent" "Lcom/example/tagwright/tagwright/XmlElement;" (.ref pr) ∧ Exa Z h pr "com/example/tagwright/tagwright/XmlElement" ∧ Fld Z h pr "com/example/tagwright/tagwright/XmlElement" "children" "Ljava/util/List;" (.ref li) ∧ Fld Z h pr "com/example/tagwright/tagwright/XmlElement" "parent" "Lcom/example/tagwright/tagwright/XmlElement;" w ∧ Exa Z h li "java/util/ArrayList" ∧ Fld Z h li "java/util/AbstractList" "modCount" "I" (.int 1) ∧ Fld Z h li "java/util/ArrayList" "elementData" "[Ljava/lang/Object;" (.ref d) ∧ Fld Z h li "java/util/ArrayList" "size" "I" (.int 1) ∧ Arv Z h d kd (.object "java/lang/Object") (4 : Int32) [(.ref x), .null, .null, .null] .null ∧ Ovr Z kd "java/lang/Object" ∧ li ≠ d ∧ x ≠ li ∧ x ≠ d
def own_Rst1_2 : Room := { frames := 6, cells := 3, slots := 19, locals := 86 }
set_option maxRecDepth 65536 in
set_option maxHeartbeats 40000000 in
theorem own_rmst1_2 (l : Launch) (Z : State) (a0 : Array Value) (hw : ∀ d ∈ tables_1, d.before a0 Z = true) (ws : List Jvm.Cond) (a1 : Addr) (a2 : Addr) (a3 : Addr) (a4 : Addr) (pr : Addr) (rt : Addr) (oN : Addr) (oA : Addr) (ka : ClassId) (w : Value) (h0 : Heap) (n0 : Nat) (Z0 : n0 ≤ h0.size) (g_a1 : n0 ≤ a1) (pr1 : Exa Z h0 a1 "com/example/tagwright/tagwright/XmlTree") (pr2 : Fld Z h0 a1 "com/example/tagwright/tagwright/XmlTree" "current" "Lcom/example/tagwright/tagwright/XmlElement;" (.ref pr)) (pr3 : Fld Z h0 a1 "com/example/tagwright/tagwright/XmlTree" "root" "Lcom/example/tagwright/tagwright/XmlElement;" (.ref rt)) (pr4 : Fld Z h0 a1 "com/example/tagwright/tagwright/XmlTree" "depth" "I" (.int 2)) (pr5 : Sta Z h0 "com/example/tagwright/tagwright/XmlElement" "NO_CHILDREN" "Ljava/util/List;" (.ref oN)) (pr6 : Sta Z h0 "com/example/tagwright/tagwright/XmlElement" "NO_ATTRIBUTES" "[Ljava/lang/String;" (.ref oA)) (pr7 : Arv Z h0 a4 ka (.object "java/lang/String") (0 : Int32) [] .null) (pr8 : a1 ≠ a4) (g_pr : n0 ≤ pr) (pr10 : Exa Z h0 pr "com/example/tagwright/tagwright/XmlElement") (pr11 : Fld Z h0 pr "com/example/tagwright/tagwright/XmlElement" "children" "Ljava/util/List;" (.ref oN)) (pr12 : Fld Z h0 pr "com/example/tagwright/tagwright/XmlElement" "parent" "Lcom/example/tagwright/tagwright/XmlElement;" w) (pr13 : a1 ≠ pr) (pr14 : pr ≠ a4) (rw : w.isRef = true) :
    own_Met l Z own_y17 prog_111_method_2_code 7 none ws own_Rst1_2 h0 #[(.ref a1), .null, (.ref a2), (.ref a3), .null, (.ref a4), .null] (own_Qst1_2 Z a1 a2 a3 a4 pr rt oN oA ka w h0 n0) own_Rst1_2.cells own_Rst1_2.slots := by
  refine own_start (plainFor_of_name own_pn7) ?_
  intro p e s m below meth c s₁ X0 hx hZ hby hml hret hlk hown hnm e0
  have hown : s.vm.findClass "com/example/tagwright/tagwright/XmlTree" = some m.cls := hown
  have hml : c.maxLocals = 7 := hml
  have N0 := Fr.nil n0
  refine own_cast (own_efst1_2 m a1 a2 a3 a4) ?_
  refine own_s s₁ (mkF m 1 #[rv a1, .val .null, rv a2, rv a3, .val .null, rv a4, .val .null] [(.ref a1)]) (fun _ k => XS.aloadN X0.here hx rfl (hb hby own_dst1_2_0) rfl rfl k) ?_
  obtain ⟨T1, h1, X1, e1, E1, A1, D1, -, st1⟩ := newO X0 hx hZ hown (own_h hw 32 rfl) (own_h hw 33 rfl) (own_h hw 34 rfl) e0 (g := (mkF m 1 #[rv a1, .val .null, rv a2, rv a3, .val .null, rv a4, .val .null] [(.ref a1)])) rfl (hb hby own_dst1_2_1) (by decide) (by decide)
  obtain ⟨b1, g1⟩ : ∃ z, z = h0.size := ⟨_, rfl⟩
  have ne_a1_b1 : a1 ≠ b1 := Nat.ne_of_lt (Nat.lt_of_lt_of_le pr1.lt (Nat.le_of_eq g1.symm))
  have ne_a4_b1 : a4 ≠ b1 := Nat.ne_of_lt (Nat.lt_of_lt_of_le pr7.lt (Nat.le_of_eq g1.symm))
  have ne_pr_b1 : pr ≠ b1 := Nat.ne_of_lt (Nat.lt_of_lt_of_le pr10.lt (Nat.le_of_eq g1.symm))
  have g_b1 : n0 ≤ b1 := Nat.le_trans Z0 (Nat.le_of_eq g1.symm)
  have sz_b1 : h0.size ≤ b1 := Nat.le_trans (Keep.refl h0 [a1, pr]).1 (Nat.le_of_eq g1.symm)
  rw [← g1] at A1 D1 st1
  have f2 := Exa.ext E1 pr1
  have f3 := Fld.ext E1 pr2
  have f4 := Fld.ext E1 pr3
  have f5 := Fld.ext E1 pr4
  have f6 := Sta.ext E1 pr5
  have f7 := Sta.ext E1 pr6
  have f8 := pr7.ext E1
  have f9 := Exa.ext E1 pr10
  have f10 := Fld.ext E1 pr11
  have f11 := Fld.ext E1 pr12
  have K1 : Keep h0 h1 [a1, pr] := (Keep.refl h0 [a1, pr]).ext E1
  have Z1 := Nat.le_trans Z0 E1.1
  have f12 : Fld Z h1 b1 "com/example/tagwright/tagwright/XmlElement" "children" "Ljava/util/List;" .null := D1 (Or.inl (own_h hw 44 rfl)) (ty := (.object "java/util/List")) (by decide)
  have f13 : Fld Z h1 b1 "com/example/tagwright/tagwright/XmlElement" "namespace" "Ljava/lang/String;" .null := D1 (Or.inr (own_h hw 46 rfl)) (ty := (.object "java/lang/String")) (by decide)
  have f14 : Fld Z h1 b1 "com/example/tagwright/tagwright/XmlElement" "localName" "Ljava/lang/String;" .null := D1 (Or.inr (own_h hw 48 rfl)) (ty := (.object "java/lang/String")) (by decide)
  have f15 : Fld Z h1 b1 "com/example/tagwright/tagwright/XmlElement" "tagName" "Ljava/lang/String;" .null := D1 (Or.inr (own_h hw 50 rfl)) (ty := (.object "java/lang/String")) (by decide)
  have f16 : Fld Z h1 b1 "com/example/tagwright/tagwright/XmlElement" "declarations" "Ljava/util/List;" .null := D1 (Or.inr (own_h hw 52 rfl)) (ty := (.object "java/util/List")) (by decide)
  have f17 : Fld Z h1 b1 "com/example/tagwright/tagwright/XmlElement" "attributes" "[Ljava/lang/String;" .null := D1 (Or.inr (own_h hw 56 rfl)) (ty := (.array (.object "java/lang/String"))) (by decide)
  have f18 : Fld Z h1 b1 "com/example/tagwright/tagwright/XmlElement" "stride" "B" (.int 0) := D1 (Or.inr (own_h hw 61 rfl)) (ty := .byte) (by decide)
  have f19 : Fld Z h1 b1 "com/example/tagwright/tagwright/XmlElement" "location" "Lcom/example/tagwright/tagwright/Location;" .null := D1 (Or.inr (own_h hw 63 rfl)) (ty := (.object "com/example/tagwright/tagwright/Location")) (by decide)
  have f20 : Fld Z h1 b1 "com/example/tagwright/tagwright/XmlElement" "parent" "Lcom/example/tagwright/tagwright/XmlElement;" .null := D1 (Or.inr (own_h hw 65 rfl)) (ty := (.object "com/example/tagwright/tagwright/XmlElement")) (by decide)
  have f21 : Fld Z h1 b1 "com/example/tagwright/tagwright/XmlElement" "index" "I" (.int 0) := D1 (Or.inr (own_h hw 67 rfl)) (ty := .int) (by decide)
  refine own_s T1 (mkF m 4 #[rv a1, .val .null, rv a2, rv a3, .val .null, rv a4, .val .null] [(.ref b1), (.ref a1)]) st1 ?_
  refine own_s T1 (mkF m 10 #[rv a1, .val .null, rv a2, rv a3, .val .null, rv a4, .val .null] [.null, (.ref a3), (.ref a2), .null, (.ref b1), (.ref b1), (.ref a1)]) (fun _ k => XS.dup X1.here hx rfl (hb hby own_dst1_2_4) rfl rfl (XS.aloadN X1.here hx rfl (hb hby own_dst1_2_5) rfl rfl (XS.aloadN X1.here hx rfl (hb hby own_dst1_2_6) rfl rfl (XS.aloadN X1.here hx rfl (hb hby own_dst1_2_7) rfl rfl (XS.aload X1.here hx rfl (hb hby own_dst1_2_8) rfl rfl k))))) ?_
  refine own_s T1 (mkF m 15 #[rv a1, .val .null, rv a2, rv a3, .val .null, rv a4, .val .null] [(.ref a1), .null, (.ref a4), .null, (.ref a3), (.ref a2), .null, (.ref b1), (.ref b1), (.ref a1)]) (fun _ k => XS.aload X1.here hx rfl (hb hby own_dst1_2_10) rfl rfl (XS.aload X1.here hx rfl (hb hby own_dst1_2_12) rfl rfl (XS.aloadN X1.here hx rfl (hb hby own_dst1_2_14) rfl rfl k))) ?_
  obtain ⟨T22, X22, e22, st22⟩ := getF X1 hx hZ hown (host := "") (Or.inl (own_h hw 35 rfl)) Via.refl e1 f3 (g := (mkF m 15 #[rv a1, .val .null, rv a2, rv a3, .val .null, rv a4, .val .null] [(.ref a1), .null, (.ref a4), .null, (.ref a3), (.ref a2), .null, (.ref b1), (.ref b1), (.ref a1)])) rfl rfl (hb hby own_dst1_2_15)
  refine own_s T22 (mkF m 18 #[rv a1, .val .null, rv a2, rv a3, .val .null, rv a4, .val .null] [(.ref pr), .null, (.ref a4), .null, (.ref a3), (.ref a2), .null, (.ref b1), (.ref b1), (.ref a1)]) st22 ?_
  obtain ⟨v23, T23, L23, X23, hQ23, st23⟩ := own_callI X22 hx hZ (y := own_y15) (W := 2) (a := b1) rfl hown (own_h hw 37 rfl) (own_h hw 38 rfl) (own_h hw 34 rfl) (own_h hw 39 rfl) (by decide) (own_rmxi1 l Z a0 hw [] b1 a2 a3 a4 pr oN oA ka w h1 n0 Z1 g_b1 A1 f12 f13 f14 f15 f16 f17 f18 f19 f20 f21 f6 f7 f8 (Ne.symm ne_a4_b1) g_pr f9 f10 f11 (Ne.symm ne_pr_b1) pr14 rw) (by decide) (by decide) (g := (mkF m 18 #[rv a1, .val .null, rv a2, rv a3, .val .null, rv a4, .val .null] [(.ref pr), .null, (.ref a4), .null, (.ref a3), (.ref a2), .null, (.ref b1), (.ref b1), (.ref a1)])) rfl (by rw [hml]; rfl) (argsL := [.null, (.ref a2), (.ref a3), .null, (.ref a4), .null, (.ref pr)]) (rest := [(.ref b1), (.ref a1)]) rfl (lenOf own_pd10 rfl) rfl (by show 2 * 0 + _ ≤ _; exact Nat.le_of_eq rfl) (hb hby own_dst1_2_18) e22 (by decide) (by decide)
  obtain ⟨zli23, zd23, zkd23, rfl, Nq23, Kq23, g_zli23, sq_zli23, g_zd23, sq_zd23, q23_0, q23_1, q23_2, q23_3, q23_4, q23_5, q23_6, q23_7, q23_8, q23_9, q23_10, q23_11, q23_12⟩ := hQ23
  have N23 := Fr.app N0 Nq23
  have ne_a1_zli23 : a1 ≠ zli23 := Nat.ne_of_lt (Nat.lt_of_lt_of_le f2.lt sq_zli23)
  have ne_a1_zd23 : a1 ≠ zd23 := Nat.ne_of_lt (Nat.lt_of_lt_of_le f2.lt sq_zd23)
  have ne_a4_zli23 : a4 ≠ zli23 := Nat.ne_of_lt (Nat.lt_of_lt_of_le f8.lt sq_zli23)
  have ne_a4_zd23 : a4 ≠ zd23 := Nat.ne_of_lt (Nat.lt_of_lt_of_le f8.lt sq_zd23)
  have ne_pr_zli23 : pr ≠ zli23 := Nat.ne_of_lt (Nat.lt_of_lt_of_le f9.lt sq_zli23)
  have ne_pr_zd23 : pr ≠ zd23 := Nat.ne_of_lt (Nat.lt_of_lt_of_le f9.lt sq_zd23)
  have ne_b1_zli23 : b1 ≠ zli23 := Nat.ne_of_lt (Nat.lt_of_lt_of_le A1.lt sq_zli23)
  have ne_b1_zd23 : b1 ≠ zd23 := Nat.ne_of_lt (Nat.lt_of_lt_of_le A1.lt sq_zd23)
  have sz_zli23 : h0.size ≤ zli23 := Nat.le_trans K1.1 sq_zli23
  have sz_zd23 : h0.size ≤ zd23 := Nat.le_trans K1.1 sq_zd23
  have f24 := f2.keep Kq23
  have f25 := f3.keep Kq23 (ninS ne_a1_b1 (ninS pr13 nin0))
  have f26 := f4.keep Kq23 (ninS ne_a1_b1 (ninS pr13 nin0))
  have f27 := f5.keep Kq23 (ninS ne_a1_b1 (ninS pr13 nin0))
  have f28 := own_staKeepW f6 Kq23 (allS A1.nostat (allS f9.nostat all0))
  have f29 := own_staKeepW f7 Kq23 (allS A1.nostat (allS f9.nostat all0))
  have f30 := f8.keep Kq23 (ninS ne_a4_b1 (ninS (Ne.symm pr14) nin0))
  have f31 := f9.keep Kq23
  have f32 := A1.keep Kq23
  have K23 : Keep h0 T23.heap [a1, pr] := K1.trans Kq23 (allS (Or.inr sz_b1) (allS (Or.inl (List.mem_of_getElem? (i := 1) rfl)) all0))
  have Z23 := Nat.le_trans Z1 Kq23.1
  refine own_s T23 (mkF m 21 #[rv a1, .val .null, rv a2, rv a3, .val .null, rv a4, .val .null] [(.ref b1), (.ref a1)]) st23 ?_
  obtain ⟨T33, h33, X33, e33, W33, st33⟩ := putF X23 hx hZ hown (host := "") (Or.inl (own_h hw 35 rfl)) Via.refl rfl f25 f24 (Or.inl (own_h hw 36 rfl)) (own_h hw 2 rfl) (ty := (.object "com/example/tagwright/tagwright/XmlElement")) (by decide) rfl rfl (g := (mkF m 21 #[rv a1, .val .null, rv a2, rv a3, .val .null, rv a4, .val .null] [(.ref b1), (.ref a1)])) rfl rfl (hb hby own_dst1_2_21)
  have Fw33 := Fld.same W33 f25
  have f34 := Exa.wr W33 f24
  have f35 := Fld.other W33 f26 (Or.inr (slot_ne (Or.inl (own_h hw 69 rfl)) (Or.inl (own_h hw 36 rfl)) (by decide) (t := (.object "com/example/tagwright/tagwright/XmlElement")) (t' := (.object "com/example/tagwright/tagwright/XmlElement")) (by decide) (by decide)))
  have f36 := Fld.other W33 f27 (Or.inr (slot_ne (Or.inl (own_h hw 71 rfl)) (Or.inl (own_h hw 36 rfl)) (by decide) (t := .int) (t' := (.object "com/example/tagwright/tagwright/XmlElement")) (by decide) (by decide)))
  have f37 := Sta.wr W33 f28
  have f38 := Sta.wr W33 f29
  have f39 := f30.other W33 (Ne.symm pr8)
  have f40 := Exa.wr W33 q23_3
  have f41 := Exa.wr W33 q23_0
  have f42 := Fld.other W33 q23_1 (Or.inl (Ne.symm ne_a1_b1))
  have f43 := Fld.other W33 q23_2 (Or.inl (Ne.symm ne_a1_b1))
  have f44 := Fld.other W33 q23_4 (Or.inl (Ne.symm pr13))
  have f45 := Fld.other W33 q23_5 (Or.inl (Ne.symm pr13))
  have f46 := Exa.wr W33 q23_6
  have f47 := Fld.other W33 q23_7 (Or.inl (Ne.symm ne_a1_zli23))
  have f48 := Fld.other W33 q23_8 (Or.inl (Ne.symm ne_a1_zli23))
  have f49 := Fld.other W33 q23_9 (Or.inl (Ne.symm ne_a1_zli23))
  have f50 := q23_10.other W33 (Ne.symm ne_a1_zd23)
  have K33 : Keep h0 h33 [a1, pr] := K23.wr W33 (Or.inl (List.mem_of_getElem? (i := 0) rfl))
  have Z33 := Nat.le_trans Z23 (Nat.le_of_eq W33.size.symm)
  have N33 := Fr.snoc X33 N23 g_a1
  refine own_s T33 (mkF m 24 #[rv a1, .val .null, rv a2, rv a3, .val .null, rv a4, .val .null] []) st33 ?_
  refine own_s T33 (mkF m 25 #[rv a1, .val .null, rv a2, rv a3, .val .null, rv a4, .val .null] [(.ref a1)]) (fun _ k => XS.aloadN X33.here hx rfl (hb hby own_dst1_2_24) rfl rfl k) ?_
  obtain ⟨T51, X51, e51, st51⟩ := getF X33 hx hZ hown (host := "") (Or.inl (own_h hw 68 rfl)) Via.refl e33 f35 (g := (mkF m 25 #[rv a1, .val .null, rv a2, rv a3, .val .null, rv a4, .val .null] [(.ref a1)])) rfl rfl (hb hby own_dst1_2_25)
  refine own_s T51 (mkF m 28 #[rv a1, .val .null, rv a2, rv a3, .val .null, rv a4, .val .null] [(.ref rt)]) st51 ?_
  refine own_s T51 (mkF m 41 #[rv a1, .val .null, rv a2, rv a3, .val .null, rv a4, .val .null] [(.ref a1), (.ref a1)]) (fun _ k => XS.ifnonnullYes X51.here hx rfl (pc0 := 28) (pc' := 39) rfl (hb hby own_dst1_2_28) rfl (by decide) (by decide) (XS.aloadN X51.here hx rfl (hb hby own_dst1_2_39) rfl rfl (XS.dup X51.here hx rfl (hb hby own_dst1_2_40) rfl rfl k))) ?_
  obtain ⟨T52, X52, e52, st52⟩ := getF X51 hx hZ hown (host := "") (Or.inl (own_h hw 70 rfl)) Via.refl e51 f36 (g := (mkF m 41 #[rv a1, .val .null, rv a2, rv a3, .val .null, rv a4, .val .null] [(.ref a1), (.ref a1)])) rfl rfl (hb hby own_dst1_2_41)
  refine own_s T52 (mkF m 44 #[rv a1, .val .null, rv a2, rv a3, .val .null, rv a4, .val .null] [(.int 2), (.ref a1)]) st52 ?_
  refine own_s T52 (mkF m 46 #[rv a1, .val .null, rv a2, rv a3, .val .null, rv a4, .val .null] [(.int 3), (.ref a1)]) (fun _ k => XS.iconst X52.here hx rfl (hb hby own_dst1_2_44) (XS.iadd X52.here hx rfl (hb hby own_dst1_2_45) rfl k)) ?_
  obtain ⟨T53, h53, X53, e53, W53, st53⟩ := putF X52 hx hZ hown (host := "") (Or.inl (own_h hw 70 rfl)) Via.refl e52 f36 f34 (Or.inl (own_h hw 71 rfl)) (own_h hw 2 rfl) (ty := .int) (by decide) rfl rfl (g := (mkF m 46 #[rv a1, .val .null, rv a2, rv a3, .val .null, rv a4, .val .null] [(.int 3), (.ref a1)])) rfl rfl (hb hby own_dst1_2_46)
  have Fw53 := Fld.same W53 f36
  have f54 := Exa.wr W53 f34
  have f55 := Fld.other W53 Fw33 (Or.inr (slot_ne (Or.inl (own_h hw 36 rfl)) (Or.inl (own_h hw 71 rfl)) (by decide) (t := (.object "com/example/tagwright/tagwright/XmlElement")) (t' := .int) (by decide) (by decide)))
  have f56 := Fld.other W53 f35 (Or.inr (slot_ne (Or.inl (own_h hw 69 rfl)) (Or.inl (own_h hw 71 rfl)) (by decide) (t := (.object "com/example/tagwright/tagwright/XmlElement")) (t' := .int) (by decide) (by decide)))
  have f57 := Sta.wr W53 f37
  have f58 := Sta.wr W53 f38
  have f59 := f39.other W53 (Ne.symm pr8)
  have f60 := Exa.wr W53 f40
  have f61 := Exa.wr W53 f41
  have f62 := Fld.other W53 f42 (Or.inl (Ne.symm ne_a1_b1))
  have f63 := Fld.other W53 f43 (Or.inl (Ne.symm ne_a1_b1))
  have f64 := Fld.other W53 f44 (Or.inl (Ne.symm pr13))
  have f65 := Fld.other W53 f45 (Or.inl (Ne.symm pr13))
  have f66 := Exa.wr W53 f46
  have f67 := Fld.other W53 f47 (Or.inl (Ne.symm ne_a1_zli23))
  have f68 := Fld.other W53 f48 (Or.inl (Ne.symm ne_a1_zli23))
  have f69 := Fld.other W53 f49 (Or.inl (Ne.symm ne_a1_zli23))
  have f70 := f50.other W53 (Ne.symm ne_a1_zd23)
  have K53 : Keep h0 h53 [a1, pr] := K33.wr W53 (Or.inl (List.mem_of_getElem? (i := 0) rfl))
  have Z53 := Nat.le_trans Z33 (Nat.le_of_eq W53.size.symm)
  have N53 := Fr.snoc X53 N33 g_a1
  refine own_s T53 (mkF m 49 #[rv a1, .val .null, rv a2, rv a3, .val .null, rv a4, .val .null] []) st53 ?_
  exact own_finV X53 hx hret (hb hby own_dst1_2_49) (own_end (Qv := (own_Qst1_2 Z a1 a2 a3 a4 pr rt oN oA ka w h0 n0)) X53 (fun _ => rfl) hlk (by decide) (by decide) e53 ⟨b1, zli23, zd23, zkd23, rfl, N53, K53, g_b1, sz_b1, g_zli23, sz_zli23, g_zd23, sz_zd23, f54, f55, f56, Fw53, f61, f62, f63, f60, f64, f65, f66, f67, f68, f69, f70, q23_11, q23_12, ne_b1_zli23, ne_b1_zd23⟩)
theorem own_dst2_2_0 : decode prog_111_method_2_code 0 = .ok (.aload_n 0, 1) := by decide +kernel
theorem own_dst2_2_1 : decode prog_111_method_2_code 1 = .ok (.new 21, 3) := by decide +kernel
theorem own_dst2_2_4 : decode prog_111_method_2_code 4 = .ok (.dup, 1) := by decide +kernel
theorem own_dst2_2_5 : decode prog_111_method_2_code 5 = .ok (.aload_n 1, 1) := by decide +kernel
theorem own_dst2_2_6 : decode prog_111_method_2_code 6 = .ok (.aload_n 2, 1) := by decide +kernel
theorem own_dst2_2_7 : decode prog_111_method_2_code 7 = .ok (.aload_n 3, 1) := by decide +kernel
theorem own_dst2_2_8 : decode prog_111_method_2_code 8 = .ok (.aload 4, 2) := by decide +kernel
theorem own_dst2_2_10 : decode prog_111_method_2_code 10 = .ok (.aload 5, 2) := by decide +kernel
theorem own_dst2_2_12 : decode prog_111_method_2_code 12 = .ok (.aload 6, 2) := by decide +kernel
theorem own_dst2_2_14 : decode prog_111_method_2_code 14 = .ok (.aload_n 0, 1) := by decide +kernel
theorem own_dst2_2_15 : decode prog_111_method_2_code 15 = .ok (.getfield 23, 3) := by decide +kernel
theorem own_dst2_2_18 : decode prog_111_method_2_code 18 = .ok (.invokespecial 27, 3) := by decide +kernel
theorem own_dst2_2_21 : decode prog_111_method_2_code 21 = .ok (.putfield 23, 3) := by decide +kernel
theorem own_dst2_2_24 : decode prog_111_method_2_code 24 = .ok (.aload_n 0, 1) := by decide +kernel
theorem own_dst2_2_25 : decode prog_111_method_2_code 25 = .ok (.getfield 30, 3) := by decide +kernel
theorem own_dst2_2_28 : decode prog_111_method_2_code 28 = .ok (.ifnonnull 11, 3) := by decide +kernel
theorem own_dst2_2_39 : decode prog_111_method_2_code 39 = .ok (.aload_n 0, 1) := by decide +kernel
theorem own_dst2_2_40 : decode prog_111_method_2_code 40 = .ok (.dup, 1) := by decide +kernel
theorem own_dst2_2_41 : decode prog_111_method_2_code 41 = .ok (.getfield 33, 3) := by decide +kernel
theorem own_dst2_2_44 : decode prog_111_method_2_code 44 = .ok (.iconst 1, 1) := by decide +kernel
theorem own_dst2_2_45 : decode prog_111_method_2_code 45 = .ok (.iadd, 1) := by decide +kernel
theorem own_dst2_2_46 : decode prog_111_method_2_code 46 = .ok (.putfield 33, 3) := by decide +kernel
theorem own_dst2_2_49 : decode prog_111_method_2_code 49 = .ok (.return_, 1) := by decide +kernel
theorem own_efst2_2 (m : MethodId) (x0 : Addr) (x2 : Addr) (x3 : Addr) (x5 : Addr) : entryFrame m #[(.ref x0), .null, (.ref x2), (.ref x3), .null, (.ref x5), .null] 7 = mkF m 0 #[rv x0, .val .null, rv x2, rv x3, .val .null, rv x5, .val .null] [] := by first | (simp [entryFrame, mkF, argsToLocals, Value.category]; done) | rfl
def own_Qst2_2 (Z : State) (a1 : Addr) (a2 : Addr) (a3 : Addr) (a4 : Addr) (pr : Addr) (rt : Addr) (oN : Addr) (oA : Addr) (ka : ClassId) (li : Addr) (d : Addr) (kd : ClassId) (x0 : Addr) (h0 : Heap) (n0 : Nat) : Option Value → Heap → List Loc → Prop := fun v h L => ∃ (x : Addr), v = none ∧ Fr n0 L ∧ Keep h0 h [a1, li, d] ∧ n0 ≤ x ∧ h0.size ≤ x ∧ Exa Z h a1 "com/example/tagwright/tagwright/XmlTree" ∧ Fld Z h a1 "com/example/tagwright/tagwright/XmlTree" "current" "Lcom/example/tagwright/tagwright/XmlElement;" (.ref x) ∧ Fld Z h a1 "com/example/tagwright/tagwright/XmlTree" "root" "Lcom/example/tagwright/tagwright/XmlElement;" (.ref rt) ∧ Fld Z h a1 "com/example/tagwright/tagwright/XmlTree" "depth" "I" (.int 3) ∧ Exa Z h x "com/example/tagwright/tagwright/XmlElement" ∧ Fld Z h x "com/example/tagwright/tagwright/XmlElement" "children" "Ljava/util/List;" (.ref oN) ∧ Fld Z h x "com/example/tagwright/tagwright/XmlElement" "parent" "Lcom/example/tagwright/tagwright/XmlElement;" (.ref pr) ∧ Exa Z h li "java/util/ArrayList" ∧ Fld Z h li "java/util/AbstractList" "modCount" "I" (.int 2) ∧ Fld Z h li "java/util/ArrayList" "elementData" "[Ljava/lang/Object;" (.ref d) ∧ Fld Z h li "java/util/ArrayList" "size" "I" (.int 2) ∧ Arv Z h d kd (.object "java/lang/Object") (4 : Int32) [(.ref x0), (.ref x), .null, .null] .null
def own_Rst2_2 : Room := { frames := 4, cells := 1, slots := 12, locals := 63 }
set_option maxRecDepth 65536 in
set_option maxHeartbeats 40000000 in
theorem own_rmst2_2 (l : Launch) (Z : State) (a0 : Array Value) (hw : ∀ d ∈ tables_1, d.before a0 Z = true) (ws : List Jvm.Cond) (a1 : Addr) (a2 : Addr) (a3 : Addr) (a4 : Addr) (pr : Addr) (rt : Addr) (oN : Addr) (oA : Addr) (ka : ClassId) (li : Addr) (d : Addr) (kd : ClassId) (x0 : Addr) (h0 : Heap) (n0 : Nat) (Z0 : n0 ≤ h0.size) (g_a1 : n0 ≤ a1) (pr1 : Exa Z h0 a1 "com/example/tagwright/tagwright/XmlTree") (pr2 : Fld Z h0 a1 "com/example/tagwright/tagwright/XmlTree" "current" "Lcom/example/tagwright/tagwright/XmlElement;" (.ref pr)) (pr3 : Fld Z h0 a1 "com/example/tagwright/tagwright/XmlTree" "root" "Lcom/example/tagwright/tagwright/XmlElement;" (.ref rt)) (pr4 : Fld Z h0 a1 "com/example/tagwright/tagwright/XmlTree" "depth" "I" (.int 2)) (pr5 : Sta Z h0 "com/example/tagwright/tagwright/XmlElement" "NO_CHILDREN" "Ljava/util/List;" (.ref oN)) (pr6 : Sta Z h0 "com/example/tagwright/tagwright/XmlElement" "NO_ATTRIBUTES" "[Ljava/lang/String;" (.ref oA)) (pr7 : Arv Z h0 a4 ka (.object "java/lang/String") (0 : Int32) [] .null) (pr8 : a1 ≠ a4) (g_li : n0 ≤ li) (g_d : n0 ≤ d) (pr11 : Exa Z h0 pr "com/example/tagwright/tagwright/XmlElement") (pr12 : Fld Z h0 pr "com/example/tagwright/tagwright/XmlElement" "children" "Ljava/util/List;" (.ref li)) (pr13 : Exa Z h0 li "java/util/ArrayList") (pr14 : Fld Z h0 li "java/util/AbstractList" "modCount" "I" (.int 1)) (pr15 : Fld Z h0 li "java/util/ArrayList" "elementData" "[Ljava/lang/Object;" (.ref d)) (pr16 : Fld Z h0 li "java/util/ArrayList" "size" "I" (.int 1)) (pr17 : Arv Z h0 d kd (.object "java/lang/Object") (4 : Int32) [(.ref x0), .null, .null, .null] .null) (pr18 : Ovr Z kd "java/lang/Object") (pr19 : li ≠ d) (pr20 : li ≠ oN) (pr21 : pr ≠ li) (pr22 : pr ≠ d) (pr23 : a1 ≠ pr) (pr24 : a1 ≠ li) (pr25 : a1 ≠ d) (pr26 : pr ≠ a4) (pr27 : li ≠ a4) (pr28 : d ≠ a4) :
    own_Met l Z own_y17 prog_111_method_2_code 7 none ws own_Rst2_2 h0 #[(.ref a1), .null, (.ref a2), (.ref a3), .null, (.ref a4), .null] (own_Qst2_2 Z a1 a2 a3 a4 pr rt oN oA ka li d kd x0 h0 n0) own_Rst2_2.cells own_Rst2_2.slots := by
  refine own_start (plainFor_of_name own_pn7) ?_
  intro p e s m below meth c s₁ X0 hx hZ hby hml hret hlk hown hnm e0
  have hown : s.vm.findClass "com/example/tagwright/tagwright/XmlTree" = some m.cls := hown
  have hml : c.maxLocals = 7 := hml
  have N0 := Fr.nil n0
  refine own_cast (own_efst2_2 m a1 a2 a3 a4) ?_
  refine own_s s₁ (mkF m 1 #[rv a1, .val .null, rv a2, rv a3, .val .null, rv a4, .val .null] [(.ref a1)]) (fun _ k => XS.aloadN X0.here hx rfl (hb hby own_dst2_2_0) rfl rfl k) ?_
  obtain ⟨T1, h1, X1, e1, E1, A1, D1, -, st1⟩ := newO X0 hx hZ hown (own_h hw 32 rfl) (own_h hw 33 rfl) (own_h hw 34 rfl) e0 (g := (mkF m 1 #[rv a1, .val .null, rv a2, rv a3, .val .null, rv a4, .val .null] [(.ref a1)])) rfl (hb hby own_dst2_2_1) (by decide) (by decide)
  obtain ⟨b1, g1⟩ : ∃ z, z = h0.size := ⟨_, rfl⟩
  have ne_a1_b1 : a1 ≠ b1 := Nat.ne_of_lt (Nat.lt_of_lt_of_le pr1.lt (Nat.le_of_eq g1.symm))
  have ne_a4_b1 : a4 ≠ b1 := Nat.ne_of_lt (Nat.lt_of_lt_of_le pr7.lt (Nat.le_of_eq g1.symm))
  have ne_pr_b1 : pr ≠ b1 := Nat.ne_of_lt (Nat.lt_of_lt_of_le pr11.lt (Nat.le_of_eq g1.symm))
  have ne_li_b1 : li ≠ b1 := Nat.ne_of_lt (Nat.lt_of_lt_of_le pr13.lt (Nat.le_of_eq g1.symm))
  have ne_d_b1 : d ≠ b1 := Nat.ne_of_lt (Nat.lt_of_lt_of_le pr17.lt (Nat.le_of_eq g1.symm))
  have g_b1 : n0 ≤ b1 := Nat.le_trans Z0 (Nat.le_of_eq g1.symm)
  have sz_b1 : h0.size ≤ b1 := Nat.le_trans (Keep.refl h0 [a1, li, d]).1 (Nat.le_of_eq g1.symm)
  rw [← g1] at A1 D1 st1
  have f2 := Exa.ext E1 pr1
  have f3 := Fld.ext E1 pr2
  have f4 := Fld.ext E1 pr3
  have f5 := Fld.ext E1 pr4
  have f6 := Sta.ext E1 pr5
  have f7 := Sta.ext E1 pr6
  have f8 := pr7.ext E1
  have f9 := Exa.ext E1 pr11
  have f10 := Fld.ext E1 pr12
  have f11 := Exa.ext E1 pr13
  have f12 := Fld.ext E1 pr14
  have f13 := Fld.ext E1 pr15
  have f14 := Fld.ext E1 pr16
  have f15 := pr17.ext E1
  have K1 : Keep h0 h1 [a1, li, d] := (Keep.refl h0 [a1, li, d]).ext E1
  have Z1 := Nat.le_trans Z0 E1.1
  have f16 : Fld Z h1 b1 "com/example/tagwright/tagwright/XmlElement" "children" "Ljava/util/List;" .null := D1 (Or.inl (own_h hw 44 rfl)) (ty := (.object "java/util/List")) (by decide)
  have f17 : Fld Z h1 b1 "com/example/tagwright/tagwright/XmlElement" "namespace" "Ljava/lang/String;" .null := D1 (Or.inr (own_h hw 46 rfl)) (ty := (.object "java/lang/String")) (by decide)
  have f18 : Fld Z h1 b1 "com/example/tagwright/tagwright/XmlElement" "localName" "Ljava/lang/String;" .null := D1 (Or.inr (own_h hw 48 rfl)) (ty := (.object "java/lang/String")) (by decide)
  have f19 : Fld Z h1 b1 "com/example/tagwright/tagwright/XmlElement" "tagName" "Ljava/lang/String;" .null := D1 (Or.inr (own_h hw 50 rfl)) (ty := (.object "java/lang/String")) (by decide)
  have f20 : Fld Z h1 b1 "com/example/tagwright/tagwright/XmlElement" "declarations" "Ljava/util/List;" .null := D1 (Or.inr (own_h hw 52 rfl)) (ty := (.object "java/util/List")) (by decide)
  have f21 : Fld Z h1 b1 "com/example/tagwright/tagwright/XmlElement" "attributes" "[Ljava/lang/String;" .null := D1 (Or.inr (own_h hw 56 rfl)) (ty := (.array (.object "java/lang/String"))) (by decide)
  have f22 : Fld Z h1 b1 "com/example/tagwright/tagwright/XmlElement" "stride" "B" (.int 0) := D1 (Or.inr (own_h hw 61 rfl)) (ty := .byte) (by decide)
  have f23 : Fld Z h1 b1 "com/example/tagwright/tagwright/XmlElement" "location" "Lcom/example/tagwright/tagwright/Location;" .null := D1 (Or.inr (own_h hw 63 rfl)) (ty := (.object "com/example/tagwright/tagwright/Location")) (by decide)
  have f24 : Fld Z h1 b1 "com/example/tagwright/tagwright/XmlElement" "parent" "Lcom/example/tagwright/tagwright/XmlElement;" .null := D1 (Or.inr (own_h hw 65 rfl)) (ty := (.object "com/example/tagwright/tagwright/XmlElement")) (by decide)
  have f25 : Fld Z h1 b1 "com/example/tagwright/tagwright/XmlElement" "index" "I" (.int 0) := D1 (Or.inr (own_h hw 67 rfl)) (ty := .int) (by decide)
  refine own_s T1 (mkF m 4 #[rv a1, .val .null, rv a2, rv a3, .val .null, rv a4, .val .null] [(.ref b1), (.ref a1)]) st1 ?_
  refine own_s T1 (mkF m 10 #[rv a1, .val .null, rv a2, rv a3, .val .null, rv a4, .val .null] [.null, (.ref a3), (.ref a2), .null, (.ref b1), (.ref b1), (.ref a1)]) (fun _ k => XS.dup X1.here hx rfl (hb hby own_dst2_2_4) rfl rfl (XS.aloadN X1.here hx rfl (hb hby own_dst2_2_5) rfl rfl (XS.aloadN X1.here hx rfl (hb hby own_dst2_2_6) rfl rfl (XS.aloadN X1.here hx rfl (hb hby own_dst2_2_7) rfl rfl (XS.aload X1.here hx rfl (hb hby own_dst2_2_8) rfl rfl k))))) ?_
  refine own_s T1 (mkF m 15 #[rv a1, .val .null, rv a2, rv a3, .val .null, rv a4, .val .null] [(.ref a1), .null, (.ref a4), .null, (.ref a3), (.ref a2), .null, (.ref b1), (.ref b1), (.ref a1)]) (fun _ k => XS.aload X1.here hx rfl (hb hby own_dst2_2_10) rfl rfl (XS.aload X1.here hx rfl (hb hby own_dst2_2_12) rfl rfl (XS.aloadN X1.here hx rfl (hb hby own_dst2_2_14) rfl rfl k))) ?_
  obtain ⟨T26, X26, e26, st26⟩ := getF X1 hx hZ hown (host := "") (Or.inl (own_h hw 35 rfl)) Via.refl e1 f3 (g := (mkF m 15 #[rv a1, .val .null, rv a2, rv a3, .val .null, rv a4, .val .null] [(.ref a1), .null, (.ref a4), .null, (.ref a3), (.ref a2), .null, (.ref b1), (.ref b1), (.ref a1)])) rfl rfl (hb hby own_dst2_2_15)
  refine own_s T26 (mkF m 18 #[rv a1, .val .null, rv a2, rv a3, .val .null, rv a4, .val .null] [(.ref pr), .null, (.ref a4), .null, (.ref a3), (.ref a2), .null, (.ref b1), (.ref b1), (.ref a1)]) st26 ?_
  obtain ⟨v27, T27, L27, X27, hQ27, st27⟩ := own_callI X26 hx hZ (y := own_y15) (W := 2) (a := b1) rfl hown (own_h hw 37 rfl) (own_h hw 38 rfl) (own_h hw 34 rfl) (own_h hw 39 rfl) (by decide) (own_rmxi2 l Z a0 hw [] b1 a2 a3 a4 pr oN oA ka li d kd x0 h1 n0 Z1 g_b1 A1 f16 f17 f18 f19 f20 f21 f22 f23 f24 f25 f6 f7 f8 (Ne.symm ne_a4_b1) g_li g_d f9 f10 f11 f12 f13 f14 f15 pr18 pr19 pr20 pr21 pr22 (Ne.symm ne_pr_b1) (Ne.symm ne_li_b1) (Ne.symm ne_d_b1) pr26 pr27 pr28) (by decide) (by decide) (g := (mkF m 18 #[rv a1, .val .null, rv a2, rv a3, .val .null, rv a4, .val .null] [(.ref pr), .null, (.ref a4), .null, (.ref a3), (.ref a2), .null, (.ref b1), (.ref b1), (.ref a1)])) rfl (by rw [hml]; rfl) (argsL := [.null, (.ref a2), (.ref a3), .null, (.ref a4), .null, (.ref pr)]) (rest := [(.ref b1), (.ref a1)]) rfl (lenOf own_pd10 rfl) rfl (by show 2 * 0 + _ ≤ _; exact Nat.le_of_eq rfl) (hb hby own_dst2_2_18) e26 (by decide) (by decide)
  obtain ⟨rfl, Nq27, Kq27, q27_0, q27_1, q27_2, q27_3, q27_4, q27_5, q27_6, q27_7⟩ := hQ27
  have N27 := Fr.app N0 Nq27
  have f28 := f2.keep Kq27
  have f29 := f3.keep Kq27 (ninS ne_a1_b1 (ninS pr24 (ninS pr25 nin0)))
  have f30 := f4.keep Kq27 (ninS ne_a1_b1 (ninS pr24 (ninS pr25 nin0)))
  have f31 := f5.keep Kq27 (ninS ne_a1_b1 (ninS pr24 (ninS pr25 nin0)))
  have f32 := own_staKeepW f6 Kq27 (allS A1.nostat (allS f11.nostat (allS f15.nostat all0)))
  have f33 := own_staKeepW f7 Kq27 (allS A1.nostat (allS f11.nostat (allS f15.nostat all0)))
  have f34 := f8.keep Kq27 (ninS ne_a4_b1 (ninS (Ne.symm pr27) (ninS (Ne.symm pr28) nin0)))
  have f35 := f9.keep Kq27
  have f36 := f10.keep Kq27 (ninS ne_pr_b1 (ninS pr21 (ninS pr22 nin0)))
  have f37 := f11.keep Kq27
  have f38 := A1.keep Kq27
  have K27 : Keep h0 T27.heap [a1, li, d] := K1.trans Kq27 (allS (Or.inr sz_b1) (allS (Or.inl (List.mem_of_getElem? (i := 1) rfl)) (allS (Or.inl (List.mem_of_getElem? (i := 2) rfl)) all0)))
  have Z27 := Nat.le_trans Z1 Kq27.1
  refine own_s T27 (mkF m 21 #[rv a1, .val .null, rv a2, rv a3, .val .null, rv a4, .val .null] [(.ref b1), (.ref a1)]) st27 ?_
  obtain ⟨T39, h39, X39, e39, W39, st39⟩ := putF X27 hx hZ hown (host := "") (Or.inl (own_h hw 35 rfl)) Via.refl rfl f29 f28 (Or.inl (own_h hw 36 rfl)) (own_h hw 2 rfl) (ty := (.object "com/example/tagwright/tagwright/XmlElement")) (by decide) rfl rfl (g := (mkF m 21 #[rv a1, .val .null, rv a2, rv a3, .val .null, rv a4, .val .null] [(.ref b1), (.ref a1)])) rfl rfl (hb hby own_dst2_2_21)
  have Fw39 := Fld.same W39 f29
  have f40 := Exa.wr W39 f28
  have f41 := Fld.other W39 f30 (Or.inr (slot_ne (Or.inl (own_h hw 69 rfl)) (Or.inl (own_h hw 36 rfl)) (by decide) (t := (.object "com/example/tagwright/tagwright/XmlElement")) (t' := (.object "com/example/tagwright/tagwright/XmlElement")) (by decide) (by decide)))
  have f42 := Fld.other W39 f31 (Or.inr (slot_ne (Or.inl (own_h hw 71 rfl)) (Or.inl (own_h hw 36 rfl)) (by decide) (t := .int) (t' := (.object "com/example/tagwright/tagwright/XmlElement")) (by decide) (by decide)))
  have f43 := Sta.wr W39 f32
  have f44 := Sta.wr W39 f33
  have f45 := f34.other W39 (Ne.symm pr8)
  have f46 := Exa.wr W39 f35
  have f47 := Fld.other W39 f36 (Or.inl (Ne.symm pr23))
  have f48 := Exa.wr W39 q27_3
  have f49 := Exa.wr W39 q27_0
  have f50 := Fld.other W39 q27_1 (Or.inl (Ne.symm ne_a1_b1))
  have f51 := Fld.other W39 q27_2 (Or.inl (Ne.symm ne_a1_b1))
  have f52 := Fld.other W39 q27_4 (Or.inl (Ne.symm pr24))
  have f53 := Fld.other W39 q27_5 (Or.inl (Ne.symm pr24))
  have f54 := Fld.other W39 q27_6 (Or.inl (Ne.symm pr24))
  have f55 := q27_7.other W39 (Ne.symm pr25)
  have K39 : Keep h0 h39 [a1, li, d] := K27.wr W39 (Or.inl (List.mem_of_getElem? (i := 0) rfl))
  have Z39 := Nat.le_trans Z27 (Nat.le_of_eq W39.size.symm)
  have N39 := Fr.snoc X39 N27 g_a1
  refine own_s T39 (mkF m 24 #[rv a1, .val .null, rv a2, rv a3, .val .null, rv a4, .val .null] []) st39 ?_
  refine own_s T39 (mkF m 25 #[rv a1, .val .null, rv a2, rv a3, .val .null, rv a4, .val .null] [(.ref a1)]) (fun _ k => XS.aloadN X39.here hx rfl (hb hby own_dst2_2_24) rfl rfl k) ?_
  obtain ⟨T56, X56, e56, st56⟩ := getF X39 hx hZ hown (host := "") (Or.inl (own_h hw 68 rfl)) Via.refl e39 f41 (g := (mkF m 25 #[rv a1, .val .null, rv a2, rv a3, .val .null, rv a4, .val .null] [(.ref a1)])) rfl rfl (hb hby own_dst2_2_25)
  refine own_s T56 (mkF m 28 #[rv a1, .val .null, rv a2, rv a3, .val .null, rv a4, .val .null] [(.ref rt)]) st56 ?_
  refine own_s T56 (mkF m 41 #[rv a1, .val .null, rv a2, rv a3, .val .null, rv a4, .val .null] [(.ref a1), (.ref a1)]) (fun _ k => XS.ifnonnullYes X56.here hx rfl (pc0 := 28) (pc' := 39) rfl (hb hby own_dst2_2_28) rfl (by decide) (by decide) (XS.aloadN X56.here hx rfl (hb hby own_dst2_2_39) rfl rfl (XS.dup X56.here hx rfl (hb hby own_dst2_2_40) rfl rfl k))) ?_
  obtain ⟨T57, X57, e57, st57⟩ := getF X56 hx hZ hown (host := "") (Or.inl (own_h hw 70 rfl)) Via.refl e56 f42 (g := (mkF m 41 #[rv a1, .val .null, rv a2, rv a3, .val .null, rv a4, .val .null] [(.ref a1), (.ref a1)])) rfl rfl (hb hby own_dst2_2_41)
  refine own_s T57 (mkF m 44 #[rv a1, .val .null, rv a2, rv a3, .val .null, rv a4, .val .null] [(.int 2), (.ref a1)]) st57 ?_
  refine own_s T57 (mkF m 46 #[rv a1, .val .null, rv a2, rv a3, .val .null, rv a4, .val .null] [(.int 3), (.ref a1)]) (fun _ k => XS.iconst X57.here hx rfl (hb hby own_dst2_2_44) (XS.iadd X57.here hx rfl (hb hby own_dst2_2_45) rfl k)) ?_
  obtain ⟨T58, h58, X58, e58, W58, st58⟩ := putF X57 hx hZ hown (host := "") (Or.inl (own_h hw 70 rfl)) Via.refl e57 f42 f40 (Or.inl (own_h hw 71 rfl)) (own_h hw 2 rfl) (ty := .int) (by decide) rfl rfl (g := (mkF m 46 #[rv a1, .val .null, rv a2, rv a3, .val .null, rv a4, .val .null] [(.int 3), (.ref a1)])) rfl rfl (hb hby own_dst2_2_46)
  have Fw58 := Fld.same W58 f42
  have f59 := Exa.wr W58 f40
  have f60 := Fld.other W58 Fw39 (Or.inr (slot_ne (Or.inl (own_h hw 36 rfl)) (Or.inl (own_h hw 71 rfl)) (by decide) (t := (.object "com/example/tagwright/tagwright/XmlElement")) (t' := .int) (by decide) (by decide)))
  have f61 := Fld.other W58 f41 (Or.inr (slot_ne (Or.inl (own_h hw 69 rfl)) (Or.inl (own_h hw 71 rfl)) (by decide) (t := (.object "com/example/tagwright/tagwright/XmlElement")) (t' := .int) (by decide) (by decide)))
  have f62 := Sta.wr W58 f43
  have f63 := Sta.wr W58 f44
  have f64 := f45.other W58 (Ne.symm pr8)
  have f65 := Exa.wr W58 f46
  have f66 := Fld.other W58 f47 (Or.inl (Ne.symm pr23))
  have f67 := Exa.wr W58 f48
  have f68 := Exa.wr W58 f49
  have f69 := Fld.other W58 f50 (Or.inl (Ne.symm ne_a1_b1))
  have f70 := Fld.other W58 f51 (Or.inl (Ne.symm ne_a1_b1))
  have f71 := Fld.other W58 f52 (Or.inl (Ne.symm pr24))
  have f72 := Fld.other W58 f53 (Or.inl (Ne.symm pr24))
  have f73 := Fld.other W58 f54 (Or.inl (Ne.symm pr24))
  have f74 := f55.other W58 (Ne.symm pr25)
  have K58 : Keep h0 h58 [a1, li, d] := K39.wr W58 (Or.inl (List.mem_of_getElem? (i := 0) rfl))
  have Z58 := Nat.le_trans Z39 (Nat.le_of_eq W58.size.symm)
  have N58 := Fr.snoc X58 N39 g_a1
  refine own_s T58 (mkF m 49 #[rv a1, .val .null, rv a2, rv a3, .val .null, rv a4, .val .null] []) st58 ?_
  exact own_finV X58 hx hret (hb hby own_dst2_2_49) (own_end (Qv := (own_Qst2_2 Z a1 a2 a3 a4 pr rt oN oA ka li d kd x0 h0 n0)) X58 (fun _ => rfl) hlk (by decide) (by decide) e58 ⟨b1, rfl, N58, K58, g_b1, sz_b1, f59, f60, f61, Fw58, f68, f69, f70, f67, f71, f72, f73, f74⟩)
abbrev own_y18 : MethodName := ⟨"com/example/tagwright/tagwright/XmlElement", "parent", "()Lcom/example/tagwright/tagwright/XmlElement;"⟩
theorem own_dgpar_0 : decode prog_100_method_11_code 0 = .ok (.aload_n 0, 1) := by decide +kernel
theorem own_dgpar_1 : decode prog_100_method_11_code 1 = .ok (.getfield 48, 3) := by decide +kernel
theorem own_dgpar_4 : decode prog_100_method_11_code 4 = .ok (.areturn, 1) := by decide +kernel
theorem own_efgpar (m : MethodId) (x0 : Addr) : entryFrame m #[(.ref x0)] 1 = mkF m 0 #[rv x0] [] := by first | (simp [entryFrame, mkF, argsToLocals, Value.category]; done) | rfl
def own_Qgpar (Z : State) (a1 : Addr) (w : Value) (h0 : Heap) (n0 : Nat) : Option Value → Heap → List Loc → Prop := fun v h L => v = some w ∧ Fr n0 L ∧ h = h0
def own_Rgpar : Room := { frames := 0, cells := 0, slots := 0, locals := 0 }
set_option maxRecDepth 65536 in
set_option maxHeartbeats 40000000 in
theorem own_rmgpar (l : Launch) (Z : State) (a0 : Array Value) (hw : ∀ d ∈ tables_1, d.before a0 Z = true) (ws : List Jvm.Cond) (a1 : Addr) (w : Value) (h0 : Heap) (n0 : Nat) (Z0 : n0 ≤ h0.size) (F1 : Fld Z h0 a1 "com/example/tagwright/tagwright/XmlElement" "parent" "Lcom/example/tagwright/tagwright/XmlElement;" w) (rw : w.isRef = true) :
    own_Met l Z own_y18 prog_100_method_11_code 1 (some (.object "com/example/tagwright/tagwright/XmlElement")) ws own_Rgpar h0 #[(.ref a1)] (own_Qgpar Z a1 w h0 n0) own_Rgpar.cells own_Rgpar.slots := by
  refine own_start (plainFor_of_name own_pn6) ?_
  intro p e s m below meth c s₁ X0 hx hZ hby hml hret hlk hown hnm e0
  have hown : s.vm.findClass "com/example/tagwright/tagwright/XmlElement" = some m.cls := hown
  have hml : c.maxLocals = 1 := hml
  have N0 := Fr.nil n0
  refine own_cast (own_efgpar m a1) ?_
  refine own_s s₁ (mkF m 1 #[rv a1] [(.ref a1)]) (fun _ k => XS.aloadN X0.here hx rfl (hb hby own_dgpar_0) rfl rfl k) ?_
  obtain ⟨T1, X1, e1, st1⟩ := getF X0 hx hZ hown (host := "") (Or.inl (own_h hw 64 rfl)) Via.refl e0 F1 (g := (mkF m 1 #[rv a1] [(.ref a1)])) rfl rfl (hb hby own_dgpar_1)
  refine own_s T1 (mkF m 4 #[rv a1] [w]) st1 ?_
  exact own_finA X1 hx hret rfl rw (hb hby own_dgpar_4) (own_end (Qv := (own_Qgpar Z a1 w h0 n0)) X1 (own_some hret) hlk (by decide) (by decide) e1 ⟨rfl, N0, rfl⟩)
abbrev own_y19 : MethodName := ⟨"com/example/tagwright/tagwright/XmlElement", "children", "()Ljava/util/List;"⟩
theorem own_dgch_0 : decode prog_100_method_24_code 0 = .ok (.aload_n 0, 1) := by decide +kernel
theorem own_dgch_1 : decode prog_100_method_24_code 1 = .ok (.getfield 13, 3) := by decide +kernel
theorem own_dgch_4 : decode prog_100_method_24_code 4 = .ok (.areturn, 1) := by decide +kernel
theorem own_efgch (m : MethodId) (x0 : Addr) : entryFrame m #[(.ref x0)] 1 = mkF m 0 #[rv x0] [] := by first | (simp [entryFrame, mkF, argsToLocals, Value.category]; done) | rfl
def own_Qgch (Z : State) (a1 : Addr) (w : Addr) (h0 : Heap) (n0 : Nat) : Option Value → Heap → List Loc → Prop := fun v h L => v = some (.ref w) ∧ Fr n0 L ∧ h = h0
def own_Rgch : Room := { frames := 0, cells := 0, slots := 0, locals := 0 }
set_option maxRecDepth 65536 in
set_option maxHeartbeats 40000000 in
theorem own_rmgch (l : Launch) (Z : State) (a0 : Array Value) (hw : ∀ d ∈ tables_1, d.before a0 Z = true) (ws : List Jvm.Cond) (a1 : Addr) (w : Addr) (h0 : Heap) (n0 : Nat) (Z0 : n0 ≤ h0.size) (F1 : Fld Z h0 a1 "com/example/tagwright/tagwright/XmlElement" "children" "Ljava/util/List;" (.ref w)) :
    own_Met l Z own_y19 prog_100_method_24_code 1 (some (.object "java/util/List")) ws own_Rgch h0 #[(.ref a1)] (own_Qgch Z a1 w h0 n0) own_Rgch.cells own_Rgch.slots := by
  refine own_start (plainFor_of_name own_pn6) ?_
  intro p e s m below meth c s₁ X0 hx hZ hby hml hret hlk hown hnm e0
  have hown : s.vm.findClass "com/example/tagwright/tagwright/XmlElement" = some m.cls := hown
  have hml : c.maxLocals = 1 := hml
  have N0 := Fr.nil n0
  refine own_cast (own_efgch m a1) ?_
  refine own_s s₁ (mkF m 1 #[rv a1] [(.ref a1)]) (fun _ k => XS.aloadN X0.here hx rfl (hb hby own_dgch_0) rfl rfl k) ?_
  obtain ⟨T1, X1, e1, st1⟩ := getF X0 hx hZ hown (host := "") (Or.inl (own_h hw 43 rfl)) Via.refl e0 F1 (g := (mkF m 1 #[rv a1] [(.ref a1)])) rfl rfl (hb hby own_dgch_1)
  refine own_s T1 (mkF m 4 #[rv a1] [(.ref w)]) st1 ?_
  exact own_finA X1 hx hret rfl rfl (hb hby own_dgch_4) (own_end (Qv := (own_Qgch Z a1 w h0 n0)) X1 (own_some hret) hlk (by decide) (by decide) e1 ⟨rfl, N0, rfl⟩)
abbrev own_y20 : MethodName := ⟨"com/example/tagwright/tagwright/XmlTree", "depth", "()I"⟩
theorem own_dgdp_0 : decode prog_111_method_8_code 0 = .ok (.aload_n 0, 1) := by decide +kernel
theorem own_dgdp_1 : decode prog_111_method_8_code 1 = .ok (.getfield 33, 3) := by decide +kernel
theorem own_dgdp_4 : decode prog_111_method_8_code 4 = .ok (.ireturn, 1) := by decide +kernel
theorem own_efgdp (m : MethodId) (x0 : Addr) : entryFrame m #[(.ref x0)] 1 = mkF m 0 #[rv x0] [] := by first | (simp [entryFrame, mkF, argsToLocals, Value.category]; done) | rfl
def own_Qgdp (Z : State) (a1 : Addr) (w : Int32) (h0 : Heap) (n0 : Nat) : Option Value → Heap → List Loc → Prop := fun v h L => v = some (.int w) ∧ Fr n0 L ∧ h = h0
def own_Rgdp : Room := { frames := 0, cells := 0, slots := 0, locals := 0 }
set_option maxRecDepth 65536 in
set_option maxHeartbeats 40000000 in
theorem own_rmgdp (l : Launch) (Z : State) (a0 : Array Value) (hw : ∀ d ∈ tables_1, d.before a0 Z = true) (ws : List Jvm.Cond) (a1 : Addr) (w : Int32) (h0 : Heap) (n0 : Nat) (Z0 : n0 ≤ h0.size) (F1 : Fld Z h0 a1 "com/example/tagwright/tagwright/XmlTree" "depth" "I" (.int w)) :
    own_Met l Z own_y20 prog_111_method_8_code 1 (some .int) ws own_Rgdp h0 #[(.ref a1)] (own_Qgdp Z a1 w h0 n0) own_Rgdp.cells own_Rgdp.slots := by
  refine own_start (plainFor_of_name own_pn7) ?_
  intro p e s m below meth c s₁ X0 hx hZ hby hml hret hlk hown hnm e0
  have hown : s.vm.findClass "com/example/tagwright/tagwright/XmlTree" = some m.cls := hown
  have hml : c.maxLocals = 1 := hml
  have N0 := Fr.nil n0
  refine own_cast (own_efgdp m a1) ?_
  refine own_s s₁ (mkF m 1 #[rv a1] [(.ref a1)]) (fun _ k => XS.aloadN X0.here hx rfl (hb hby own_dgdp_0) rfl rfl k) ?_
  obtain ⟨T1, X1, e1, st1⟩ := getF X0 hx hZ hown (host := "") (Or.inl (own_h hw 70 rfl)) Via.refl e0 F1 (g := (mkF m 1 #[rv a1] [(.ref a1)])) rfl rfl (hb hby own_dgdp_1)
  refine own_s T1 (mkF m 4 #[rv a1] [(.int w)]) st1 ?_
  exact own_finI X1 hx hret (hb hby own_dgdp_4) (own_end (Qv := (own_Qgdp Z a1 w h0 n0)) X1 (own_some hret) hlk (by decide) (by decide) e1 ⟨rfl, N0, rfl⟩)
abbrev own_y21 : MethodName := ⟨"com/example/tagwright/tagwright/XmlTree", "root", "()Lcom/example/tagwright/tagwright/XmlElement;"⟩
theorem own_dgrt_0 : decode prog_111_method_9_code 0 = .ok (.aload_n 0, 1) := by decide +kernel
theorem own_dgrt_1 : decode prog_111_method_9_code 1 = .ok (.getfield 30, 3) := by decide +kernel
theorem own_dgrt_4 : decode prog_111_method_9_code 4 = .ok (.areturn, 1) := by decide +kernel
theorem own_efgrt (m : MethodId) (x0 : Addr) : entryFrame m #[(.ref x0)] 1 = mkF m 0 #[rv x0] [] := by first | (simp [entryFrame, mkF, argsToLocals, Value.category]; done) | rfl
def own_Qgrt (Z : State) (a1 : Addr) (w : Addr) (h0 : Heap) (n0 : Nat) : Option Value → Heap → List Loc → Prop := fun v h L => v = some (.ref w) ∧ Fr n0 L ∧ h = h0
def own_Rgrt : Room := { frames := 0, cells := 0, slots := 0, locals := 0 }
set_option maxRecDepth 65536 in
set_option maxHeartbeats 40000000 in
theorem own_rmgrt (l : Launch) (Z : State) (a0 : Array Value) (hw : ∀ d ∈ tables_1, d.before a0 Z = true) (ws : List Jvm.Cond) (a1 : Addr) (w : Addr) (h0 : Heap) (n0 : Nat) (Z0 : n0 ≤ h0.size) (F1 : Fld Z h0 a1 "com/example/tagwright/tagwright/XmlTree" "root" "Lcom/example/tagwright/tagwright/XmlElement;" (.ref w)) :
    own_Met l Z own_y21 prog_111_method_9_code 1 (some (.object "com/example/tagwright/tagwright/XmlElement")) ws own_Rgrt h0 #[(.ref a1)] (own_Qgrt Z a1 w h0 n0) own_Rgrt.cells own_Rgrt.slots := by
  refine own_start (plainFor_of_name own_pn7) ?_
  intro p e s m below meth c s₁ X0 hx hZ hby hml hret hlk hown hnm e0
  have hown : s.vm.findClass "com/example/tagwright/tagwright/XmlTree" = some m.cls := hown
  have hml : c.maxLocals = 1 := hml
  have N0 := Fr.nil n0
  refine own_cast (own_efgrt m a1) ?_
  refine own_s s₁ (mkF m 1 #[rv a1] [(.ref a1)]) (fun _ k => XS.aloadN X0.here hx rfl (hb hby own_dgrt_0) rfl rfl k) ?_
  obtain ⟨T1, X1, e1, st1⟩ := getF X0 hx hZ hown (host := "") (Or.inl (own_h hw 68 rfl)) Via.refl e0 F1 (g := (mkF m 1 #[rv a1] [(.ref a1)])) rfl rfl (hb hby own_dgrt_1)
  refine own_s T1 (mkF m 4 #[rv a1] [(.ref w)]) st1 ?_
  exact own_finA X1 hx hret rfl rfl (hb hby own_dgrt_4) (own_end (Qv := (own_Qgrt Z a1 w h0 n0)) X1 (own_some hret) hlk (by decide) (by decide) e1 ⟨rfl, N0, rfl⟩)
theorem own_pd11 : parseMethodDescriptor "()Lcom/example/tagwright/tagwright/XmlElement;" = some ⟨[], some (.object "com/example/tagwright/tagwright/XmlElement")⟩ := by decide +kernel
abbrev own_y22 : MethodName := ⟨"com/example/tagwright/tagwright/XmlTree", "end", "()V"⟩
theorem own_dend1_0 : decode prog_111_method_3_code 0 = .ok (.aload_n 0, 1) := by decide +kernel
theorem own_dend1_1 : decode prog_111_method_3_code 1 = .ok (.aload_n 0, 1) := by decide +kernel
theorem own_dend1_2 : decode prog_111_method_3_code 2 = .ok (.getfield 23, 3) := by decide +kernel
theorem own_dend1_5 : decode prog_111_method_3_code 5 = .ok (.invokevirtual 37, 3) := by decide +kernel
theorem own_dend1_8 : decode prog_111_method_3_code 8 = .ok (.putfield 23, 3) := by decide +kernel
theorem own_dend1_11 : decode prog_111_method_3_code 11 = .ok (.aload_n 0, 1) := by decide +kernel
theorem own_dend1_12 : decode prog_111_method_3_code 12 = .ok (.dup, 1) := by decide +kernel
theorem own_dend1_13 : decode prog_111_method_3_code 13 = .ok (.getfield 33, 3) := by decide +kernel
theorem own_dend1_16 : decode prog_111_method_3_code 16 = .ok (.iconst 1, 1) := by decide +kernel
theorem own_dend1_17 : decode prog_111_method_3_code 17 = .ok (.isub, 1) := by decide +kernel
theorem own_dend1_18 : decode prog_111_method_3_code 18 = .ok (.putfield 33, 3) := by decide +kernel
theorem own_dend1_21 : decode prog_111_method_3_code 21 = .ok (.return_, 1) := by decide +kernel
theorem own_efend1 (m : MethodId) (x0 : Addr) : entryFrame m #[(.ref x0)] 1 = mkF m 0 #[rv x0] [] := by first | (simp [entryFrame, mkF, argsToLocals, Value.category]; done) | rfl
def own_Qend1 (Z : State) (a1 : Addr) (cu : Addr) (rt : Addr) (w : Value) (h0 : Heap) (n0 : Nat) : Option Value → Heap → List Loc → Prop := fun v h L => v = none ∧ Fr n0 L ∧ Keep h0 h [a1] ∧ Exa Z h a1 "com/example/tagwright/tagwright/XmlTree" ∧ Fld Z h a1 "com/example/tagwright/tagwright/XmlTree" "current" "Lcom/example/tagwright/tagwright/XmlElement;" w ∧ Fld Z h a1 "com/example/tagwright/tagwright/XmlTree" "root" "Lcom/example/tagwright/tagwright/XmlElement;" (.ref rt) ∧ Fld Z h a1 "com/example/tagwright/tagwright/XmlTree" "depth" "I" (.int 0)
def own_Rend1 : Room := { frames := 1, cells := 0, slots := 0, locals := 13 }
set_option maxRecDepth 65536 in
set_option maxHeartbeats 40000000 in
theorem own_rmend1 (l : Launch) (Z : State) (a0 : Array Value) (hw : ∀ d ∈ tables_1, d.before a0 Z = true) (ws : List Jvm.Cond) (a1 : Addr) (cu : Addr) (rt : Addr) (w : Value) (h0 : Heap) (n0 : Nat) (Z0 : n0 ≤ h0.size) (g_a1 : n0 ≤ a1) (pr1 : Exa Z h0 a1 "com/example/tagwright/tagwright/XmlTree") (pr2 : Fld Z h0 a1 "com/example/tagwright/tagwright/XmlTree" "current" "Lcom/example/tagwright/tagwright/XmlElement;" (.ref cu)) (pr3 : Fld Z h0 a1 "com/example/tagwright/tagwright/XmlTree" "root" "Lcom/example/tagwright/tagwright/XmlElement;" (.ref rt)) (pr4 : Fld Z h0 a1 "com/example/tagwright/tagwright/XmlTree" "depth" "I" (.int 1)) (pr5 : Exa Z h0 cu "com/example/tagwright/tagwright/XmlElement") (pr6 : Fld Z h0 cu "com/example/tagwright/tagwright/XmlElement" "parent" "Lcom/example/tagwright/tagwright/XmlElement;" w) (pr7 : a1 ≠ cu) (rw : w.isRef = true) :
    own_Met l Z own_y22 prog_111_method_3_code 1 none ws own_Rend1 h0 #[(.ref a1)] (own_Qend1 Z a1 cu rt w h0 n0) own_Rend1.cells own_Rend1.slots := by
  refine own_start (plainFor_of_name own_pn7) ?_
  intro p e s m below meth c s₁ X0 hx hZ hby hml hret hlk hown hnm e0
  have hown : s.vm.findClass "com/example/tagwright/tagwright/XmlTree" = some m.cls := hown
  have hml : c.maxLocals = 1 := hml
  have N0 := Fr.nil n0
  refine own_cast (own_efend1 m a1) ?_
  refine own_s s₁ (mkF m 2 #[rv a1] [(.ref a1), (.ref a1)]) (fun _ k => XS.aloadN X0.here hx rfl (hb hby own_dend1_0) rfl rfl (XS.aloadN X0.here hx rfl (hb hby own_dend1_1) rfl rfl k)) ?_
  obtain ⟨T1, X1, e1, st1⟩ := getF X0 hx hZ hown (host := "") (Or.inl (own_h hw 35 rfl)) Via.refl e0 pr2 (g := (mkF m 2 #[rv a1] [(.ref a1), (.ref a1)])) rfl rfl (hb hby own_dend1_2)
  refine own_s T1 (mkF m 5 #[rv a1] [(.ref cu), (.ref a1)]) st1 ?_
  obtain ⟨v2, T2, L2, X2, hQ2, st2⟩ := own_callV X1 hx hZ (y := own_y18) (z := own_y18) (W := 1) (a := cu) hown (own_h hw 77 rfl) (own_h hw 78 rfl) (notFace_of_selects (args := #[]) (mvT hZ (own_h hw 80 rfl))) (own_h hw 80 rfl) (own_h hw 79 rfl) (own_h hw 34 rfl) (own_h hw 81 rfl) (by decide) (own_rmgpar l Z a0 hw [] cu w h0 n0 Z0 pr6 rw) (by decide) (by decide) pr5 (g := (mkF m 5 #[rv a1] [(.ref cu), (.ref a1)])) rfl (by rw [hml]; rfl) (argsL := []) (rest := [(.ref a1)]) rfl (lenOf own_pd11 rfl) rfl (by show 2 * 0 + _ ≤ _; exact Nat.le_of_eq rfl) (hb hby own_dend1_5) e1 (by decide) (by decide)
  obtain ⟨rfl, Nq2, e2⟩ := hQ2
  have N2 := Fr.app N0 Nq2
  refine own_s T2 (mkF m 8 #[rv a1] [w, (.ref a1)]) st2 ?_
  obtain ⟨T3, h3, X3, e3, W3, st3⟩ := putF X2 hx hZ hown (host := "") (Or.inl (own_h hw 35 rfl)) Via.refl e2 pr2 pr1 (Or.inl (own_h hw 36 rfl)) (own_h hw 2 rfl) (ty := (.object "com/example/tagwright/tagwright/XmlElement")) (by decide) (own_narR rw) (own_fitR rw) (g := (mkF m 8 #[rv a1] [w, (.ref a1)])) rfl rfl (hb hby own_dend1_8)
  have Fw3 := Fld.same W3 pr2
  have f4 := Exa.wr W3 pr1
  have f5 := Fld.other W3 pr3 (Or.inr (slot_ne (Or.inl (own_h hw 69 rfl)) (Or.inl (own_h hw 36 rfl)) (by decide) (t := (.object "com/example/tagwright/tagwright/XmlElement")) (t' := (.object "com/example/tagwright/tagwright/XmlElement")) (by decide) (by decide)))
  have f6 := Fld.other W3 pr4 (Or.inr (slot_ne (Or.inl (own_h hw 71 rfl)) (Or.inl (own_h hw 36 rfl)) (by decide) (t := .int) (t' := (.object "com/example/tagwright/tagwright/XmlElement")) (by decide) (by decide)))
  have f7 := Exa.wr W3 pr5
  have f8 := Fld.other W3 pr6 (Or.inl (Ne.symm pr7))
  have K3 : Keep h0 h3 [a1] := (Keep.refl h0 [a1]).wr W3 (Or.inl (List.mem_of_getElem? (i := 0) rfl))
  have Z3 := Nat.le_trans Z0 (Nat.le_of_eq W3.size.symm)
  have N3 := Fr.snoc X3 N2 g_a1
  refine own_s T3 (mkF m 11 #[rv a1] []) st3 ?_
  refine own_s T3 (mkF m 13 #[rv a1] [(.ref a1), (.ref a1)]) (fun _ k => XS.aloadN X3.here hx rfl (hb hby own_dend1_11) rfl rfl (XS.dup X3.here hx rfl (hb hby own_dend1_12) rfl rfl k)) ?_
  obtain ⟨T9, X9, e9, st9⟩ := getF X3 hx hZ hown (host := "") (Or.inl (own_h hw 70 rfl)) Via.refl e3 f6 (g := (mkF m 13 #[rv a1] [(.ref a1), (.ref a1)])) rfl rfl (hb hby own_dend1_13)
  refine own_s T9 (mkF m 16 #[rv a1] [(.int 1), (.ref a1)]) st9 ?_
  refine own_s T9 (mkF m 18 #[rv a1] [(.int 0), (.ref a1)]) (fun _ k => XS.iconst X9.here hx rfl (hb hby own_dend1_16) (XS.isub X9.here hx rfl (hb hby own_dend1_17) rfl k)) ?_
  obtain ⟨T10, h10, X10, e10, W10, st10⟩ := putF X9 hx hZ hown (host := "") (Or.inl (own_h hw 70 rfl)) Via.refl e9 f6 f4 (Or.inl (own_h hw 71 rfl)) (own_h hw 2 rfl) (ty := .int) (by decide) rfl rfl (g := (mkF m 18 #[rv a1] [(.int 0), (.ref a1)])) rfl rfl (hb hby own_dend1_18)
  have Fw10 := Fld.same W10 f6
  have f11 := Exa.wr W10 f4
  have f12 := Fld.other W10 Fw3 (Or.inr (slot_ne (Or.inl (own_h hw 36 rfl)) (Or.inl (own_h hw 71 rfl)) (by decide) (t := (.object "com/example/tagwright/tagwright/XmlElement")) (t' := .int) (by decide) (by decide)))
  have f13 := Fld.other W10 f5 (Or.inr (slot_ne (Or.inl (own_h hw 69 rfl)) (Or.inl (own_h hw 71 rfl)) (by decide) (t := (.object "com/example/tagwright/tagwright/XmlElement")) (t' := .int) (by decide) (by decide)))
  have f14 := Exa.wr W10 f7
  have f15 := Fld.other W10 f8 (Or.inl (Ne.symm pr7))
  have K10 : Keep h0 h10 [a1] := K3.wr W10 (Or.inl (List.mem_of_getElem? (i := 0) rfl))
  have Z10 := Nat.le_trans Z3 (Nat.le_of_eq W10.size.symm)
  have N10 := Fr.snoc X10 N3 g_a1
  refine own_s T10 (mkF m 21 #[rv a1] []) st10 ?_
  exact own_finV X10 hx hret (hb hby own_dend1_21) (own_end (Qv := (own_Qend1 Z a1 cu rt w h0 n0)) X10 (fun _ => rfl) hlk (by decide) (by decide) e10 ⟨rfl, N10, K10, f11, f12, f13, Fw10⟩)
theorem own_dend2_0 : decode prog_111_method_3_code 0 = .ok (.aload_n 0, 1) := by decide +kernel
theorem own_dend2_1 : decode prog_111_method_3_code 1 = .ok (.aload_n 0, 1) := by decide +kernel
theorem own_dend2_2 : decode prog_111_method_3_code 2 = .ok (.getfield 23, 3) := by decide +kernel
theorem own_dend2_5 : decode prog_111_method_3_code 5 = .ok (.invokevirtual 37, 3) := by decide +kernel
theorem own_dend2_8 : decode prog_111_method_3_code 8 = .ok (.putfield 23, 3) := by decide +kernel
theorem own_dend2_11 : decode prog_111_method_3_code 11 = .ok (.aload_n 0, 1) := by decide +kernel
theorem own_dend2_12 : decode prog_111_method_3_code 12 = .ok (.dup, 1) := by decide +kernel
theorem own_dend2_13 : decode prog_111_method_3_code 13 = .ok (.getfield 33, 3) := by decide +kernel
theorem own_dend2_16 : decode prog_111_method_3_code 16 = .ok (.iconst 1, 1) := by decide +kernel
theorem own_dend2_17 : decode prog_111_method_3_code 17 = .ok (.isub, 1) := by decide +kernel
theorem own_dend2_18 : decode prog_111_method_3_code 18 = .ok (.putfield 33, 3) := by decide +kernel
theorem own_dend2_21 : decode prog_111_method_3_code 21 = .ok (.return_, 1) := by decide +kernel
theorem own_efend2 (m : MethodId) (x0 : Addr) : entryFrame m #[(.ref x0)] 1 = mkF m 0 #[rv x0] [] := by first | (simp [entryFrame, mkF, argsToLocals, Value.category]; done) | rfl
def own_Qend2 (Z : State) (a1 : Addr) (cu : Addr) (rt : Addr) (w : Value) (h0 : Heap) (n0 : Nat) : Option Value → Heap → List Loc → Prop := fun v h L => v = none ∧ Fr n0 L ∧ Keep h0 h [a1] ∧ Exa Z h a1 "com/example/tagwright/tagwright/XmlTree" ∧ Fld Z h a1 "com/example/tagwright/tagwright/XmlTree" "current" "Lcom/example/tagwright/tagwright/XmlElement;" w ∧ Fld Z h a1 "com/example/tagwright/tagwright/XmlTree" "root" "Lcom/example/tagwright/tagwright/XmlElement;" (.ref rt) ∧ Fld Z h a1 "com/example/tagwright/tagwright/XmlTree" "depth" "I" (.int 1)
def own_Rend2 : Room := { frames := 1, cells := 0, slots := 0, locals := 13 }
set_option maxRecDepth 65536 in
set_option maxHeartbeats 40000000 in
theorem own_rmend2 (l : Launch) (Z : State) (a0 : Array Value) (hw : ∀ d ∈ tables_1, d.before a0 Z = true) (ws : List Jvm.Cond) (a1 : Addr) (cu : Addr) (rt : Addr) (w : Value) (h0 : Heap) (n0 : Nat) (Z0 : n0 ≤ h0.size) (g_a1 : n0 ≤ a1) (pr1 : Exa Z h0 a1 "com/example/tagwright/tagwright/XmlTree") (pr2 : Fld Z h0 a1 "com/example/tagwright/tagwright/XmlTree" "current" "Lcom/example/tagwright/tagwright/XmlElement;" (.ref cu)) (pr3 : Fld Z h0 a1 "com/example/tagwright/tagwright/XmlTree" "root" "Lcom/example/tagwright/tagwright/XmlElement;" (.ref rt)) (pr4 : Fld Z h0 a1 "com/example/tagwright/tagwright/XmlTree" "depth" "I" (.int 2)) (pr5 : Exa Z h0 cu "com/example/tagwright/tagwright/XmlElement") (pr6 : Fld Z h0 cu "com/example/tagwright/tagwright/XmlElement" "parent" "Lcom/example/tagwright/tagwright/XmlElement;" w) (pr7 : a1 ≠ cu) (rw : w.isRef = true) :
    own_Met l Z own_y22 prog_111_method_3_code 1 none ws own_Rend2 h0 #[(.ref a1)] (own_Qend2 Z a1 cu rt w h0 n0) own_Rend2.cells own_Rend2.slots := by
  refine own_start (plainFor_of_name own_pn7) ?_
  intro p e s m below meth c s₁ X0 hx hZ hby hml hret hlk hown hnm e0
  have hown : s.vm.findClass "com/example/tagwright/tagwright/XmlTree" = some m.cls := hown
  have hml : c.maxLocals = 1 := hml
  have N0 := Fr.nil n0
  refine own_cast (own_efend2 m a1) ?_
  refine own_s s₁ (mkF m 2 #[rv a1] [(.ref a1), (.ref a1)]) (fun _ k => XS.aloadN X0.here hx rfl (hb hby own_dend2_0) rfl rfl (XS.aloadN X0.here hx rfl (hb hby own_dend2_1) rfl rfl k)) ?_
  obtain ⟨T1, X1, e1, st1⟩ := getF X0 hx hZ hown (host := "") (Or.inl (own_h hw 35 rfl)) Via.refl e0 pr2 (g := (mkF m 2 #[rv a1] [(.ref a1), (.ref a1)])) rfl rfl (hb hby own_dend2_2)
  refine own_s T1 (mkF m 5 #[rv a1] [(.ref cu), (.ref a1)]) st1 ?_
  obtain ⟨v2, T2, L2, X2, hQ2, st2⟩ := own_callV X1 hx hZ (y := own_y18) (z := own_y18) (W := 1) (a := cu) hown (own_h hw 77 rfl) (own_h hw 78 rfl) (notFace_of_selects (args := #[]) (mvT hZ (own_h hw 80 rfl))) (own_h hw 80 rfl) (own_h hw 79 rfl) (own_h hw 34 rfl) (own_h hw 81 rfl) (by decide) (own_rmgpar l Z a0 hw [] cu w h0 n0 Z0 pr6 rw) (by decide) (by decide) pr5 (g := (mkF m 5 #[rv a1] [(.ref cu), (.ref a1)])) rfl (by rw [hml]; rfl) (argsL := []) (rest := [(.ref a1)]) rfl (lenOf own_pd11 rfl) rfl (by show 2 * 0 + _ ≤ _; exact Nat.le_of_eq rfl) (hb hby own_dend2_5) e1 (by decide) (by decide)
  obtain ⟨rfl, Nq2, e2⟩ := hQ2
  have N2 := Fr.app N0 Nq2
  refine own_s T2 (mkF m 8 #[rv a1] [w, (.ref a1)]) st2 ?_
  obtain ⟨T3, h3, X3, e3, W3, st3⟩ := putF X2 hx hZ hown (host := "") (Or.inl (own_h hw 35 rfl)) Via.refl e2 pr2 pr1 (Or.inl (own_h hw 36 rfl)) (own_h hw 2 rfl) (ty := (.object "com/example/tagwright/tagwright/XmlElement")) (by decide) (own_narR rw) (own_fitR rw) (g := (mkF m 8 #[rv a1] [w, (.ref a1)])) rfl rfl (hb hby own_dend2_8)
  have Fw3 := Fld.same W3 pr2
  have f4 := Exa.wr W3 pr1
  have f5 := Fld.other W3 pr3 (Or.inr (slot_ne (Or.inl (own_h hw 69 rfl)) (Or.inl (own_h hw 36 rfl)) (by decide) (t := (.object "com/example/tagwright/tagwright/XmlElement")) (t' := (.object "com/example/tagwright/tagwright/XmlElement")) (by decide) (by decide)))
  have f6 := Fld.other W3 pr4 (Or.inr (slot_ne (Or.inl (own_h hw 71 rfl)) (Or.inl (own_h hw 36 rfl)) (by decide) (t := .int) (t' := (.object "com/example/tagwright/tagwright/XmlElement")) (by decide) (by decide)))
  have f7 := Exa.wr W3 pr5
  have f8 := Fld.other W3 pr6 (Or.inl (Ne.symm pr7))
  have K3 : Keep h0 h3 [a1] := (Keep.refl h0 [a1]).wr W3 (Or.inl (List.mem_of_getElem? (i := 0) rfl))
  have Z3 := Nat.le_trans Z0 (Nat.le_of_eq W3.size.symm)
  have N3 := Fr.snoc X3 N2 g_a1
  refine own_s T3 (mkF m 11 #[rv a1] []) st3 ?_
  refine own_s T3 (mkF m 13 #[rv a1] [(.ref a1), (.ref a1)]) (fun _ k => XS.aloadN X3.here hx rfl (hb hby own_dend2_11) rfl rfl (XS.dup X3.here hx rfl (hb hby own_dend2_12) rfl rfl k)) ?_
  obtain ⟨T9, X9, e9, st9⟩ := getF X3 hx hZ hown (host := "") (Or.inl (own_h hw 70 rfl)) Via.refl e3 f6 (g := (mkF m 13 #[rv a1] [(.ref a1), (.ref a1)])) rfl rfl (hb hby own_dend2_13)
  refine own_s T9 (mkF m 16 #[rv a1] [(.int 2), (.ref a1)]) st9 ?_
  refine own_s T9 (mkF m 18 #[rv a1] [(.int 1), (.ref a1)]) (fun _ k => XS.iconst X9.here hx rfl (hb hby own_dend2_16) (XS.isub X9.here hx rfl (hb hby own_dend2_17) rfl k)) ?_
  obtain ⟨T10, h10, X10, e10, W10, st10⟩ := putF X9 hx hZ hown (host := "") (Or.inl (own_h hw 70 rfl)) Via.refl e9 f6 f4 (Or.inl (own_h hw 71 rfl)) (own_h hw 2 rfl) (ty := .int) (by decide) rfl rfl (g := (mkF m 18 #[rv a1] [(.int 1), (.ref a1)])) rfl rfl (hb hby own_dend2_18)
  have Fw10 := Fld.same W10 f6
  have f11 := Exa.wr W10 f4
  have f12 := Fld.other W10 Fw3 (Or.inr (slot_ne (Or.inl (own_h hw 36 rfl)) (Or.inl (own_h hw 71 rfl)) (by decide) (t := (.object "com/example/tagwright/tagwright/XmlElement")) (t' := .int) (by decide) (by decide)))
  have f13 := Fld.other W10 f5 (Or.inr (slot_ne (Or.inl (own_h hw 69 rfl)) (Or.inl (own_h hw 71 rfl)) (by decide) (t := (.object "com/example/tagwright/tagwright/XmlElement")) (t' := .int) (by decide) (by decide)))
  have f14 := Exa.wr W10 f7
  have f15 := Fld.other W10 f8 (Or.inl (Ne.symm pr7))
  have K10 : Keep h0 h10 [a1] := K3.wr W10 (Or.inl (List.mem_of_getElem? (i := 0) rfl))
  have Z10 := Nat.le_trans Z3 (Nat.le_of_eq W10.size.symm)
  have N10 := Fr.snoc X10 N3 g_a1
  refine own_s T10 (mkF m 21 #[rv a1] []) st10 ?_
  exact own_finV X10 hx hret (hb hby own_dend2_21) (own_end (Qv := (own_Qend2 Z a1 cu rt w h0 n0)) X10 (fun _ => rfl) hlk (by decide) (by decide) e10 ⟨rfl, N10, K10, f11, f12, f13, Fw10⟩)
theorem own_dend3_0 : decode prog_111_method_3_code 0 = .ok (.aload_n 0, 1) := by decide +kernel
theorem own_dend3_1 : decode prog_111_method_3_code 1 = .ok (.aload_n 0, 1) := by decide +kernel
theorem own_dend3_2 : decode prog_111_method_3_code 2 = .ok (.getfield 23, 3) := by decide +kernel
theorem own_dend3_5 : decode prog_111_method_3_code 5 = .ok (.invokevirtual 37, 3) := by decide +kernel
theorem own_dend3_8 : decode prog_111_method_3_code 8 = .ok (.putfield 23, 3) := by decide +kernel
theorem own_dend3_11 : decode prog_111_method_3_code 11 = .ok (.aload_n 0, 1) := by decide +kernel
theorem own_dend3_12 : decode prog_111_method_3_code 12 = .ok (.dup, 1) := by decide +kernel
theorem own_dend3_13 : decode prog_111_method_3_code 13 = .ok (.getfield 33, 3) := by decide +kernel
theorem own_dend3_16 : decode prog_111_method_3_code 16 = .ok (.iconst 1, 1) := by decide +kernel
theorem own_dend3_17 : decode prog_111_method_3_code 17 = .ok (.isub, 1) := by decide +kernel
theorem own_dend3_18 : decode prog_111_method_3_code 18 = .ok (.putfield 33, 3) := by decide +kernel
theorem own_dend3_21 : decode prog_111_method_3_code 21 = .ok (.return_, 1) := by decide +kernel
theorem own_efend3 (m : MethodId) (x0 : Addr) : entryFrame m #[(.ref x0)] 1 = mkF m 0 #[rv x0] [] := by first | (simp [entryFrame, mkF, argsToLocals, Value.category]; done) | rfl
def own_Qend3 (Z : State) (a1 : Addr) (cu : Addr) (rt : Addr) (w : Value) (h0 : Heap) (n0 : Nat) : Option Value → Heap → List Loc → Prop := fun v h L => v = none ∧ Fr n0 L ∧ Keep h0 h [a1] ∧ Exa Z h a1 "com/example/tagwright/tagwright/XmlTree" ∧ Fld Z h a1 "com/example/tagwright/tagwright/XmlTree" "current" "Lcom/example/tagwright/tagwright/XmlElement;" w ∧ Fld Z h a1 "com/example/tagwright/tagwright/XmlTree" "root" "Lcom/example/tagwright/tagwright/XmlElement;" (.ref rt) ∧ Fld Z h a1 "com/example/tagwright/tagwright/XmlTree" "depth" "I" (.int 2)
def own_Rend3 : Room := { frames := 1, cells := 0, slots := 0, locals := 13 }
set_option maxRecDepth 65536 in
set_option maxHeartbeats 40000000 in
theorem own_rmend3 (l : Launch) (Z : State) (a0 : Array Value) (hw : ∀ d ∈ tables_1, d.before a0 Z = true) (ws : List Jvm.Cond) (a1 : Addr) (cu : Addr) (rt : Addr) (w : Value) (h0 : Heap) (n0 : Nat) (Z0 : n0 ≤ h0.size) (g_a1 : n0 ≤ a1) (pr1 : Exa Z h0 a1 "com/example/tagwright/tagwright/XmlTree") (pr2 : Fld Z h0 a1 "com/example/tagwright/tagwright/XmlTree" "current" "Lcom/example/tagwright/tagwright/XmlElement;" (.ref cu)) (pr3 : Fld Z h0 a1 "com/example/tagwright/tagwright/XmlTree" "root" "Lcom/example/tagwright/tagwright/XmlElement;" (.ref rt)) (pr4 : Fld Z h0 a1 "com/example/tagwright/tagwright/XmlTree" "depth" "I" (.int 3)) (pr5 : Exa Z h0 cu "com/example/tagwright/tagwright/XmlElement") (pr6 : Fld Z h0 cu "com/example/tagwright/tagwright/XmlElement" "parent" "Lcom/example/tagwright/tagwright/XmlElement;" w) (pr7 : a1 ≠ cu) (rw : w.isRef = true) :
    own_Met l Z own_y22 prog_111_method_3_code 1 none ws own_Rend3 h0 #[(.ref a1)] (own_Qend3 Z a1 cu rt w h0 n0) own_Rend3.cells own_Rend3.slots := by
  refine own_start (plainFor_of_name own_pn7) ?_
  intro p e s m below meth c s₁ X0 hx hZ hby hml hret hlk hown hnm e0
  have hown : s.vm.findClass "com/example/tagwright/tagwright/XmlTree" = some m.cls := hown
  have hml : c.maxLocals = 1 := hml
  have N0 := Fr.nil n0
  refine own_cast (own_efend3 m a1) ?_
  refine own_s s₁ (mkF m 2 #[rv a1] [(.ref a1), (.ref a1)]) (fun _ k => XS.aloadN X0.here hx rfl (hb hby own_dend3_0) rfl rfl (XS.aloadN X0.here hx rfl (hb hby own_dend3_1) rfl rfl k)) ?_
  obtain ⟨T1, X1, e1, st1⟩ := getF X0 hx hZ hown (host := "") (Or.inl (own_h hw 35 rfl)) Via.refl e0 pr2 (g := (mkF m 2 #[rv a1] [(.ref a1), (.ref a1)])) rfl rfl (hb hby own_dend3_2)
  refine own_s T1 (mkF m 5 #[rv a1] [(.ref cu), (.ref a1)]) st1 ?_
  obtain ⟨v2, T2, L2, X2, hQ2, st2⟩ := own_callV X1 hx hZ (y := own_y18) (z := own_y18) (W := 1) (a := cu) hown (own_h hw 77 rfl) (own_h hw 78 rfl) (notFace_of_selects (args := #[]) (mvT hZ (own_h hw 80 rfl))) (own_h hw 80 rfl) (own_h hw 79 rfl) (own_h hw 34 rfl) (own_h hw 81 rfl) (by decide) (own_rmgpar l Z a0 hw [] cu w h0 n0 Z0 pr6 rw) (by decide) (by decide) pr5 (g := (mkF m 5 #[rv a1] [(.ref cu), (.ref a1)])) rfl (by rw [hml]; rfl) (argsL := []) (rest := [(.ref a1)]) rfl (lenOf own_pd11 rfl) rfl (by show 2 * 0 + _ ≤ _; exact Nat.le_of_eq rfl) (hb hby own_dend3_5) e1 (by decide) (by decide)
  obtain ⟨rfl, Nq2, e2⟩ := hQ2
  have N2 := Fr.app N0 Nq2
  refine own_s T2 (mkF m 8 #[rv a1] [w, (.ref a1)]) st2 ?_
  obtain ⟨T3, h3, X3, e3, W3, st3⟩ := putF X2 hx hZ hown (host := "") (Or.inl (own_h hw 35 rfl)) Via.refl e2 pr2 pr1 (Or.inl (own_h hw 36 rfl)) (own_h hw 2 rfl) (ty := (.object "com/example/tagwright/tagwright/XmlElement")) (by decide) (own_narR rw) (own_fitR rw) (g := (mkF m 8 #[rv a1] [w, (.ref a1)])) rfl rfl (hb hby own_dend3_8)
  have Fw3 := Fld.same W3 pr2
  have f4 := Exa.wr W3 pr1
  have f5 := Fld.other W3 pr3 (Or.inr (slot_ne (Or.inl (own_h hw 69 rfl)) (Or.inl (own_h hw 36 rfl)) (by decide) (t := (.object "com/example/tagwright/tagwright/XmlElement")) (t' := (.object "com/example/tagwright/tagwright/XmlElement")) (by decide) (by decide)))
  have f6 := Fld.other W3 pr4 (Or.inr (slot_ne (Or.inl (own_h hw 71 rfl)) (Or.inl (own_h hw 36 rfl)) (by decide) (t := .int) (t' := (.object "com/example/tagwright/tagwright/XmlElement")) (by decide) (by decide)))
  have f7 := Exa.wr W3 pr5
  have f8 := Fld.other W3 pr6 (Or.inl (Ne.symm pr7))
  have K3 : Keep h0 h3 [a1] := (Keep.refl h0 [a1]).wr W3 (Or.inl (List.mem_of_getElem? (i := 0) rfl))
  have Z3 := Nat.le_trans Z0 (Nat.le_of_eq W3.size.symm)
  have N3 := Fr.snoc X3 N2 g_a1
  refine own_s T3 (mkF m 11 #[rv a1] []) st3 ?_
  refine own_s T3 (mkF m 13 #[rv a1] [(.ref a1), (.ref a1)]) (fun _ k => XS.aloadN X3.here hx rfl (hb hby own_dend3_11) rfl rfl (XS.dup X3.here hx rfl (hb hby own_dend3_12) rfl rfl k)) ?_
  obtain ⟨T9, X9, e9, st9⟩ := getF X3 hx hZ hown (host := "") (Or.inl (own_h hw 70 rfl)) Via.refl e3 f6 (g := (mkF m 13 #[rv a1] [(.ref a1), (.ref a1)])) rfl rfl (hb hby own_dend3_13)
  refine own_s T9 (mkF m 16 #[rv a1] [(.int 3), (.ref a1)]) st9 ?_
  refine own_s T9 (mkF m 18 #[rv a1] [(.int 2), (.ref a1)]) (fun _ k => XS.iconst X9.here hx rfl (hb hby own_dend3_16) (XS.isub X9.here hx rfl (hb hby own_dend3_17) rfl k)) ?_
  obtain ⟨T10, h10, X10, e10, W10, st10⟩ := putF X9 hx hZ hown (host := "") (Or.inl (own_h hw 70 rfl)) Via.refl e9 f6 f4 (Or.inl (own_h hw 71 rfl)) (own_h hw 2 rfl) (ty := .int) (by decide) rfl rfl (g := (mkF m 18 #[rv a1] [(.int 2), (.ref a1)])) rfl rfl (hb hby own_dend3_18)
  have Fw10 := Fld.same W10 f6
  have f11 := Exa.wr W10 f4
  have f12 := Fld.other W10 Fw3 (Or.inr (slot_ne (Or.inl (own_h hw 36 rfl)) (Or.inl (own_h hw 71 rfl)) (by decide) (t := (.object "com/example/tagwright/tagwright/XmlElement")) (t' := .int) (by decide) (by decide)))
  have f13 := Fld.other W10 f5 (Or.inr (slot_ne (Or.inl (own_h hw 69 rfl)) (Or.inl (own_h hw 71 rfl)) (by decide) (t := (.object "com/example/tagwright/tagwright/XmlElement")) (t' := .int) (by decide) (by decide)))
  have f14 := Exa.wr W10 f7
  have f15 := Fld.other W10 f8 (Or.inl (Ne.symm pr7))
  have K10 : Keep h0 h10 [a1] := K3.wr W10 (Or.inl (List.mem_of_getElem? (i := 0) rfl))
  have Z10 := Nat.le_trans Z3 (Nat.le_of_eq W10.size.symm)
  have N10 := Fr.snoc X10 N3 g_a1
  refine own_s T10 (mkF m 21 #[rv a1] []) st10 ?_
  exact own_finV X10 hx hret (hb hby own_dend3_21) (own_end (Qv := (own_Qend3 Z a1 cu rt w h0 n0)) X10 (fun _ => rfl) hlk (by decide) (by decide) e10 ⟨rfl, N10, K10, f11, f12, f13, Fw10⟩)
theorem own_pd12 : parseMethodDescriptor "(Ljava/lang/String;Ljava/lang/String;Ljava/lang/String;Ljava/util/List;[Ljava/lang/String;Lcom/example/tagwright/tagwright/Location;)V" = some ⟨[(.object "java/lang/String"), (.object "java/lang/String"), (.object "java/lang/String"), (.object "java/util/List"), (.array (.object "java/lang/String")), (.object "com/example/tagwright/tagwright/Location")], none⟩ := by decide +kernel
theorem own_pd13 : parseMethodDescriptor "()Ljava/util/List;" = some ⟨[], some (.object "java/util/List")⟩ := by decide +kernel
abbrev own_y23 : MethodName := ⟨"java/util/List", "get", "(I)Ljava/lang/Object;"⟩
theorem own_pn8 : plainName "com/example/tagwright/tagwright/XmlTreeEndPinLaw" = true := by first | (simp [plainName, overriddenIn]; done) | decide +kernel
theorem own_ef0 (m : MethodId) (x0 : Int32) (x1 : Int32) : entryFrame m #[(.int x0), (.int x1)] maxLocals = mkF m 0 #[iv x0, iv x1, u_, u_, u_, u_, u_, u_, u_, u_, u_] [] := by first | (simp [entryFrame, mkF, argsToLocals, Value.category, maxLocals]; done) | rfl
def own_Q0 (Z : State) (p1 : Int32) (p2 : Int32) (oN : Addr) (oA : Addr) (oE : Addr) (kE : ClassId) (h0 : Heap) (n0 : Nat) : Option Value → Heap → Vm → List Loc → Prop := fun v h vm L => v = some (.int 1) ∧ Fr n0 L
set_option maxRecDepth 65536 in
set_option maxHeartbeats 40000000 in
theorem own_rm0 (l : Launch) (Z : State) (a0 : Array Value) (hw : ∀ d ∈ tables_1, d.before a0 Z = true) (ws : List Jvm.Cond) (p1 : Int32) (p2 : Int32) (oN : Addr) (oA : Addr) (oE : Addr) (kE : ClassId) (h0 : Heap) (n0 : Nat) (Z0 : n0 ≤ h0.size) (pr0 : Sta Z h0 "com/example/tagwright/tagwright/XmlElement" "NO_CHILDREN" "Ljava/util/List;" (.ref oN)) (pr1 : Sta Z h0 "com/example/tagwright/tagwright/XmlElement" "NO_ATTRIBUTES" "[Ljava/lang/String;" (.ref oA)) (pr2 : Exa Z h0 oN "java/util/ImmutableCollections$ListN") (pr3 : Fld Z h0 oN "java/util/ImmutableCollections$ListN" "elements" "[Ljava/lang/Object;" (.ref oE)) (pr4 : Arv Z h0 oE kE (.object "java/lang/Object") (0 : Int32) [] .null) :
    own_MetW l Z x code maxLocals ret ws room_1 h0 (fun _ => True) #[(.int p1), (.int p2)] (own_Q0 Z p1 p2 oN oA oE kE h0 n0) 48 4416 := by
  refine own_startW (plainFor_of_name own_pn8) ?_
  intro p e s m below meth c s₁ X0 hx hZ hby hml hret hlk hown hnm e0 hS hs0 hJ
  have hk0 : 0 ≤ h0.size := Nat.zero_le _
  have hown : s.vm.findClass "com/example/tagwright/tagwright/XmlTreeEndPinLaw" = some m.cls := hown
  have hml : c.maxLocals = 11 := hml
  have N0 := Fr.nil n0
  refine own_cast (own_ef0 m p1 p2) ?_
  refine own_s s₁ (mkF m 2 #[iv p1, iv p2, u_, u_, u_, u_, u_, u_, u_, u_, u_] [(.int p1), (.int 1)]) (fun _ k => XS.iconst X0.here hx rfl (hb hby at_0) (XS.iloadN X0.here hx rfl (hb hby at_1) rfl  k)) ?_
  refine own_s s₁ (mkF m 4 #[iv p1, iv p2, u_, u_, u_, u_, u_, u_, u_, u_, u_] [(.int 2147483647), (.int p1), (.int 1)]) (X0.ldcInt hx hown (mvT hZ (own_h hw 0 rfl)) (g := (mkF m 2 #[iv p1, iv p2, u_, u_, u_, u_, u_, u_, u_, u_, u_] [(.int p1), (.int 1)])) rfl (hb hby at_2)) ?_
  refine own_s s₁ (mkF m 9 #[iv p1, iv p2, iv ((1 : Int32) + ((p1 &&& (2147483647 : Int32)) % (3 : Int32))), u_, u_, u_, u_, u_, u_, u_, u_] []) (fun _ k => XS.iand X0.here hx rfl (hb hby at_4) rfl (XS.iconst X0.here hx rfl (hb hby at_5) (iremM X0 hx rfl (hb hby at_6) rfl (by decide) (XS.iadd X0.here hx rfl (hb hby at_7) rfl (XS.istoreN X0.here hx rfl (hb hby at_8) rfl (l' := #[iv p1, iv p2, iv ((1 : Int32) + ((p1 &&& (2147483647 : Int32)) % (3 : Int32))), u_, u_, u_, u_, u_, u_, u_, u_]) rfl k))))) ?_
  rcases own_n3 p1 with hn | hn | hn
  · refine own_cast (g' := (mkF m 9 #[iv p1, iv p2, iv 1, u_, u_, u_, u_, u_, u_, u_, u_] [])) (by rw [hn]) ?_
    refine own_s s₁ (mkF m 11 #[iv p1, iv p2, iv 1, u_, u_, u_, u_, u_, u_, u_, u_] [(.int p2), (.int 1)]) (fun _ k => XS.iconst X0.here hx rfl (hb hby at_9) (XS.iloadN X0.here hx rfl (hb hby at_10) rfl  k)) ?_
    refine own_s s₁ (mkF m 13 #[iv p1, iv p2, iv 1, u_, u_, u_, u_, u_, u_, u_, u_] [(.int 2147483647), (.int p2), (.int 1)]) (X0.ldcInt hx hown (mvT hZ (own_h hw 0 rfl)) (g := (mkF m 11 #[iv p1, iv p2, iv 1, u_, u_, u_, u_, u_, u_, u_, u_] [(.int p2), (.int 1)])) rfl (hb hby at_11)) ?_
    refine own_s s₁ (mkF m 18 #[iv p1, iv p2, iv 1, iv ((1 : Int32) + ((p2 &&& (2147483647 : Int32)) % (1 : Int32))), u_, u_, u_, u_, u_, u_, u_] []) (fun _ k => XS.iand X0.here hx rfl (hb hby at_13) rfl (XS.iloadN X0.here hx rfl (hb hby at_14) rfl  (iremM X0 hx rfl (hb hby at_15) rfl (by decide) (XS.iadd X0.here hx rfl (hb hby at_16) rfl (XS.istoreN X0.here hx rfl (hb hby at_17) rfl (l' := #[iv p1, iv p2, iv 1, iv ((1 : Int32) + ((p2 &&& (2147483647 : Int32)) % (1 : Int32))), u_, u_, u_, u_, u_, u_, u_]) rfl k))))) ?_
    refine own_cast (g' := (mkF m 18 #[iv p1, iv p2, iv 1, iv 1, u_, u_, u_, u_, u_, u_, u_] [])) (by rw [own_n1 p2]) ?_
    refine own_s s₁ (mkF m 23 #[iv p1, iv p2, iv 1, iv 1, iv 0, u_, u_, u_, u_, u_, u_] []) (fun _ k => XS.iloadN X0.here hx rfl (hb hby at_18) rfl  (XS.iloadN X0.here hx rfl (hb hby at_19) rfl  (XS.isub X0.here hx rfl (hb hby at_20) rfl (XS.istore X0.here hx rfl (hb hby at_21) rfl (l' := #[iv p1, iv p2, iv 1, iv 1, iv 0, u_, u_, u_, u_, u_, u_]) rfl k)))) ?_
    obtain ⟨T1, h1, X1, e1, E1, A1, D1, -, st1⟩ := newO X0 hx hZ hown (own_h hw 1 rfl) (own_h hw 2 rfl) (own_h hw 3 rfl) e0 (g := (mkF m 23 #[iv p1, iv p2, iv 1, iv 1, iv 0, u_, u_, u_, u_, u_, u_] [])) rfl (hb hby at_23) (by decide) (by decide)
    obtain ⟨b1, g1⟩ : ∃ z, z = h0.size := ⟨_, rfl⟩
    have ne_oN_b1 : oN ≠ b1 := Nat.ne_of_lt (Nat.lt_of_lt_of_le pr2.lt (Nat.le_of_eq g1.symm))
    have ne_oE_b1 : oE ≠ b1 := Nat.ne_of_lt (Nat.lt_of_lt_of_le pr4.lt (Nat.le_of_eq g1.symm))
    have g_b1 : n0 ≤ b1 := Nat.le_trans Z0 (Nat.le_of_eq g1.symm)
    have sz_b1 : h0.size ≤ b1 := Nat.le_trans (Keep.refl h0 []).1 (Nat.le_of_eq g1.symm)
    rw [← g1] at A1 D1 st1
    have f2 := Sta.ext E1 pr0
    have f3 := Sta.ext E1 pr1
    have f4 := Exa.ext E1 pr2
    have f5 := Fld.ext E1 pr3
    have f6 := pr4.ext E1
    have K1 : Keep h0 h1 [] := (Keep.refl h0 []).ext E1
    have Z1 := Nat.le_trans Z0 E1.1
    have hk1 := Nat.le_trans hk0 E1.1
    have f7 : Fld Z h1 b1 "com/example/tagwright/tagwright/XmlTree" "whiteSpaces" "[Ljava/lang/String;" .null := D1 (Or.inr (own_h hw 13 rfl)) (ty := (.array (.object "java/lang/String"))) (by decide)
    have f8 : Fld Z h1 b1 "com/example/tagwright/tagwright/XmlTree" "whiteSpaceBytes" "[[B" .null := D1 (Or.inr (own_h hw 17 rfl)) (ty := (.array (.array .byte))) (by decide)
    have f9 : Fld Z h1 b1 "com/example/tagwright/tagwright/XmlTree" "current" "Lcom/example/tagwright/tagwright/XmlElement;" .null := D1 (Or.inl (own_h hw 36 rfl)) (ty := (.object "com/example/tagwright/tagwright/XmlElement")) (by decide)
    have f10 : Fld Z h1 b1 "com/example/tagwright/tagwright/XmlTree" "root" "Lcom/example/tagwright/tagwright/XmlElement;" .null := D1 (Or.inl (own_h hw 69 rfl)) (ty := (.object "com/example/tagwright/tagwright/XmlElement")) (by decide)
    have f11 : Fld Z h1 b1 "com/example/tagwright/tagwright/XmlTree" "depth" "I" (.int 0) := D1 (Or.inl (own_h hw 71 rfl)) (ty := .int) (by decide)
    refine own_s T1 (mkF m 26 #[iv p1, iv p2, iv 1, iv 1, iv 0, u_, u_, u_, u_, u_, u_] [(.ref b1)]) st1 ?_
    refine own_s T1 (mkF m 27 #[iv p1, iv p2, iv 1, iv 1, iv 0, u_, u_, u_, u_, u_, u_] [(.ref b1), (.ref b1)]) (fun _ k => XS.dup X1.here hx rfl (hb hby at_26) rfl rfl k) ?_
    obtain ⟨v12, T12, L12, X12, hQ12, st12⟩ := own_callI X1 hx hZ (y := own_y16) (W := 1) (a := b1) rfl hown (own_h hw 4 rfl) (own_h hw 5 rfl) (own_h hw 3 rfl) (own_h hw 6 rfl) (by decide) (own_rmti l Z a0 hw [] b1 h1 n0 Z1 g_b1 A1 f9 f10 f11 f7 f8) (by decide) (by decide) (g := (mkF m 27 #[iv p1, iv p2, iv 1, iv 1, iv 0, u_, u_, u_, u_, u_, u_] [(.ref b1), (.ref b1)])) rfl (by rw [hml]; rfl) (argsL := []) (rest := [(.ref b1)]) rfl (lenOf own_pd0 rfl) rfl (by show 2 * 0 + _ ≤ _; exact Nat.le_of_eq rfl) (hb hby at_27) e1 (by decide) (by decide)
    obtain ⟨rfl, Nq12, Kq12, q12_0, q12_1, q12_2, q12_3⟩ := hQ12
    have N12 := Fr.app N0 Nq12
    have f13 := own_staKeepW f2 Kq12 (allS A1.nostat all0)
    have f14 := own_staKeepW f3 Kq12 (allS A1.nostat all0)
    have f15 := f4.keep Kq12
    have f16 := f5.keep Kq12 (ninS ne_oN_b1 nin0)
    have f17 := f6.keep Kq12 (ninS ne_oE_b1 nin0)
    have f18 := A1.keep Kq12
    have K12 : Keep h0 T12.heap [] := K1.trans Kq12 (allS (Or.inr sz_b1) all0)
    have Z12 := Nat.le_trans Z1 Kq12.1
    have hk12 := Nat.le_trans hk1 Kq12.1
    refine own_s T12 (mkF m 30 #[iv p1, iv p2, iv 1, iv 1, iv 0, u_, u_, u_, u_, u_, u_] [(.ref b1)]) st12 ?_
    refine own_s T12 (mkF m 35 #[iv p1, iv p2, iv 1, iv 1, iv 0, rv b1, u_, u_, u_, u_, u_] [.null, (.ref b1)]) (fun _ k => XS.astore X12.here hx rfl (hb hby at_30) rfl rfl (l' := #[iv p1, iv p2, iv 1, iv 1, iv 0, rv b1, u_, u_, u_, u_, u_]) rfl (XS.aload X12.here hx rfl (hb hby at_32) rfl rfl (XS.aconstNull X12.here hx rfl (hb hby at_34) k))) ?_
    obtain ⟨sl19, T19, h19, kk19, X19, e19, E19, hS, hk19, hZ, hown, st19⟩ := ldcS (s := s) X12 hx hZ hown (own_h hw 18 rfl) (own_wS hw) rfl hS hk12 (g := (mkF m 35 #[iv p1, iv p2, iv 1, iv 1, iv 0, rv b1, u_, u_, u_, u_, u_] [.null, (.ref b1)])) rfl (hb hby at_35) (n := 4) (by decide) (by decide) (by decide) (by decide)
    have f20 := Sta.ext E19 f13
    have f21 := Sta.ext E19 f14
    have f22 := Exa.ext E19 f15
    have f23 := Fld.ext E19 f16
    have f24 := f17.ext E19
    have f25 := Exa.ext E19 q12_0
    have f26 := Fld.ext E19 q12_1
    have f27 := Fld.ext E19 q12_2
    have f28 := Fld.ext E19 q12_3
    have K19 : Keep h0 h19 [] := K12.ext E19
    have Z19 := Nat.le_trans Z12 E19.1
    refine own_s T19 (mkF m 37 #[iv p1, iv p2, iv 1, iv 1, iv 0, rv b1, u_, u_, u_, u_, u_] [(.ref sl19), .null, (.ref b1)]) st19 ?_
    obtain ⟨sl29, T29, h29, kk29, X29, e29, E29, hS, hk29, hZ, hown, st29⟩ := ldcS (s := s) X19 hx hZ hown (own_h hw 18 rfl) (own_wS hw) e19 hS hk19 (g := (mkF m 37 #[iv p1, iv p2, iv 1, iv 1, iv 0, rv b1, u_, u_, u_, u_, u_] [(.ref sl19), .null, (.ref b1)])) rfl (hb hby at_37) (n := 4) (by decide) (by decide) (by decide) (by decide)
    have f30 := Sta.ext E29 f20
    have f31 := Sta.ext E29 f21
    have f32 := Exa.ext E29 f22
    have f33 := Fld.ext E29 f23
    have f34 := f24.ext E29
    have f35 := Exa.ext E29 f25
    have f36 := Fld.ext E29 f26
    have f37 := Fld.ext E29 f27
    have f38 := Fld.ext E29 f28
    have K29 : Keep h0 h29 [] := K19.ext E29
    have Z29 := Nat.le_trans Z19 E29.1
    refine own_s T29 (mkF m 39 #[iv p1, iv p2, iv 1, iv 1, iv 0, rv b1, u_, u_, u_, u_, u_] [(.ref sl29), (.ref sl19), .null, (.ref b1)]) st29 ?_
    refine own_s T29 (mkF m 41 #[iv p1, iv p2, iv 1, iv 1, iv 0, rv b1, u_, u_, u_, u_, u_] [(.int 0), .null, (.ref sl29), (.ref sl19), .null, (.ref b1)]) (fun _ k => XS.aconstNull X29.here hx rfl (hb hby at_39) (XS.iconst X29.here hx rfl (hb hby at_40) k)) ?_
    obtain ⟨T39, h39, k39, X39, e39, E39, A39, O39, st39⟩ := newR X29 hx hZ hown (own_h hw 26 rfl) (own_h hw 11 rfl) e29 (g := (mkF m 41 #[iv p1, iv p2, iv 1, iv 1, iv 0, rv b1, u_, u_, u_, u_, u_] [(.int 0), .null, (.ref sl29), (.ref sl19), .null, (.ref b1)])) rfl (hb hby at_41) rfl (by decide) (cap := 0) (by decide) (by decide) (by decide) (by decide)
    obtain ⟨b39, g39⟩ : ∃ z, z = h29.size := ⟨_, rfl⟩
    have ne_oN_b39 : oN ≠ b39 := Nat.ne_of_lt (Nat.lt_of_lt_of_le f32.lt (Nat.le_of_eq g39.symm))
    have ne_oE_b39 : oE ≠ b39 := Nat.ne_of_lt (Nat.lt_of_lt_of_le f34.lt (Nat.le_of_eq g39.symm))
    have ne_b1_b39 : b1 ≠ b39 := Nat.ne_of_lt (Nat.lt_of_lt_of_le f35.lt (Nat.le_of_eq g39.symm))
    have g_b39 : n0 ≤ b39 := Nat.le_trans Z29 (Nat.le_of_eq g39.symm)
    have sz_b39 : h0.size ≤ b39 := Nat.le_trans K29.1 (Nat.le_of_eq g39.symm)
    rw [← g39] at A39 st39
    have f40 := Sta.ext E39 f30
    have f41 := Sta.ext E39 f31
    have f42 := Exa.ext E39 f32
    have f43 := Fld.ext E39 f33
    have f44 := f34.ext E39
    have f45 := Exa.ext E39 f35
    have f46 := Fld.ext E39 f36
    have f47 := Fld.ext E39 f37
    have f48 := Fld.ext E39 f38
    have K39 : Keep h0 h39 [] := K29.ext E39
    have Z39 := Nat.le_trans Z29 E39.1
    have hk39 := Nat.le_trans hk29 E39.1
    have f39 : Arv Z h39 b39 k39 (.object "java/lang/String") 0 [] .null := (Arv.new A39 (by decide)).pad (pad_rep [] .null 0)
    refine own_s T39 (mkF m 44 #[iv p1, iv p2, iv 1, iv 1, iv 0, rv b1, u_, u_, u_, u_, u_] [(.ref b39), .null, (.ref sl29), (.ref sl19), .null, (.ref b1)]) st39 ?_
    refine own_s T39 (mkF m 45 #[iv p1, iv p2, iv 1, iv 1, iv 0, rv b1, u_, u_, u_, u_, u_] [.null, (.ref b39), .null, (.ref sl29), (.ref sl19), .null, (.ref b1)]) (fun _ k => XS.aconstNull X39.here hx rfl (hb hby at_44) k) ?_
    obtain ⟨v49, T49, L49, X49, hQ49, st49⟩ := own_callV X39 hx hZ (y := own_y17) (z := own_y17) (W := 0) (a := b1) hown (own_h hw 27 rfl) (own_h hw 28 rfl) (notFace_of_selects (args := #[]) (mvT hZ (own_h hw 30 rfl))) (own_h hw 30 rfl) (own_h hw 29 rfl) (own_h hw 3 rfl) (own_h hw 31 rfl) (by decide) (own_rmst0 l Z a0 hw [] b1 sl19 sl29 b39 oN oA k39 h39 n0 Z39 g_b1 f45 f46 f47 f48 f40 f41 f39 ne_b1_b39) (by decide) (by decide) f45 (g := (mkF m 45 #[iv p1, iv p2, iv 1, iv 1, iv 0, rv b1, u_, u_, u_, u_, u_] [.null, (.ref b39), .null, (.ref sl29), (.ref sl19), .null, (.ref b1)])) rfl (by rw [hml]; rfl) (argsL := [.null, (.ref sl19), (.ref sl29), .null, (.ref b39), .null]) (rest := []) rfl (lenOf own_pd12 rfl) rfl (by show 2 * 0 + _ ≤ _; exact Nat.le_of_eq rfl) (hb hby at_45) e39 (by decide) (by decide)
    obtain ⟨zx49, rfl, Nq49, Kq49, g_zx49, sq_zx49, q49_0, q49_1, q49_2, q49_3, q49_4, q49_5, q49_6⟩ := hQ49
    have N49 := Fr.app N12 Nq49
    have ne_oN_zx49 : oN ≠ zx49 := Nat.ne_of_lt (Nat.lt_of_lt_of_le f42.lt sq_zx49)
    have ne_oE_zx49 : oE ≠ zx49 := Nat.ne_of_lt (Nat.lt_of_lt_of_le f44.lt sq_zx49)
    have ne_b1_zx49 : b1 ≠ zx49 := Nat.ne_of_lt (Nat.lt_of_lt_of_le f45.lt sq_zx49)
    have ne_b39_zx49 : b39 ≠ zx49 := Nat.ne_of_lt (Nat.lt_of_lt_of_le f39.lt sq_zx49)
    have sz_zx49 : h0.size ≤ zx49 := Nat.le_trans K39.1 sq_zx49
    have f50 := own_staKeepW f40 Kq49 (allS f45.nostat all0)
    have f51 := own_staKeepW f41 Kq49 (allS f45.nostat all0)
    have f52 := f42.keep Kq49
    have f53 := f43.keep Kq49 (ninS ne_oN_b1 nin0)
    have f54 := f44.keep Kq49 (ninS ne_oE_b1 nin0)
    have f55 := f45.keep Kq49
    have f56 := f39.keep Kq49 (ninS (Ne.symm ne_b1_b39) nin0)
    have K49 : Keep h0 T49.heap [] := K39.trans Kq49 (allS (Or.inr sz_b1) all0)
    have Z49 := Nat.le_trans Z39 Kq49.1
    have hk49 := Nat.le_trans hk39 Kq49.1
    refine own_s T49 (mkF m 48 #[iv p1, iv p2, iv 1, iv 1, iv 0, rv b1, u_, u_, u_, u_, u_] []) st49 ?_
    refine own_s T49 (mkF m 71 #[iv p1, iv p2, iv 1, iv 1, iv 0, rv b1, u_, u_, u_, u_, u_] [(.int 3), (.int 1)]) (fun _ k => XS.iloadN X49.here hx rfl (hb hby at_48) rfl  (XS.iconst X49.here hx rfl (hb hby at_49) (XS.icmpYes X49.here hx rfl (pc0 := 50) (pc' := 69) rfl (hb hby at_50) rfl (tlt (by decide : ((1 : Int32) < (2 : Int32)))).1 (by decide) (by decide) (XS.iloadN X49.here hx rfl (hb hby at_69) rfl  (XS.iconst X49.here hx rfl (hb hby at_70) k))))) ?_
    refine own_s T49 (mkF m 92 #[iv p1, iv p2, iv 1, iv 1, iv 0, rv b1, u_, u_, u_, u_, u_] [(.ref b1)]) (fun _ k => XS.icmpYes X49.here hx rfl (pc0 := 71) (pc' := 90) rfl (hb hby at_71) rfl (tlt (by decide : ((1 : Int32) < (3 : Int32)))).1 (by decide) (by decide) (XS.aload X49.here hx rfl (hb hby at_90) rfl rfl k)) ?_
    obtain ⟨v57, T57, L57, X57, hQ57, st57⟩ := own_callV X49 hx hZ (y := own_y22) (z := own_y22) (W := 0) (a := b1) hown (own_h hw 72 rfl) (own_h hw 73 rfl) (notFace_of_selects (args := #[]) (mvT hZ (own_h hw 75 rfl))) (own_h hw 75 rfl) (own_h hw 74 rfl) (own_h hw 3 rfl) (own_h hw 76 rfl) (by decide) (own_rmend1 l Z a0 hw [] b1 zx49 zx49 .null T49.heap n0 Z49 g_b1 q49_0 q49_1 q49_2 q49_3 q49_4 q49_6 ne_b1_zx49 rfl) (by decide) (by decide) q49_0 (g := (mkF m 92 #[iv p1, iv p2, iv 1, iv 1, iv 0, rv b1, u_, u_, u_, u_, u_] [(.ref b1)])) rfl (by rw [hml]; rfl) (argsL := []) (rest := []) rfl (lenOf own_pd0 rfl) rfl (by show 2 * 0 + _ ≤ _; exact Nat.le_of_eq rfl) (hb hby at_92) rfl (by decide) (by decide)
    obtain ⟨rfl, Nq57, Kq57, q57_0, q57_1, q57_2, q57_3⟩ := hQ57
    have N57 := Fr.app N49 Nq57
    have f58 := own_staKeepW f50 Kq57 (allS q49_0.nostat all0)
    have f59 := own_staKeepW f51 Kq57 (allS q49_0.nostat all0)
    have f60 := f52.keep Kq57
    have f61 := f53.keep Kq57 (ninS ne_oN_b1 nin0)
    have f62 := f54.keep Kq57 (ninS ne_oE_b1 nin0)
    have f63 := q49_0.keep Kq57
    have f64 := f56.keep Kq57 (ninS (Ne.symm ne_b1_b39) nin0)
    have f65 := q49_4.keep Kq57
    have f66 := q49_5.keep Kq57 (ninS (Ne.symm ne_b1_zx49) nin0)
    have f67 := q49_6.keep Kq57 (ninS (Ne.symm ne_b1_zx49) nin0)
    have K57 : Keep h0 T57.heap [] := K49.trans Kq57 (allS (Or.inr sz_b1) all0)
    have Z57 := Nat.le_trans Z49 Kq57.1
    have hk57 := Nat.le_trans hk49 Kq57.1
    refine own_s T57 (mkF m 95 #[iv p1, iv p2, iv 1, iv 1, iv 0, rv b1, u_, u_, u_, u_, u_] []) st57 ?_
    refine own_s T57 (mkF m 107 #[iv p1, iv p2, iv 1, iv 1, iv 0, rv b1, u_, u_, u_, u_, u_] [(.int 3), (.int 1)]) (fun _ k => XS.iloadN X57.here hx rfl (hb hby at_95) rfl  (XS.iconst X57.here hx rfl (hb hby at_96) (XS.icmpYes X57.here hx rfl (pc0 := 97) (pc' := 105) rfl (hb hby at_97) rfl (tlt (by decide : ((1 : Int32) < (2 : Int32)))).1 (by decide) (by decide) (XS.iloadN X57.here hx rfl (hb hby at_105) rfl  (XS.iconst X57.here hx rfl (hb hby at_106) k))))) ?_
    refine own_s T57 (mkF m 117 #[iv p1, iv p2, iv 1, iv 1, iv 0, rv b1, u_, u_, u_, u_, u_] [(.ref b1)]) (fun _ k => XS.icmpYes X57.here hx rfl (pc0 := 107) (pc' := 115) rfl (hb hby at_107) rfl (tlt (by decide : ((1 : Int32) < (3 : Int32)))).1 (by decide) (by decide) (XS.aload X57.here hx rfl (hb hby at_115) rfl rfl k)) ?_
    obtain ⟨v68, T68, L68, X68, hQ68, st68⟩ := own_callV X57 hx hZ (y := own_y20) (z := own_y20) (W := 0) (a := b1) hown (own_h hw 82 rfl) (own_h hw 83 rfl) (notFace_of_selects (args := #[]) (mvT hZ (own_h hw 85 rfl))) (own_h hw 85 rfl) (own_h hw 84 rfl) (own_h hw 3 rfl) (own_h hw 86 rfl) (by decide) (own_rmgdp l Z a0 hw [] b1 (0 : Int32) T57.heap n0 Z57 q57_3) (by decide) (by decide) q57_0 (g := (mkF m 117 #[iv p1, iv p2, iv 1, iv 1, iv 0, rv b1, u_, u_, u_, u_, u_] [(.ref b1)])) rfl (by rw [hml]; rfl) (argsL := []) (rest := []) rfl (lenOf own_pd7 rfl) rfl (by show 2 * 0 + _ ≤ _; exact Nat.le_of_eq rfl) (hb hby at_117) rfl (by decide) (by decide)
    obtain ⟨rfl, Nq68, e68⟩ := hQ68
    have N68 := Fr.app N57 Nq68
    refine own_s T68 (mkF m 120 #[iv p1, iv p2, iv 1, iv 1, iv 0, rv b1, u_, u_, u_, u_, u_] [(.int 0)]) st68 ?_
    refine own_s T68 (mkF m 132 #[iv p1, iv p2, iv 1, iv 1, iv 0, rv b1, iv 1, u_, u_, u_, u_] []) (fun _ k => XS.iload X68.here hx rfl (hb hby at_120) rfl  (XS.icmpNo X68.here hx rfl (hb hby at_122) rfl (teq (by decide : ((0 : Int32) = (0 : Int32)))).2 (XS.iconst X68.here hx rfl (hb hby at_125) (XS.goto X68.here hx rfl (pc0 := 126) (pc' := 130) rfl (hb hby at_126) (by decide) (by decide) (XS.istore X68.here hx rfl (hb hby at_130) rfl (l' := #[iv p1, iv p2, iv 1, iv 1, iv 0, rv b1, iv 1, u_, u_, u_, u_]) rfl k))))) ?_
    refine own_s T68 (mkF m 179 #[iv p1, iv p2, iv 1, iv 1, iv 0, rv b1, iv 1, u_, u_, u_, u_] [(.ref b1)]) (fun _ k => XS.iload X68.here hx rfl (hb hby at_132) rfl  (XS.ifYes X68.here hx rfl (pc0 := 134) (pc' := 177) rfl (hb hby at_134) rfl ((if0 _ _).trans (flt (by decide : ¬ ((0 : Int32) < (0 : Int32)))).2.2.2) (by decide) (by decide) (XS.aload X68.here hx rfl (hb hby at_177) rfl rfl k))) ?_
    obtain ⟨v69, T69, L69, X69, hQ69, st69⟩ := own_callV X68 hx hZ (y := own_y21) (z := own_y21) (W := 0) (a := b1) hown (own_h hw 87 rfl) (own_h hw 88 rfl) (notFace_of_selects (args := #[]) (mvT hZ (own_h hw 90 rfl))) (own_h hw 90 rfl) (own_h hw 89 rfl) (own_h hw 3 rfl) (own_h hw 91 rfl) (by decide) (own_rmgrt l Z a0 hw [] b1 zx49 T57.heap n0 Z57 q57_2) (by decide) (by decide) q57_0 (g := (mkF m 179 #[iv p1, iv p2, iv 1, iv 1, iv 0, rv b1, iv 1, u_, u_, u_, u_] [(.ref b1)])) rfl (by rw [hml]; rfl) (argsL := []) (rest := []) rfl (lenOf own_pd11 rfl) rfl (by show 2 * 0 + _ ≤ _; exact Nat.le_of_eq rfl) (hb hby at_179) e68 (by decide) (by decide)
    obtain ⟨rfl, Nq69, e69⟩ := hQ69
    have N69 := Fr.app N68 Nq69
    refine own_s T69 (mkF m 182 #[iv p1, iv p2, iv 1, iv 1, iv 0, rv b1, iv 1, u_, u_, u_, u_] [(.ref zx49)]) st69 ?_
    refine own_s T69 (mkF m 191 #[iv p1, iv p2, iv 1, iv 1, iv 0, rv b1, iv 1, rv zx49, u_, u_, u_] [(.ref zx49)]) (fun _ k => XS.astore X69.here hx rfl (hb hby at_182) rfl rfl (l' := #[iv p1, iv p2, iv 1, iv 1, iv 0, rv b1, iv 1, rv zx49, u_, u_, u_]) rfl (XS.aload X69.here hx rfl (hb hby at_184) rfl rfl (XS.ifnullNo X69.here hx rfl (hb hby at_186) rfl (XS.aload X69.here hx rfl (hb hby at_189) rfl rfl k)))) ?_
    obtain ⟨v70, T70, L70, X70, hQ70, st70⟩ := own_callV X69 hx hZ (y := own_y18) (z := own_y18) (W := 0) (a := zx49) hown (own_h hw 92 rfl) (own_h hw 78 rfl) (notFace_of_selects (args := #[]) (mvT hZ (own_h hw 80 rfl))) (own_h hw 80 rfl) (own_h hw 79 rfl) (own_h hw 34 rfl) (own_h hw 81 rfl) (by decide) (own_rmgpar l Z a0 hw [] zx49 .null T57.heap n0 Z57 f67 rfl) (by decide) (by decide) f65 (g := (mkF m 191 #[iv p1, iv p2, iv 1, iv 1, iv 0, rv b1, iv 1, rv zx49, u_, u_, u_] [(.ref zx49)])) rfl (by rw [hml]; rfl) (argsL := []) (rest := []) rfl (lenOf own_pd11 rfl) rfl (by show 2 * 0 + _ ≤ _; exact Nat.le_of_eq rfl) (hb hby at_191) e69 (by decide) (by decide)
    obtain ⟨rfl, Nq70, e70⟩ := hQ70
    have N70 := Fr.app N69 Nq70
    refine own_s T70 (mkF m 194 #[iv p1, iv p2, iv 1, iv 1, iv 0, rv b1, iv 1, rv zx49, u_, u_, u_] [.null]) st70 ?_
    refine own_s T70 (mkF m 209 #[iv p1, iv p2, iv 1, iv 1, iv 0, rv b1, iv 1, rv zx49, u_, u_, u_] [(.int 0)]) (fun _ k => XS.ifnullYes X70.here hx rfl (pc0 := 194) (pc' := 199) rfl (hb hby at_194) rfl (by decide) (by decide) (XS.iloadN X70.here hx rfl (hb hby at_199) rfl  (XS.iconst X70.here hx rfl (hb hby at_200) (XS.icmpYes X70.here hx rfl (pc0 := 201) (pc' := 208) rfl (hb hby at_201) rfl (tlt (by decide : ((1 : Int32) < (2 : Int32)))).1 (by decide) (by decide) (XS.iconst X70.here hx rfl (hb hby at_208) k))))) ?_
    refine own_s T70 (mkF m 221 #[iv p1, iv p2, iv 1, iv 1, iv 0, rv b1, iv 1, rv zx49, u_, u_, u_] [(.int 0)]) (fun _ k => XS.iload X70.here hx rfl (hb hby at_209) rfl  (XS.iconst X70.here hx rfl (hb hby at_211) (XS.icmpYes X70.here hx rfl (pc0 := 212) (pc' := 219) rfl (hb hby at_212) rfl (feq (by decide : ¬ ((0 : Int32) = (1 : Int32)))).2 (by decide) (by decide) (XS.iconst X70.here hx rfl (hb hby at_219) (XS.iadd X70.here hx rfl (hb hby at_220) rfl k))))) ?_
    refine own_s T70 (mkF m 230 #[iv p1, iv p2, iv 1, iv 1, iv 0, rv b1, iv 1, rv zx49, iv 0, u_, u_] [(.ref zx49)]) (fun _ k => XS.istore X70.here hx rfl (hb hby at_221) rfl (l' := #[iv p1, iv p2, iv 1, iv 1, iv 0, rv b1, iv 1, rv zx49, iv 0, u_, u_]) rfl (XS.iload X70.here hx rfl (hb hby at_223) rfl  (XS.ifNo X70.here hx rfl (hb hby at_225) rfl ((if0 _ _).trans (feq (by decide : ¬ ((1 : Int32) = (0 : Int32)))).1) (XS.aload X70.here hx rfl (hb hby at_228) rfl rfl k)))) ?_
    obtain ⟨v71, T71, L71, X71, hQ71, st71⟩ := own_callV X70 hx hZ (y := own_y19) (z := own_y19) (W := 0) (a := zx49) hown (own_h hw 93 rfl) (own_h hw 94 rfl) (notFace_of_selects (args := #[]) (mvT hZ (own_h hw 96 rfl))) (own_h hw 96 rfl) (own_h hw 95 rfl) (own_h hw 34 rfl) (own_h hw 97 rfl) (by decide) (own_rmgch l Z a0 hw [] zx49 oN T57.heap n0 Z57 f66) (by decide) (by decide) f65 (g := (mkF m 230 #[iv p1, iv p2, iv 1, iv 1, iv 0, rv b1, iv 1, rv zx49, iv 0, u_, u_] [(.ref zx49)])) rfl (by rw [hml]; rfl) (argsL := []) (rest := []) rfl (lenOf own_pd13 rfl) rfl (by show 2 * 0 + _ ≤ _; exact Nat.le_of_eq rfl) (hb hby at_230) e70 (by decide) (by decide)
    obtain ⟨rfl, Nq71, e71⟩ := hQ71
    have N71 := Fr.app N70 Nq71
    refine own_s T71 (mkF m 233 #[iv p1, iv p2, iv 1, iv 1, iv 0, rv b1, iv 1, rv zx49, iv 0, u_, u_] [(.ref oN)]) st71 ?_
    obtain ⟨v72, T72, L72, X72, hQ72, st72⟩ := own_callF X71 hx hZ (y := own_y12) (z := own_y10) (W := 0) (a := oN) hown (own_h hw 98 rfl) (own_h hw 99 rfl) (mvT hZ (own_h hw 100 rfl)) (own_h hw 101 rfl) (own_h hw 102 rfl) (own_h hw 103 rfl) (own_h hw 104 rfl) (own_h hw 105 rfl) (own_h hw 106 rfl) (own_h hw 107 rfl) (by decide) (own_rmlsz l Z a0 hw [] oN oE kE T57.heap n0 Z57 f61 f62) (by decide) (by decide) f60 (g := (mkF m 233 #[iv p1, iv p2, iv 1, iv 1, iv 0, rv b1, iv 1, rv zx49, iv 0, u_, u_] [(.ref oN)])) rfl (by rw [hml]; rfl) (argsL := []) (rest := []) rfl (lenOf own_pd7 rfl) rfl (by show 2 * 0 + _ ≤ _; exact Nat.le_of_eq rfl) (hb hby at_233) e71 (by decide) (by decide)
    obtain ⟨rfl, Nq72, Kq72⟩ := hQ72
    have N72 := Fr.app N71 Nq72
    have f73 := own_staKeep f58 Kq72
    have f74 := own_staKeep f59 Kq72
    have f75 := f60.keep Kq72
    have f76 := f61.keep Kq72 nin0
    have f77 := f62.keep Kq72 nin0
    have f78 := q57_0.keep Kq72
    have f79 := f64.keep Kq72 nin0
    have f80 := f65.keep Kq72
    have f81 := f66.keep Kq72 nin0
    have f82 := f67.keep Kq72 nin0
    have f83 := q57_1.keep Kq72 nin0
    have f84 := q57_2.keep Kq72 nin0
    have f85 := q57_3.keep Kq72 nin0
    have K72 : Keep h0 T72.heap [] := K57.trans Kq72 all0
    have Z72 := Nat.le_trans Z57 Kq72.1
    have hk72 := Nat.le_trans hk57 Kq72.1
    refine own_s T72 (mkF m 238 #[iv p1, iv p2, iv 1, iv 1, iv 0, rv b1, iv 1, rv zx49, iv 0, u_, u_] [(.int 0)]) st72 ?_
    refine own_s T72 (mkF m 250 #[iv p1, iv p2, iv 1, iv 1, iv 0, rv b1, iv 1, rv zx49, iv 0, u_, u_] []) (fun _ k => XS.iload X72.here hx rfl (hb hby at_238) rfl  (XS.icmpNo X72.here hx rfl (hb hby at_240) rfl (teq (by decide : ((0 : Int32) = (0 : Int32)))).2 (XS.iconst X72.here hx rfl (hb hby at_243) (XS.goto X72.here hx rfl (pc0 := 244) (pc' := 248) rfl (hb hby at_244) (by decide) (by decide) (XS.istore X72.here hx rfl (hb hby at_248) rfl (l' := #[iv p1, iv p2, iv 1, iv 1, iv 0, rv b1, iv 1, rv zx49, iv 0, u_, u_]) rfl k))))) ?_
    refine own_s T72 (mkF m 324 #[iv p1, iv p2, iv 1, iv 1, iv 0, rv b1, iv 1, rv zx49, iv 0, u_, u_] [(.int 1)]) (fun _ k => XS.iloadN X72.here hx rfl (hb hby at_250) rfl  (XS.iconst X72.here hx rfl (hb hby at_251) (XS.icmpYes X72.here hx rfl (pc0 := 252) (pc' := 322) rfl (hb hby at_252) rfl (tlt (by decide : ((1 : Int32) < (2 : Int32)))).1 (by decide) (by decide) (XS.iload X72.here hx rfl (hb hby at_322) rfl  k)))) ?_
    exact own_finZ X72 hx (t := .boolean) hret (by simp) (z' := (1 : Int32)) rfl (hb hby at_324) (own_endW (Qv := (own_Q0 Z p1 p2 oN oA oE kE h0 n0)) X72 hS (own_some hret) hlk (by decide) (by decide) rfl hk72 (fun vm' hv' => ⟨rfl, N72⟩))
  · refine own_cast (g' := (mkF m 9 #[iv p1, iv p2, iv 2, u_, u_, u_, u_, u_, u_, u_, u_] [])) (by rw [hn]) ?_
    refine own_s s₁ (mkF m 11 #[iv p1, iv p2, iv 2, u_, u_, u_, u_, u_, u_, u_, u_] [(.int p2), (.int 1)]) (fun _ k => XS.iconst X0.here hx rfl (hb hby at_9) (XS.iloadN X0.here hx rfl (hb hby at_10) rfl  k)) ?_
    refine own_s s₁ (mkF m 13 #[iv p1, iv p2, iv 2, u_, u_, u_, u_, u_, u_, u_, u_] [(.int 2147483647), (.int p2), (.int 1)]) (X0.ldcInt hx hown (mvT hZ (own_h hw 0 rfl)) (g := (mkF m 11 #[iv p1, iv p2, iv 2, u_, u_, u_, u_, u_, u_, u_, u_] [(.int p2), (.int 1)])) rfl (hb hby at_11)) ?_
    refine own_s s₁ (mkF m 18 #[iv p1, iv p2, iv 2, iv ((1 : Int32) + ((p2 &&& (2147483647 : Int32)) % (2 : Int32))), u_, u_, u_, u_, u_, u_, u_] []) (fun _ k => XS.iand X0.here hx rfl (hb hby at_13) rfl (XS.iloadN X0.here hx rfl (hb hby at_14) rfl  (iremM X0 hx rfl (hb hby at_15) rfl (by decide) (XS.iadd X0.here hx rfl (hb hby at_16) rfl (XS.istoreN X0.here hx rfl (hb hby at_17) rfl (l' := #[iv p1, iv p2, iv 2, iv ((1 : Int32) + ((p2 &&& (2147483647 : Int32)) % (2 : Int32))), u_, u_, u_, u_, u_, u_, u_]) rfl k))))) ?_
    rcases own_n2 p2 with hk | hk
    · refine own_cast (g' := (mkF m 18 #[iv p1, iv p2, iv 2, iv 1, u_, u_, u_, u_, u_, u_, u_] [])) (by rw [hk]) ?_
      refine own_s s₁ (mkF m 23 #[iv p1, iv p2, iv 2, iv 1, iv 1, u_, u_, u_, u_, u_, u_] []) (fun _ k => XS.iloadN X0.here hx rfl (hb hby at_18) rfl  (XS.iloadN X0.here hx rfl (hb hby at_19) rfl  (XS.isub X0.here hx rfl (hb hby at_20) rfl (XS.istore X0.here hx rfl (hb hby at_21) rfl (l' := #[iv p1, iv p2, iv 2, iv 1, iv 1, u_, u_, u_, u_, u_, u_]) rfl k)))) ?_
      obtain ⟨T86, h86, X86, e86, E86, A86, D86, -, st86⟩ := newO X0 hx hZ hown (own_h hw 1 rfl) (own_h hw 2 rfl) (own_h hw 3 rfl) e0 (g := (mkF m 23 #[iv p1, iv p2, iv 2, iv 1, iv 1, u_, u_, u_, u_, u_, u_] [])) rfl (hb hby at_23) (by decide) (by decide)
      obtain ⟨b86, g86⟩ : ∃ z, z = h0.size := ⟨_, rfl⟩
      have ne_oN_b86 : oN ≠ b86 := Nat.ne_of_lt (Nat.lt_of_lt_of_le pr2.lt (Nat.le_of_eq g86.symm))
      have ne_oE_b86 : oE ≠ b86 := Nat.ne_of_lt (Nat.lt_of_lt_of_le pr4.lt (Nat.le_of_eq g86.symm))
      have g_b86 : n0 ≤ b86 := Nat.le_trans Z0 (Nat.le_of_eq g86.symm)
      have sz_b86 : h0.size ≤ b86 := Nat.le_trans (Keep.refl h0 []).1 (Nat.le_of_eq g86.symm)
      rw [← g86] at A86 D86 st86
      have f87 := Sta.ext E86 pr0
      have f88 := Sta.ext E86 pr1
      have f89 := Exa.ext E86 pr2
      have f90 := Fld.ext E86 pr3
      have f91 := pr4.ext E86
      have K86 : Keep h0 h86 [] := (Keep.refl h0 []).ext E86
      have Z86 := Nat.le_trans Z0 E86.1
      have hk86 := Nat.le_trans hk0 E86.1
      have f92 : Fld Z h86 b86 "com/example/tagwright/tagwright/XmlTree" "whiteSpaces" "[Ljava/lang/String;" .null := D86 (Or.inr (own_h hw 13 rfl)) (ty := (.array (.object "java/lang/String"))) (by decide)
      have f93 : Fld Z h86 b86 "com/example/tagwright/tagwright/XmlTree" "whiteSpaceBytes" "[[B" .null := D86 (Or.inr (own_h hw 17 rfl)) (ty := (.array (.array .byte))) (by decide)
      have f94 : Fld Z h86 b86 "com/example/tagwright/tagwright/XmlTree" "current" "Lcom/example/tagwright/tagwright/XmlElement;" .null := D86 (Or.inl (own_h hw 36 rfl)) (ty := (.object "com/example/tagwright/tagwright/XmlElement")) (by decide)
      have f95 : Fld Z h86 b86 "com/example/tagwright/tagwright/XmlTree" "root" "Lcom/example/tagwright/tagwright/XmlElement;" .null := D86 (Or.inl (own_h hw 69 rfl)) (ty := (.object "com/example/tagwright/tagwright/XmlElement")) (by decide)
      have f96 : Fld Z h86 b86 "com/example/tagwright/tagwright/XmlTree" "depth" "I" (.int 0) := D86 (Or.inl (own_h hw 71 rfl)) (ty := .int) (by decide)
      refine own_s T86 (mkF m 26 #[iv p1, iv p2, iv 2, iv 1, iv 1, u_, u_, u_, u_, u_, u_] [(.ref b86)]) st86 ?_
      refine own_s T86 (mkF m 27 #[iv p1, iv p2, iv 2, iv 1, iv 1, u_, u_, u_, u_, u_, u_] [(.ref b86), (.ref b86)]) (fun _ k => XS.dup X86.here hx rfl (hb hby at_26) rfl rfl k) ?_
      obtain ⟨v97, T97, L97, X97, hQ97, st97⟩ := own_callI X86 hx hZ (y := own_y16) (W := 1) (a := b86) rfl hown (own_h hw 4 rfl) (own_h hw 5 rfl) (own_h hw 3 rfl) (own_h hw 6 rfl) (by decide) (own_rmti l Z a0 hw [] b86 h86 n0 Z86 g_b86 A86 f94 f95 f96 f92 f93) (by decide) (by decide) (g := (mkF m 27 #[iv p1, iv p2, iv 2, iv 1, iv 1, u_, u_, u_, u_, u_, u_] [(.ref b86), (.ref b86)])) rfl (by rw [hml]; rfl) (argsL := []) (rest := [(.ref b86)]) rfl (lenOf own_pd0 rfl) rfl (by show 2 * 0 + _ ≤ _; exact Nat.le_of_eq rfl) (hb hby at_27) e86 (by decide) (by decide)
      obtain ⟨rfl, Nq97, Kq97, q97_0, q97_1, q97_2, q97_3⟩ := hQ97
      have N97 := Fr.app N0 Nq97
      have f98 := own_staKeepW f87 Kq97 (allS A86.nostat all0)
      have f99 := own_staKeepW f88 Kq97 (allS A86.nostat all0)
      have f100 := f89.keep Kq97
      have f101 := f90.keep Kq97 (ninS ne_oN_b86 nin0)
      have f102 := f91.keep Kq97 (ninS ne_oE_b86 nin0)
      have f103 := A86.keep Kq97
      have K97 : Keep h0 T97.heap [] := K86.trans Kq97 (allS (Or.inr sz_b86) all0)
      have Z97 := Nat.le_trans Z86 Kq97.1
      have hk97 := Nat.le_trans hk86 Kq97.1
      refine own_s T97 (mkF m 30 #[iv p1, iv p2, iv 2, iv 1, iv 1, u_, u_, u_, u_, u_, u_] [(.ref b86)]) st97 ?_
      refine own_s T97 (mkF m 35 #[iv p1, iv p2, iv 2, iv 1, iv 1, rv b86, u_, u_, u_, u_, u_] [.null, (.ref b86)]) (fun _ k => XS.astore X97.here hx rfl (hb hby at_30) rfl rfl (l' := #[iv p1, iv p2, iv 2, iv 1, iv 1, rv b86, u_, u_, u_, u_, u_]) rfl (XS.aload X97.here hx rfl (hb hby at_32) rfl rfl (XS.aconstNull X97.here hx rfl (hb hby at_34) k))) ?_
      obtain ⟨sl104, T104, h104, kk104, X104, e104, E104, hS, hk104, hZ, hown, st104⟩ := ldcS (s := s) X97 hx hZ hown (own_h hw 18 rfl) (own_wS hw) rfl hS hk97 (g := (mkF m 35 #[iv p1, iv p2, iv 2, iv 1, iv 1, rv b86, u_, u_, u_, u_, u_] [.null, (.ref b86)])) rfl (hb hby at_35) (n := 4) (by decide) (by decide) (by decide) (by decide)
      have f105 := Sta.ext E104 f98
      have f106 := Sta.ext E104 f99
      have f107 := Exa.ext E104 f100
      have f108 := Fld.ext E104 f101
      have f109 := f102.ext E104
      have f110 := Exa.ext E104 q97_0
      have f111 := Fld.ext E104 q97_1
      have f112 := Fld.ext E104 q97_2
      have f113 := Fld.ext E104 q97_3
      have K104 : Keep h0 h104 [] := K97.ext E104
      have Z104 := Nat.le_trans Z97 E104.1
      refine own_s T104 (mkF m 37 #[iv p1, iv p2, iv 2, iv 1, iv 1, rv b86, u_, u_, u_, u_, u_] [(.ref sl104), .null, (.ref b86)]) st104 ?_
      obtain ⟨sl114, T114, h114, kk114, X114, e114, E114, hS, hk114, hZ, hown, st114⟩ := ldcS (s := s) X104 hx hZ hown (own_h hw 18 rfl) (own_wS hw) e104 hS hk104 (g := (mkF m 37 #[iv p1, iv p2, iv 2, iv 1, iv 1, rv b86, u_, u_, u_, u_, u_] [(.ref sl104), .null, (.ref b86)])) rfl (hb hby at_37) (n := 4) (by decide) (by decide) (by decide) (by decide)
      have f115 := Sta.ext E114 f105
      have f116 := Sta.ext E114 f106
      have f117 := Exa.ext E114 f107
      have f118 := Fld.ext E114 f108
      have f119 := f109.ext E114
      have f120 := Exa.ext E114 f110
      have f121 := Fld.ext E114 f111
      have f122 := Fld.ext E114 f112
      have f123 := Fld.ext E114 f113
      have K114 : Keep h0 h114 [] := K104.ext E114
      have Z114 := Nat.le_trans Z104 E114.1
      refine own_s T114 (mkF m 39 #[iv p1, iv p2, iv 2, iv 1, iv 1, rv b86, u_, u_, u_, u_, u_] [(.ref sl114), (.ref sl104), .null, (.ref b86)]) st114 ?_
      refine own_s T114 (mkF m 41 #[iv p1, iv p2, iv 2, iv 1, iv 1, rv b86, u_, u_, u_, u_, u_] [(.int 0), .null, (.ref sl114), (.ref sl104), .null, (.ref b86)]) (fun _ k => XS.aconstNull X114.here hx rfl (hb hby at_39) (XS.iconst X114.here hx rfl (hb hby at_40) k)) ?_
      obtain ⟨T124, h124, k124, X124, e124, E124, A124, O124, st124⟩ := newR X114 hx hZ hown (own_h hw 26 rfl) (own_h hw 11 rfl) e114 (g := (mkF m 41 #[iv p1, iv p2, iv 2, iv 1, iv 1, rv b86, u_, u_, u_, u_, u_] [(.int 0), .null, (.ref sl114), (.ref sl104), .null, (.ref b86)])) rfl (hb hby at_41) rfl (by decide) (cap := 0) (by decide) (by decide) (by decide) (by decide)
      obtain ⟨b124, g124⟩ : ∃ z, z = h114.size := ⟨_, rfl⟩
      have ne_oN_b124 : oN ≠ b124 := Nat.ne_of_lt (Nat.lt_of_lt_of_le f117.lt (Nat.le_of_eq g124.symm))
      have ne_oE_b124 : oE ≠ b124 := Nat.ne_of_lt (Nat.lt_of_lt_of_le f119.lt (Nat.le_of_eq g124.symm))
      have ne_b86_b124 : b86 ≠ b124 := Nat.ne_of_lt (Nat.lt_of_lt_of_le f120.lt (Nat.le_of_eq g124.symm))
      have g_b124 : n0 ≤ b124 := Nat.le_trans Z114 (Nat.le_of_eq g124.symm)
      have sz_b124 : h0.size ≤ b124 := Nat.le_trans K114.1 (Nat.le_of_eq g124.symm)
      rw [← g124] at A124 st124
      have f125 := Sta.ext E124 f115
      have f126 := Sta.ext E124 f116
      have f127 := Exa.ext E124 f117
      have f128 := Fld.ext E124 f118
      have f129 := f119.ext E124
      have f130 := Exa.ext E124 f120
      have f131 := Fld.ext E124 f121
      have f132 := Fld.ext E124 f122
      have f133 := Fld.ext E124 f123
      have K124 : Keep h0 h124 [] := K114.ext E124
      have Z124 := Nat.le_trans Z114 E124.1
      have hk124 := Nat.le_trans hk114 E124.1
      have f124 : Arv Z h124 b124 k124 (.object "java/lang/String") 0 [] .null := (Arv.new A124 (by decide)).pad (pad_rep [] .null 0)
      refine own_s T124 (mkF m 44 #[iv p1, iv p2, iv 2, iv 1, iv 1, rv b86, u_, u_, u_, u_, u_] [(.ref b124), .null, (.ref sl114), (.ref sl104), .null, (.ref b86)]) st124 ?_
      refine own_s T124 (mkF m 45 #[iv p1, iv p2, iv 2, iv 1, iv 1, rv b86, u_, u_, u_, u_, u_] [.null, (.ref b124), .null, (.ref sl114), (.ref sl104), .null, (.ref b86)]) (fun _ k => XS.aconstNull X124.here hx rfl (hb hby at_44) k) ?_
      obtain ⟨v134, T134, L134, X134, hQ134, st134⟩ := own_callV X124 hx hZ (y := own_y17) (z := own_y17) (W := 0) (a := b86) hown (own_h hw 27 rfl) (own_h hw 28 rfl) (notFace_of_selects (args := #[]) (mvT hZ (own_h hw 30 rfl))) (own_h hw 30 rfl) (own_h hw 29 rfl) (own_h hw 3 rfl) (own_h hw 31 rfl) (by decide) (own_rmst0 l Z a0 hw [] b86 sl104 sl114 b124 oN oA k124 h124 n0 Z124 g_b86 f130 f131 f132 f133 f125 f126 f124 ne_b86_b124) (by decide) (by decide) f130 (g := (mkF m 45 #[iv p1, iv p2, iv 2, iv 1, iv 1, rv b86, u_, u_, u_, u_, u_] [.null, (.ref b124), .null, (.ref sl114), (.ref sl104), .null, (.ref b86)])) rfl (by rw [hml]; rfl) (argsL := [.null, (.ref sl104), (.ref sl114), .null, (.ref b124), .null]) (rest := []) rfl (lenOf own_pd12 rfl) rfl (by show 2 * 0 + _ ≤ _; exact Nat.le_of_eq rfl) (hb hby at_45) e124 (by decide) (by decide)
      obtain ⟨zx134, rfl, Nq134, Kq134, g_zx134, sq_zx134, q134_0, q134_1, q134_2, q134_3, q134_4, q134_5, q134_6⟩ := hQ134
      have N134 := Fr.app N97 Nq134
      have ne_oN_zx134 : oN ≠ zx134 := Nat.ne_of_lt (Nat.lt_of_lt_of_le f127.lt sq_zx134)
      have ne_oE_zx134 : oE ≠ zx134 := Nat.ne_of_lt (Nat.lt_of_lt_of_le f129.lt sq_zx134)
      have ne_b86_zx134 : b86 ≠ zx134 := Nat.ne_of_lt (Nat.lt_of_lt_of_le f130.lt sq_zx134)
      have ne_b124_zx134 : b124 ≠ zx134 := Nat.ne_of_lt (Nat.lt_of_lt_of_le f124.lt sq_zx134)
      have sz_zx134 : h0.size ≤ zx134 := Nat.le_trans K124.1 sq_zx134
      have f135 := own_staKeepW f125 Kq134 (allS f130.nostat all0)
      have f136 := own_staKeepW f126 Kq134 (allS f130.nostat all0)
      have f137 := f127.keep Kq134
      have f138 := f128.keep Kq134 (ninS ne_oN_b86 nin0)
      have f139 := f129.keep Kq134 (ninS ne_oE_b86 nin0)
      have f140 := f130.keep Kq134
      have f141 := f124.keep Kq134 (ninS (Ne.symm ne_b86_b124) nin0)
      have K134 : Keep h0 T134.heap [] := K124.trans Kq134 (allS (Or.inr sz_b86) all0)
      have Z134 := Nat.le_trans Z124 Kq134.1
      have hk134 := Nat.le_trans hk124 Kq134.1
      refine own_s T134 (mkF m 48 #[iv p1, iv p2, iv 2, iv 1, iv 1, rv b86, u_, u_, u_, u_, u_] []) st134 ?_
      refine own_s T134 (mkF m 56 #[iv p1, iv p2, iv 2, iv 1, iv 1, rv b86, u_, u_, u_, u_, u_] [.null, (.ref b86)]) (fun _ k => XS.iloadN X134.here hx rfl (hb hby at_48) rfl  (XS.iconst X134.here hx rfl (hb hby at_49) (XS.icmpNo X134.here hx rfl (hb hby at_50) rfl (flt (by decide : ¬ ((2 : Int32) < (2 : Int32)))).1 (XS.aload X134.here hx rfl (hb hby at_53) rfl rfl (XS.aconstNull X134.here hx rfl (hb hby at_55) k))))) ?_
      obtain ⟨sl142, T142, h142, kk142, X142, e142, E142, hS, hk142, hZ, hown, st142⟩ := ldcS (s := s) X134 hx hZ hown (own_h hw 110 rfl) (own_wS hw) rfl hS hk134 (g := (mkF m 56 #[iv p1, iv p2, iv 2, iv 1, iv 1, rv b86, u_, u_, u_, u_, u_] [.null, (.ref b86)])) rfl (hb hby at_56) (n := 4) (by decide) (by decide) (by decide) (by decide)
      have f143 := Sta.ext E142 f135
      have f144 := Sta.ext E142 f136
      have f145 := Exa.ext E142 f137
      have f146 := Fld.ext E142 f138
      have f147 := f139.ext E142
      have f148 := Exa.ext E142 q134_0
      have f149 := f141.ext E142
      have f150 := Fld.ext E142 q134_1
      have f151 := Fld.ext E142 q134_2
      have f152 := Fld.ext E142 q134_3
      have f153 := Exa.ext E142 q134_4
      have f154 := Fld.ext E142 q134_5
      have f155 := Fld.ext E142 q134_6
      have K142 : Keep h0 h142 [] := K134.ext E142
      have Z142 := Nat.le_trans Z134 E142.1
      refine own_s T142 (mkF m 58 #[iv p1, iv p2, iv 2, iv 1, iv 1, rv b86, u_, u_, u_, u_, u_] [(.ref sl142), .null, (.ref b86)]) st142 ?_
      obtain ⟨sl156, T156, h156, kk156, X156, e156, E156, hS, hk156, hZ, hown, st156⟩ := ldcS (s := s) X142 hx hZ hown (own_h hw 110 rfl) (own_wS hw) e142 hS hk142 (g := (mkF m 58 #[iv p1, iv p2, iv 2, iv 1, iv 1, rv b86, u_, u_, u_, u_, u_] [(.ref sl142), .null, (.ref b86)])) rfl (hb hby at_58) (n := 4) (by decide) (by decide) (by decide) (by decide)
      have f157 := Sta.ext E156 f143
      have f158 := Sta.ext E156 f144
      have f159 := Exa.ext E156 f145
      have f160 := Fld.ext E156 f146
      have f161 := f147.ext E156
      have f162 := Exa.ext E156 f148
      have f163 := f149.ext E156
      have f164 := Fld.ext E156 f150
      have f165 := Fld.ext E156 f151
      have f166 := Fld.ext E156 f152
      have f167 := Exa.ext E156 f153
      have f168 := Fld.ext E156 f154
      have f169 := Fld.ext E156 f155
      have K156 : Keep h0 h156 [] := K142.ext E156
      have Z156 := Nat.le_trans Z142 E156.1
      refine own_s T156 (mkF m 60 #[iv p1, iv p2, iv 2, iv 1, iv 1, rv b86, u_, u_, u_, u_, u_] [(.ref sl156), (.ref sl142), .null, (.ref b86)]) st156 ?_
      refine own_s T156 (mkF m 62 #[iv p1, iv p2, iv 2, iv 1, iv 1, rv b86, u_, u_, u_, u_, u_] [(.int 0), .null, (.ref sl156), (.ref sl142), .null, (.ref b86)]) (fun _ k => XS.aconstNull X156.here hx rfl (hb hby at_60) (XS.iconst X156.here hx rfl (hb hby at_61) k)) ?_
      obtain ⟨T170, h170, k170, X170, e170, E170, A170, O170, st170⟩ := newR X156 hx hZ hown (own_h hw 26 rfl) (own_h hw 11 rfl) e156 (g := (mkF m 62 #[iv p1, iv p2, iv 2, iv 1, iv 1, rv b86, u_, u_, u_, u_, u_] [(.int 0), .null, (.ref sl156), (.ref sl142), .null, (.ref b86)])) rfl (hb hby at_62) rfl (by decide) (cap := 0) (by decide) (by decide) (by decide) (by decide)
      obtain ⟨b170, g170⟩ : ∃ z, z = h156.size := ⟨_, rfl⟩
      have ne_oN_b170 : oN ≠ b170 := Nat.ne_of_lt (Nat.lt_of_lt_of_le f159.lt (Nat.le_of_eq g170.symm))
      have ne_oE_b170 : oE ≠ b170 := Nat.ne_of_lt (Nat.lt_of_lt_of_le f161.lt (Nat.le_of_eq g170.symm))
      have ne_b86_b170 : b86 ≠ b170 := Nat.ne_of_lt (Nat.lt_of_lt_of_le f162.lt (Nat.le_of_eq g170.symm))
      have ne_b124_b170 : b124 ≠ b170 := Nat.ne_of_lt (Nat.lt_of_lt_of_le f163.lt (Nat.le_of_eq g170.symm))
      have ne_zx134_b170 : zx134 ≠ b170 := Nat.ne_of_lt (Nat.lt_of_lt_of_le f167.lt (Nat.le_of_eq g170.symm))
      have g_b170 : n0 ≤ b170 := Nat.le_trans Z156 (Nat.le_of_eq g170.symm)
      have sz_b170 : h0.size ≤ b170 := Nat.le_trans K156.1 (Nat.le_of_eq g170.symm)
      rw [← g170] at A170 st170
      have f171 := Sta.ext E170 f157
      have f172 := Sta.ext E170 f158
      have f173 := Exa.ext E170 f159
      have f174 := Fld.ext E170 f160
      have f175 := f161.ext E170
      have f176 := Exa.ext E170 f162
      have f177 := f163.ext E170
      have f178 := Fld.ext E170 f164
      have f179 := Fld.ext E170 f165
      have f180 := Fld.ext E170 f166
      have f181 := Exa.ext E170 f167
      have f182 := Fld.ext E170 f168
      have f183 := Fld.ext E170 f169
      have K170 : Keep h0 h170 [] := K156.ext E170
      have Z170 := Nat.le_trans Z156 E170.1
      have hk170 := Nat.le_trans hk156 E170.1
      have f170 : Arv Z h170 b170 k170 (.object "java/lang/String") 0 [] .null := (Arv.new A170 (by decide)).pad (pad_rep [] .null 0)
      refine own_s T170 (mkF m 65 #[iv p1, iv p2, iv 2, iv 1, iv 1, rv b86, u_, u_, u_, u_, u_] [(.ref b170), .null, (.ref sl156), (.ref sl142), .null, (.ref b86)]) st170 ?_
      refine own_s T170 (mkF m 66 #[iv p1, iv p2, iv 2, iv 1, iv 1, rv b86, u_, u_, u_, u_, u_] [.null, (.ref b170), .null, (.ref sl156), (.ref sl142), .null, (.ref b86)]) (fun _ k => XS.aconstNull X170.here hx rfl (hb hby at_65) k) ?_
      obtain ⟨v184, T184, L184, X184, hQ184, st184⟩ := own_callV X170 hx hZ (y := own_y17) (z := own_y17) (W := 0) (a := b86) hown (own_h hw 27 rfl) (own_h hw 28 rfl) (notFace_of_selects (args := #[]) (mvT hZ (own_h hw 30 rfl))) (own_h hw 30 rfl) (own_h hw 29 rfl) (own_h hw 3 rfl) (own_h hw 31 rfl) (by decide) (own_rmst1_1 l Z a0 hw [] b86 sl142 sl156 b170 zx134 zx134 oN oA k170 .null h170 n0 Z170 g_b86 f176 f178 f179 f180 f171 f172 f170 ne_b86_b170 g_zx134 f181 f182 f183 ne_b86_zx134 ne_zx134_b170 rfl) (by decide) (by decide) f176 (g := (mkF m 66 #[iv p1, iv p2, iv 2, iv 1, iv 1, rv b86, u_, u_, u_, u_, u_] [.null, (.ref b170), .null, (.ref sl156), (.ref sl142), .null, (.ref b86)])) rfl (by rw [hml]; rfl) (argsL := [.null, (.ref sl142), (.ref sl156), .null, (.ref b170), .null]) (rest := []) rfl (lenOf own_pd12 rfl) rfl (by show 2 * 0 + _ ≤ _; exact Nat.le_of_eq rfl) (hb hby at_66) e170 (by decide) (by decide)
      obtain ⟨zx184, zli184, zd184, zkd184, rfl, Nq184, Kq184, g_zx184, sq_zx184, g_zli184, sq_zli184, g_zd184, sq_zd184, q184_0, q184_1, q184_2, q184_3, q184_4, q184_5, q184_6, q184_7, q184_8, q184_9, q184_10, q184_11, q184_12, q184_13, q184_14, q184_15, q184_16, q184_17, q184_18⟩ := hQ184
      have N184 := Fr.app N134 Nq184
      have ne_oN_zx184 : oN ≠ zx184 := Nat.ne_of_lt (Nat.lt_of_lt_of_le f173.lt sq_zx184)
      have ne_oN_zli184 : oN ≠ zli184 := Nat.ne_of_lt (Nat.lt_of_lt_of_le f173.lt sq_zli184)
      have ne_oN_zd184 : oN ≠ zd184 := Nat.ne_of_lt (Nat.lt_of_lt_of_le f173.lt sq_zd184)
      have ne_oE_zx184 : oE ≠ zx184 := Nat.ne_of_lt (Nat.lt_of_lt_of_le f175.lt sq_zx184)
      have ne_oE_zli184 : oE ≠ zli184 := Nat.ne_of_lt (Nat.lt_of_lt_of_le f175.lt sq_zli184)
      have ne_oE_zd184 : oE ≠ zd184 := Nat.ne_of_lt (Nat.lt_of_lt_of_le f175.lt sq_zd184)
      have ne_b86_zx184 : b86 ≠ zx184 := Nat.ne_of_lt (Nat.lt_of_lt_of_le f176.lt sq_zx184)
      have ne_b86_zli184 : b86 ≠ zli184 := Nat.ne_of_lt (Nat.lt_of_lt_of_le f176.lt sq_zli184)
      have ne_b86_zd184 : b86 ≠ zd184 := Nat.ne_of_lt (Nat.lt_of_lt_of_le f176.lt sq_zd184)
      have ne_b124_zx184 : b124 ≠ zx184 := Nat.ne_of_lt (Nat.lt_of_lt_of_le f177.lt sq_zx184)
      have ne_b124_zli184 : b124 ≠ zli184 := Nat.ne_of_lt (Nat.lt_of_lt_of_le f177.lt sq_zli184)
      have ne_b124_zd184 : b124 ≠ zd184 := Nat.ne_of_lt (Nat.lt_of_lt_of_le f177.lt sq_zd184)
      have ne_zx134_zx184 : zx134 ≠ zx184 := Nat.ne_of_lt (Nat.lt_of_lt_of_le f181.lt sq_zx184)
      have ne_zx134_zli184 : zx134 ≠ zli184 := Nat.ne_of_lt (Nat.lt_of_lt_of_le f181.lt sq_zli184)
      have ne_zx134_zd184 : zx134 ≠ zd184 := Nat.ne_of_lt (Nat.lt_of_lt_of_le f181.lt sq_zd184)
      have ne_b170_zx184 : b170 ≠ zx184 := Nat.ne_of_lt (Nat.lt_of_lt_of_le f170.lt sq_zx184)
      have ne_b170_zli184 : b170 ≠ zli184 := Nat.ne_of_lt (Nat.lt_of_lt_of_le f170.lt sq_zli184)
      have ne_b170_zd184 : b170 ≠ zd184 := Nat.ne_of_lt (Nat.lt_of_lt_of_le f170.lt sq_zd184)
      have sz_zx184 : h0.size ≤ zx184 := Nat.le_trans K170.1 sq_zx184
      have sz_zli184 : h0.size ≤ zli184 := Nat.le_trans K170.1 sq_zli184
      have sz_zd184 : h0.size ≤ zd184 := Nat.le_trans K170.1 sq_zd184
      have f185 := own_staKeepW f171 Kq184 (allS f176.nostat (allS f181.nostat all0))
      have f186 := own_staKeepW f172 Kq184 (allS f176.nostat (allS f181.nostat all0))
      have f187 := f173.keep Kq184
      have f188 := f174.keep Kq184 (ninS ne_oN_b86 (ninS ne_oN_zx134 nin0))
      have f189 := f175.keep Kq184 (ninS ne_oE_b86 (ninS ne_oE_zx134 nin0))
      have f190 := f176.keep Kq184
      have f191 := f177.keep Kq184 (ninS (Ne.symm ne_b86_b124) (ninS ne_b124_zx134 nin0))
      have f192 := f181.keep Kq184
      have f193 := f170.keep Kq184 (ninS (Ne.symm ne_b86_b170) (ninS (Ne.symm ne_zx134_b170) nin0))
      have K184 : Keep h0 T184.heap [] := K170.trans Kq184 (allS (Or.inr sz_b86) (allS (Or.inr sz_zx134) all0))
      have Z184 := Nat.le_trans Z170 Kq184.1
      have hk184 := Nat.le_trans hk170 Kq184.1
      refine own_s T184 (mkF m 69 #[iv p1, iv p2, iv 2, iv 1, iv 1, rv b86, u_, u_, u_, u_, u_] []) st184 ?_
      refine own_s T184 (mkF m 92 #[iv p1, iv p2, iv 2, iv 1, iv 1, rv b86, u_, u_, u_, u_, u_] [(.ref b86)]) (fun _ k => XS.iloadN X184.here hx rfl (hb hby at_69) rfl  (XS.iconst X184.here hx rfl (hb hby at_70) (XS.icmpYes X184.here hx rfl (pc0 := 71) (pc' := 90) rfl (hb hby at_71) rfl (tlt (by decide : ((2 : Int32) < (3 : Int32)))).1 (by decide) (by decide) (XS.aload X184.here hx rfl (hb hby at_90) rfl rfl k)))) ?_
      obtain ⟨v194, T194, L194, X194, hQ194, st194⟩ := own_callV X184 hx hZ (y := own_y22) (z := own_y22) (W := 0) (a := b86) hown (own_h hw 72 rfl) (own_h hw 73 rfl) (notFace_of_selects (args := #[]) (mvT hZ (own_h hw 75 rfl))) (own_h hw 75 rfl) (own_h hw 74 rfl) (own_h hw 3 rfl) (own_h hw 76 rfl) (by decide) (own_rmend2 l Z a0 hw [] b86 zx184 zx134 (.ref zx134) T184.heap n0 Z184 g_b86 q184_0 q184_1 q184_2 q184_3 q184_4 q184_6 ne_b86_zx184 rfl) (by decide) (by decide) q184_0 (g := (mkF m 92 #[iv p1, iv p2, iv 2, iv 1, iv 1, rv b86, u_, u_, u_, u_, u_] [(.ref b86)])) rfl (by rw [hml]; rfl) (argsL := []) (rest := []) rfl (lenOf own_pd0 rfl) rfl (by show 2 * 0 + _ ≤ _; exact Nat.le_of_eq rfl) (hb hby at_92) rfl (by decide) (by decide)
      obtain ⟨rfl, Nq194, Kq194, q194_0, q194_1, q194_2, q194_3⟩ := hQ194
      have N194 := Fr.app N184 Nq194
      have f195 := own_staKeepW f185 Kq194 (allS q184_0.nostat all0)
      have f196 := own_staKeepW f186 Kq194 (allS q184_0.nostat all0)
      have f197 := f187.keep Kq194
      have f198 := f188.keep Kq194 (ninS ne_oN_b86 nin0)
      have f199 := f189.keep Kq194 (ninS ne_oE_b86 nin0)
      have f200 := q184_0.keep Kq194
      have f201 := f191.keep Kq194 (ninS (Ne.symm ne_b86_b124) nin0)
      have f202 := q184_7.keep Kq194
      have f203 := f193.keep Kq194 (ninS (Ne.symm ne_b86_b170) nin0)
      have f204 := q184_4.keep Kq194
      have f205 := q184_5.keep Kq194 (ninS (Ne.symm ne_b86_zx184) nin0)
      have f206 := q184_6.keep Kq194 (ninS (Ne.symm ne_b86_zx184) nin0)
      have f207 := q184_8.keep Kq194 (ninS (Ne.symm ne_b86_zx134) nin0)
      have f208 := q184_9.keep Kq194 (ninS (Ne.symm ne_b86_zx134) nin0)
      have f209 := q184_10.keep Kq194
      have f210 := q184_11.keep Kq194 (ninS (Ne.symm ne_b86_zli184) nin0)
      have f211 := q184_12.keep Kq194 (ninS (Ne.symm ne_b86_zli184) nin0)
      have f212 := q184_13.keep Kq194 (ninS (Ne.symm ne_b86_zli184) nin0)
      have f213 := q184_14.keep Kq194 (ninS (Ne.symm ne_b86_zd184) nin0)
      have K194 : Keep h0 T194.heap [] := K184.trans Kq194 (allS (Or.inr sz_b86) all0)
      have Z194 := Nat.le_trans Z184 Kq194.1
      have hk194 := Nat.le_trans hk184 Kq194.1
      refine own_s T194 (mkF m 95 #[iv p1, iv p2, iv 2, iv 1, iv 1, rv b86, u_, u_, u_, u_, u_] []) st194 ?_
      refine own_s T194 (mkF m 107 #[iv p1, iv p2, iv 2, iv 1, iv 1, rv b86, u_, u_, u_, u_, u_] [(.int 3), (.int 1)]) (fun _ k => XS.iloadN X194.here hx rfl (hb hby at_95) rfl  (XS.iconst X194.here hx rfl (hb hby at_96) (XS.icmpYes X194.here hx rfl (pc0 := 97) (pc' := 105) rfl (hb hby at_97) rfl (tlt (by decide : ((1 : Int32) < (2 : Int32)))).1 (by decide) (by decide) (XS.iloadN X194.here hx rfl (hb hby at_105) rfl  (XS.iconst X194.here hx rfl (hb hby at_106) k))))) ?_
      refine own_s T194 (mkF m 117 #[iv p1, iv p2, iv 2, iv 1, iv 1, rv b86, u_, u_, u_, u_, u_] [(.ref b86)]) (fun _ k => XS.icmpYes X194.here hx rfl (pc0 := 107) (pc' := 115) rfl (hb hby at_107) rfl (tlt (by decide : ((1 : Int32) < (3 : Int32)))).1 (by decide) (by decide) (XS.aload X194.here hx rfl (hb hby at_115) rfl rfl k)) ?_
      obtain ⟨v214, T214, L214, X214, hQ214, st214⟩ := own_callV X194 hx hZ (y := own_y20) (z := own_y20) (W := 0) (a := b86) hown (own_h hw 82 rfl) (own_h hw 83 rfl) (notFace_of_selects (args := #[]) (mvT hZ (own_h hw 85 rfl))) (own_h hw 85 rfl) (own_h hw 84 rfl) (own_h hw 3 rfl) (own_h hw 86 rfl) (by decide) (own_rmgdp l Z a0 hw [] b86 (1 : Int32) T194.heap n0 Z194 q194_3) (by decide) (by decide) q194_0 (g := (mkF m 117 #[iv p1, iv p2, iv 2, iv 1, iv 1, rv b86, u_, u_, u_, u_, u_] [(.ref b86)])) rfl (by rw [hml]; rfl) (argsL := []) (rest := []) rfl (lenOf own_pd7 rfl) rfl (by show 2 * 0 + _ ≤ _; exact Nat.le_of_eq rfl) (hb hby at_117) rfl (by decide) (by decide)
      obtain ⟨rfl, Nq214, e214⟩ := hQ214
      have N214 := Fr.app N194 Nq214
      refine own_s T214 (mkF m 120 #[iv p1, iv p2, iv 2, iv 1, iv 1, rv b86, u_, u_, u_, u_, u_] [(.int 1)]) st214 ?_
      refine own_s T214 (mkF m 132 #[iv p1, iv p2, iv 2, iv 1, iv 1, rv b86, iv 1, u_, u_, u_, u_] []) (fun _ k => XS.iload X214.here hx rfl (hb hby at_120) rfl  (XS.icmpNo X214.here hx rfl (hb hby at_122) rfl (teq (by decide : ((1 : Int32) = (1 : Int32)))).2 (XS.iconst X214.here hx rfl (hb hby at_125) (XS.goto X214.here hx rfl (pc0 := 126) (pc' := 130) rfl (hb hby at_126) (by decide) (by decide) (XS.istore X214.here hx rfl (hb hby at_130) rfl (l' := #[iv p1, iv p2, iv 2, iv 1, iv 1, rv b86, iv 1, u_, u_, u_, u_]) rfl k))))) ?_
      refine own_s T214 (mkF m 140 #[iv p1, iv p2, iv 2, iv 1, iv 1, rv b86, iv 1, u_, u_, u_, u_] [.null, (.ref b86)]) (fun _ k => XS.iload X214.here hx rfl (hb hby at_132) rfl  (XS.ifNo X214.here hx rfl (hb hby at_134) rfl ((if0 _ _).trans (tlt (by decide : ((0 : Int32) < (1 : Int32)))).2.2.2) (XS.aload X214.here hx rfl (hb hby at_137) rfl rfl (XS.aconstNull X214.here hx rfl (hb hby at_139) k)))) ?_
      obtain ⟨sl215, T215, h215, kk215, X215, e215, E215, hS, hk215, hZ, hown, st215⟩ := ldcS (s := s) X214 hx hZ hown (own_h hw 166 rfl) (own_wS hw) e214 hS hk194 (g := (mkF m 140 #[iv p1, iv p2, iv 2, iv 1, iv 1, rv b86, iv 1, u_, u_, u_, u_] [.null, (.ref b86)])) rfl (hb hby at_140) (n := 4) (by decide) (by decide) (by decide) (by decide)
      have f216 := Sta.ext E215 f195
      have f217 := Sta.ext E215 f196
      have f218 := Exa.ext E215 f197
      have f219 := Fld.ext E215 f198
      have f220 := f199.ext E215
      have f221 := Exa.ext E215 q194_0
      have f222 := f201.ext E215
      have f223 := Exa.ext E215 f202
      have f224 := f203.ext E215
      have f225 := Exa.ext E215 f204
      have f226 := Fld.ext E215 f205
      have f227 := Fld.ext E215 f206
      have f228 := Fld.ext E215 f207
      have f229 := Fld.ext E215 f208
      have f230 := Exa.ext E215 f209
      have f231 := Fld.ext E215 f210
      have f232 := Fld.ext E215 f211
      have f233 := Fld.ext E215 f212
      have f234 := f213.ext E215
      have f235 := Fld.ext E215 q194_1
      have f236 := Fld.ext E215 q194_2
      have f237 := Fld.ext E215 q194_3
      have K215 : Keep h0 h215 [] := K194.ext E215
      have Z215 := Nat.le_trans Z194 E215.1
      refine own_s T215 (mkF m 142 #[iv p1, iv p2, iv 2, iv 1, iv 1, rv b86, iv 1, u_, u_, u_, u_] [(.ref sl215), .null, (.ref b86)]) st215 ?_
      obtain ⟨sl238, T238, h238, kk238, X238, e238, E238, hS, hk238, hZ, hown, st238⟩ := ldcS (s := s) X215 hx hZ hown (own_h hw 166 rfl) (own_wS hw) e215 hS hk215 (g := (mkF m 142 #[iv p1, iv p2, iv 2, iv 1, iv 1, rv b86, iv 1, u_, u_, u_, u_] [(.ref sl215), .null, (.ref b86)])) rfl (hb hby at_142) (n := 4) (by decide) (by decide) (by decide) (by decide)
      have f239 := Sta.ext E238 f216
      have f240 := Sta.ext E238 f217
      have f241 := Exa.ext E238 f218
      have f242 := Fld.ext E238 f219
      have f243 := f220.ext E238
      have f244 := Exa.ext E238 f221
      have f245 := f222.ext E238
      have f246 := Exa.ext E238 f223
      have f247 := f224.ext E238
      have f248 := Exa.ext E238 f225
      have f249 := Fld.ext E238 f226
      have f250 := Fld.ext E238 f227
      have f251 := Fld.ext E238 f228
      have f252 := Fld.ext E238 f229
      have f253 := Exa.ext E238 f230
      have f254 := Fld.ext E238 f231
      have f255 := Fld.ext E238 f232
      have f256 := Fld.ext E238 f233
      have f257 := f234.ext E238
      have f258 := Fld.ext E238 f235
      have f259 := Fld.ext E238 f236
      have f260 := Fld.ext E238 f237
      have K238 : Keep h0 h238 [] := K215.ext E238
      have Z238 := Nat.le_trans Z215 E238.1
      refine own_s T238 (mkF m 144 #[iv p1, iv p2, iv 2, iv 1, iv 1, rv b86, iv 1, u_, u_, u_, u_] [(.ref sl238), (.ref sl215), .null, (.ref b86)]) st238 ?_
      refine own_s T238 (mkF m 146 #[iv p1, iv p2, iv 2, iv 1, iv 1, rv b86, iv 1, u_, u_, u_, u_] [(.int 0), .null, (.ref sl238), (.ref sl215), .null, (.ref b86)]) (fun _ k => XS.aconstNull X238.here hx rfl (hb hby at_144) (XS.iconst X238.here hx rfl (hb hby at_145) k)) ?_
      obtain ⟨T261, h261, k261, X261, e261, E261, A261, O261, st261⟩ := newR X238 hx hZ hown (own_h hw 26 rfl) (own_h hw 11 rfl) e238 (g := (mkF m 146 #[iv p1, iv p2, iv 2, iv 1, iv 1, rv b86, iv 1, u_, u_, u_, u_] [(.int 0), .null, (.ref sl238), (.ref sl215), .null, (.ref b86)])) rfl (hb hby at_146) rfl (by decide) (cap := 0) (by decide) (by decide) (by decide) (by decide)
      obtain ⟨b261, g261⟩ : ∃ z, z = h238.size := ⟨_, rfl⟩
      have ne_oN_b261 : oN ≠ b261 := Nat.ne_of_lt (Nat.lt_of_lt_of_le f241.lt (Nat.le_of_eq g261.symm))
      have ne_oE_b261 : oE ≠ b261 := Nat.ne_of_lt (Nat.lt_of_lt_of_le f243.lt (Nat.le_of_eq g261.symm))
      have ne_b86_b261 : b86 ≠ b261 := Nat.ne_of_lt (Nat.lt_of_lt_of_le f244.lt (Nat.le_of_eq g261.symm))
      have ne_b124_b261 : b124 ≠ b261 := Nat.ne_of_lt (Nat.lt_of_lt_of_le f245.lt (Nat.le_of_eq g261.symm))
      have ne_zx134_b261 : zx134 ≠ b261 := Nat.ne_of_lt (Nat.lt_of_lt_of_le f246.lt (Nat.le_of_eq g261.symm))
      have ne_b170_b261 : b170 ≠ b261 := Nat.ne_of_lt (Nat.lt_of_lt_of_le f247.lt (Nat.le_of_eq g261.symm))
      have ne_zx184_b261 : zx184 ≠ b261 := Nat.ne_of_lt (Nat.lt_of_lt_of_le f248.lt (Nat.le_of_eq g261.symm))
      have ne_zli184_b261 : zli184 ≠ b261 := Nat.ne_of_lt (Nat.lt_of_lt_of_le f253.lt (Nat.le_of_eq g261.symm))
      have ne_zd184_b261 : zd184 ≠ b261 := Nat.ne_of_lt (Nat.lt_of_lt_of_le f257.lt (Nat.le_of_eq g261.symm))
      have g_b261 : n0 ≤ b261 := Nat.le_trans Z238 (Nat.le_of_eq g261.symm)
      have sz_b261 : h0.size ≤ b261 := Nat.le_trans K238.1 (Nat.le_of_eq g261.symm)
      rw [← g261] at A261 st261
      have f262 := Sta.ext E261 f239
      have f263 := Sta.ext E261 f240
      have f264 := Exa.ext E261 f241
      have f265 := Fld.ext E261 f242
      have f266 := f243.ext E261
      have f267 := Exa.ext E261 f244
      have f268 := f245.ext E261
      have f269 := Exa.ext E261 f246
      have f270 := f247.ext E261
      have f271 := Exa.ext E261 f248
      have f272 := Fld.ext E261 f249
      have f273 := Fld.ext E261 f250
      have f274 := Fld.ext E261 f251
      have f275 := Fld.ext E261 f252
      have f276 := Exa.ext E261 f253
      have f277 := Fld.ext E261 f254
      have f278 := Fld.ext E261 f255
      have f279 := Fld.ext E261 f256
      have f280 := f257.ext E261
      have f281 := Fld.ext E261 f258
      have f282 := Fld.ext E261 f259
      have f283 := Fld.ext E261 f260
      have K261 : Keep h0 h261 [] := K238.ext E261
      have Z261 := Nat.le_trans Z238 E261.1
      have hk261 := Nat.le_trans hk238 E261.1
      have f261 : Arv Z h261 b261 k261 (.object "java/lang/String") 0 [] .null := (Arv.new A261 (by decide)).pad (pad_rep [] .null 0)
      refine own_s T261 (mkF m 149 #[iv p1, iv p2, iv 2, iv 1, iv 1, rv b86, iv 1, u_, u_, u_, u_] [(.ref b261), .null, (.ref sl238), (.ref sl215), .null, (.ref b86)]) st261 ?_
      refine own_s T261 (mkF m 150 #[iv p1, iv p2, iv 2, iv 1, iv 1, rv b86, iv 1, u_, u_, u_, u_] [.null, (.ref b261), .null, (.ref sl238), (.ref sl215), .null, (.ref b86)]) (fun _ k => XS.aconstNull X261.here hx rfl (hb hby at_149) k) ?_
      obtain ⟨v284, T284, L284, X284, hQ284, st284⟩ := own_callV X261 hx hZ (y := own_y17) (z := own_y17) (W := 0) (a := b86) hown (own_h hw 27 rfl) (own_h hw 28 rfl) (notFace_of_selects (args := #[]) (mvT hZ (own_h hw 30 rfl))) (own_h hw 30 rfl) (own_h hw 29 rfl) (own_h hw 3 rfl) (own_h hw 31 rfl) (by decide) (own_rmst2_1 l Z a0 hw [] b86 sl215 sl238 b261 zx134 zx134 oN oA k261 zli184 zd184 zkd184 zx184 h261 n0 Z261 g_b86 f267 f281 f282 f283 f262 f263 f261 ne_b86_b261 g_zli184 g_zd184 f269 f274 f276 f277 f278 f279 f280 q184_15 q184_16 (Ne.symm ne_oN_zli184) ne_zx134_zli184 ne_zx134_zd184 ne_b86_zx134 ne_b86_zli184 ne_b86_zd184 ne_zx134_b261 ne_zli184_b261 ne_zd184_b261) (by decide) (by decide) f267 (g := (mkF m 150 #[iv p1, iv p2, iv 2, iv 1, iv 1, rv b86, iv 1, u_, u_, u_, u_] [.null, (.ref b261), .null, (.ref sl238), (.ref sl215), .null, (.ref b86)])) rfl (by rw [hml]; rfl) (argsL := [.null, (.ref sl215), (.ref sl238), .null, (.ref b261), .null]) (rest := []) rfl (lenOf own_pd12 rfl) rfl (by show 2 * 0 + _ ≤ _; exact Nat.le_of_eq rfl) (hb hby at_150) e261 (by decide) (by decide)
      obtain ⟨zx284, rfl, Nq284, Kq284, g_zx284, sq_zx284, q284_0, q284_1, q284_2, q284_3, q284_4, q284_5, q284_6, q284_7, q284_8, q284_9, q284_10, q284_11⟩ := hQ284
      have N284 := Fr.app N214 Nq284
      have ne_oN_zx284 : oN ≠ zx284 := Nat.ne_of_lt (Nat.lt_of_lt_of_le f264.lt sq_zx284)
      have ne_oE_zx284 : oE ≠ zx284 := Nat.ne_of_lt (Nat.lt_of_lt_of_le f266.lt sq_zx284)
      have ne_b86_zx284 : b86 ≠ zx284 := Nat.ne_of_lt (Nat.lt_of_lt_of_le f267.lt sq_zx284)
      have ne_b124_zx284 : b124 ≠ zx284 := Nat.ne_of_lt (Nat.lt_of_lt_of_le f268.lt sq_zx284)
      have ne_zx134_zx284 : zx134 ≠ zx284 := Nat.ne_of_lt (Nat.lt_of_lt_of_le f269.lt sq_zx284)
      have ne_b170_zx284 : b170 ≠ zx284 := Nat.ne_of_lt (Nat.lt_of_lt_of_le f270.lt sq_zx284)
      have ne_zx184_zx284 : zx184 ≠ zx284 := Nat.ne_of_lt (Nat.lt_of_lt_of_le f271.lt sq_zx284)
      have ne_zli184_zx284 : zli184 ≠ zx284 := Nat.ne_of_lt (Nat.lt_of_lt_of_le f276.lt sq_zx284)
      have ne_zd184_zx284 : zd184 ≠ zx284 := Nat.ne_of_lt (Nat.lt_of_lt_of_le f280.lt sq_zx284)
      have ne_b261_zx284 : b261 ≠ zx284 := Nat.ne_of_lt (Nat.lt_of_lt_of_le f261.lt sq_zx284)
      have sz_zx284 : h0.size ≤ zx284 := Nat.le_trans K261.1 sq_zx284
      have f285 := own_staKeepW f262 Kq284 (allS f267.nostat (allS f276.nostat (allS f280.nostat all0)))
      have f286 := own_staKeepW f263 Kq284 (allS f267.nostat (allS f276.nostat (allS f280.nostat all0)))
      have f287 := f264.keep Kq284
      have f288 := f265.keep Kq284 (ninS ne_oN_b86 (ninS ne_oN_zli184 (ninS ne_oN_zd184 nin0)))
      have f289 := f266.keep Kq284 (ninS ne_oE_b86 (ninS ne_oE_zli184 (ninS ne_oE_zd184 nin0)))
      have f290 := f267.keep Kq284
      have f291 := f268.keep Kq284 (ninS (Ne.symm ne_b86_b124) (ninS ne_b124_zli184 (ninS ne_b124_zd184 nin0)))
      have f292 := f269.keep Kq284
      have f293 := f270.keep Kq284 (ninS (Ne.symm ne_b86_b170) (ninS ne_b170_zli184 (ninS ne_b170_zd184 nin0)))
      have f294 := f271.keep Kq284
      have f295 := f272.keep Kq284 (ninS (Ne.symm ne_b86_zx184) (ninS q184_17 (ninS q184_18 nin0)))
      have f296 := f273.keep Kq284 (ninS (Ne.symm ne_b86_zx184) (ninS q184_17 (ninS q184_18 nin0)))
      have f297 := f274.keep Kq284 (ninS (Ne.symm ne_b86_zx134) (ninS ne_zx134_zli184 (ninS ne_zx134_zd184 nin0)))
      have f298 := f275.keep Kq284 (ninS (Ne.symm ne_b86_zx134) (ninS ne_zx134_zli184 (ninS ne_zx134_zd184 nin0)))
      have f299 := f276.keep Kq284
      have f300 := f261.keep Kq284 (ninS (Ne.symm ne_b86_b261) (ninS (Ne.symm ne_zli184_b261) (ninS (Ne.symm ne_zd184_b261) nin0)))
      have K284 : Keep h0 T284.heap [] := K261.trans Kq284 (allS (Or.inr sz_b86) (allS (Or.inr sz_zli184) (allS (Or.inr sz_zd184) all0)))
      have Z284 := Nat.le_trans Z261 Kq284.1
      have hk284 := Nat.le_trans hk261 Kq284.1
      refine own_s T284 (mkF m 153 #[iv p1, iv p2, iv 2, iv 1, iv 1, rv b86, iv 1, u_, u_, u_, u_] []) st284 ?_
      refine own_s T284 (mkF m 160 #[iv p1, iv p2, iv 2, iv 1, iv 1, rv b86, iv 1, u_, u_, u_, u_] [(.ref b86)]) (fun _ k => XS.iload X284.here hx rfl (hb hby at_153) rfl  (XS.ifNo X284.here hx rfl (hb hby at_155) rfl ((if0 _ _).trans (feq (by decide : ¬ ((1 : Int32) = (0 : Int32)))).1) (XS.aload X284.here hx rfl (hb hby at_158) rfl rfl k))) ?_
      obtain ⟨v301, T301, L301, X301, hQ301, st301⟩ := own_callV X284 hx hZ (y := own_y20) (z := own_y20) (W := 0) (a := b86) hown (own_h hw 82 rfl) (own_h hw 83 rfl) (notFace_of_selects (args := #[]) (mvT hZ (own_h hw 85 rfl))) (own_h hw 85 rfl) (own_h hw 84 rfl) (own_h hw 3 rfl) (own_h hw 86 rfl) (by decide) (own_rmgdp l Z a0 hw [] b86 (2 : Int32) T284.heap n0 Z284 q284_3) (by decide) (by decide) q284_0 (g := (mkF m 160 #[iv p1, iv p2, iv 2, iv 1, iv 1, rv b86, iv 1, u_, u_, u_, u_] [(.ref b86)])) rfl (by rw [hml]; rfl) (argsL := []) (rest := []) rfl (lenOf own_pd7 rfl) rfl (by show 2 * 0 + _ ≤ _; exact Nat.le_of_eq rfl) (hb hby at_160) rfl (by decide) (by decide)
      obtain ⟨rfl, Nq301, e301⟩ := hQ301
      have N301 := Fr.app N284 Nq301
      refine own_s T301 (mkF m 163 #[iv p1, iv p2, iv 2, iv 1, iv 1, rv b86, iv 1, u_, u_, u_, u_] [(.int 2)]) st301 ?_
      refine own_s T301 (mkF m 171 #[iv p1, iv p2, iv 2, iv 1, iv 1, rv b86, iv 1, u_, u_, u_, u_] [(.int 1)]) (fun _ k => XS.iload X301.here hx rfl (hb hby at_163) rfl  (XS.iconst X301.here hx rfl (hb hby at_165) (XS.iadd X301.here hx rfl (hb hby at_166) rfl (XS.icmpNo X301.here hx rfl (hb hby at_167) rfl (teq (by decide : ((2 : Int32) = (2 : Int32)))).2 (XS.iconst X301.here hx rfl (hb hby at_170) k))))) ?_
      refine own_s T301 (mkF m 179 #[iv p1, iv p2, iv 2, iv 1, iv 1, rv b86, iv 1, u_, u_, u_, u_] [(.ref b86)]) (fun _ k => XS.goto X301.here hx rfl (pc0 := 171) (pc' := 175) rfl (hb hby at_171) (by decide) (by decide) (XS.istore X301.here hx rfl (hb hby at_175) rfl (l' := #[iv p1, iv p2, iv 2, iv 1, iv 1, rv b86, iv 1, u_, u_, u_, u_]) rfl (XS.aload X301.here hx rfl (hb hby at_177) rfl rfl k))) ?_
      obtain ⟨v302, T302, L302, X302, hQ302, st302⟩ := own_callV X301 hx hZ (y := own_y21) (z := own_y21) (W := 0) (a := b86) hown (own_h hw 87 rfl) (own_h hw 88 rfl) (notFace_of_selects (args := #[]) (mvT hZ (own_h hw 90 rfl))) (own_h hw 90 rfl) (own_h hw 89 rfl) (own_h hw 3 rfl) (own_h hw 91 rfl) (by decide) (own_rmgrt l Z a0 hw [] b86 zx134 T284.heap n0 Z284 q284_2) (by decide) (by decide) q284_0 (g := (mkF m 179 #[iv p1, iv p2, iv 2, iv 1, iv 1, rv b86, iv 1, u_, u_, u_, u_] [(.ref b86)])) rfl (by rw [hml]; rfl) (argsL := []) (rest := []) rfl (lenOf own_pd11 rfl) rfl (by show 2 * 0 + _ ≤ _; exact Nat.le_of_eq rfl) (hb hby at_179) e301 (by decide) (by decide)
      obtain ⟨rfl, Nq302, e302⟩ := hQ302
      have N302 := Fr.app N301 Nq302
      refine own_s T302 (mkF m 182 #[iv p1, iv p2, iv 2, iv 1, iv 1, rv b86, iv 1, u_, u_, u_, u_] [(.ref zx134)]) st302 ?_
      refine own_s T302 (mkF m 191 #[iv p1, iv p2, iv 2, iv 1, iv 1, rv b86, iv 1, rv zx134, u_, u_, u_] [(.ref zx134)]) (fun _ k => XS.astore X302.here hx rfl (hb hby at_182) rfl rfl (l' := #[iv p1, iv p2, iv 2, iv 1, iv 1, rv b86, iv 1, rv zx134, u_, u_, u_]) rfl (XS.aload X302.here hx rfl (hb hby at_184) rfl rfl (XS.ifnullNo X302.here hx rfl (hb hby at_186) rfl (XS.aload X302.here hx rfl (hb hby at_189) rfl rfl k)))) ?_
      obtain ⟨v303, T303, L303, X303, hQ303, st303⟩ := own_callV X302 hx hZ (y := own_y18) (z := own_y18) (W := 0) (a := zx134) hown (own_h hw 92 rfl) (own_h hw 78 rfl) (notFace_of_selects (args := #[]) (mvT hZ (own_h hw 80 rfl))) (own_h hw 80 rfl) (own_h hw 79 rfl) (own_h hw 34 rfl) (own_h hw 81 rfl) (by decide) (own_rmgpar l Z a0 hw [] zx134 .null T284.heap n0 Z284 f298 rfl) (by decide) (by decide) f292 (g := (mkF m 191 #[iv p1, iv p2, iv 2, iv 1, iv 1, rv b86, iv 1, rv zx134, u_, u_, u_] [(.ref zx134)])) rfl (by rw [hml]; rfl) (argsL := []) (rest := []) rfl (lenOf own_pd11 rfl) rfl (by show 2 * 0 + _ ≤ _; exact Nat.le_of_eq rfl) (hb hby at_191) e302 (by decide) (by decide)
      obtain ⟨rfl, Nq303, e303⟩ := hQ303
      have N303 := Fr.app N302 Nq303
      refine own_s T303 (mkF m 194 #[iv p1, iv p2, iv 2, iv 1, iv 1, rv b86, iv 1, rv zx134, u_, u_, u_] [.null]) st303 ?_
      refine own_s T303 (mkF m 205 #[iv p1, iv p2, iv 2, iv 1, iv 1, rv b86, iv 1, rv zx134, u_, u_, u_] [(.int 1)]) (fun _ k => XS.ifnullYes X303.here hx rfl (pc0 := 194) (pc' := 199) rfl (hb hby at_194) rfl (by decide) (by decide) (XS.iloadN X303.here hx rfl (hb hby at_199) rfl  (XS.iconst X303.here hx rfl (hb hby at_200) (XS.icmpNo X303.here hx rfl (hb hby at_201) rfl (flt (by decide : ¬ ((2 : Int32) < (2 : Int32)))).1 (XS.iconst X303.here hx rfl (hb hby at_204) k))))) ?_
      refine own_s T303 (mkF m 216 #[iv p1, iv p2, iv 2, iv 1, iv 1, rv b86, iv 1, rv zx134, u_, u_, u_] [(.int 1), (.int 1)]) (fun _ k => XS.goto X303.here hx rfl (pc0 := 205) (pc' := 209) rfl (hb hby at_205) (by decide) (by decide) (XS.iload X303.here hx rfl (hb hby at_209) rfl  (XS.iconst X303.here hx rfl (hb hby at_211) (XS.icmpNo X303.here hx rfl (hb hby at_212) rfl (teq (by decide : ((1 : Int32) = (1 : Int32)))).2 (XS.iconst X303.here hx rfl (hb hby at_215) k))))) ?_
      refine own_s T303 (mkF m 228 #[iv p1, iv p2, iv 2, iv 1, iv 1, rv b86, iv 1, rv zx134, iv 2, u_, u_] []) (fun _ k => XS.goto X303.here hx rfl (pc0 := 216) (pc' := 220) rfl (hb hby at_216) (by decide) (by decide) (XS.iadd X303.here hx rfl (hb hby at_220) rfl (XS.istore X303.here hx rfl (hb hby at_221) rfl (l' := #[iv p1, iv p2, iv 2, iv 1, iv 1, rv b86, iv 1, rv zx134, iv 2, u_, u_]) rfl (XS.iload X303.here hx rfl (hb hby at_223) rfl  (XS.ifNo X303.here hx rfl (hb hby at_225) rfl ((if0 _ _).trans (feq (by decide : ¬ ((1 : Int32) = (0 : Int32)))).1) k))))) ?_
      refine own_s T303 (mkF m 230 #[iv p1, iv p2, iv 2, iv 1, iv 1, rv b86, iv 1, rv zx134, iv 2, u_, u_] [(.ref zx134)]) (fun _ k => XS.aload X303.here hx rfl (hb hby at_228) rfl rfl k) ?_
      obtain ⟨v304, T304, L304, X304, hQ304, st304⟩ := own_callV X303 hx hZ (y := own_y19) (z := own_y19) (W := 0) (a := zx134) hown (own_h hw 93 rfl) (own_h hw 94 rfl) (notFace_of_selects (args := #[]) (mvT hZ (own_h hw 96 rfl))) (own_h hw 96 rfl) (own_h hw 95 rfl) (own_h hw 34 rfl) (own_h hw 97 rfl) (by decide) (own_rmgch l Z a0 hw [] zx134 zli184 T284.heap n0 Z284 f297) (by decide) (by decide) f292 (g := (mkF m 230 #[iv p1, iv p2, iv 2, iv 1, iv 1, rv b86, iv 1, rv zx134, iv 2, u_, u_] [(.ref zx134)])) rfl (by rw [hml]; rfl) (argsL := []) (rest := []) rfl (lenOf own_pd13 rfl) rfl (by show 2 * 0 + _ ≤ _; exact Nat.le_of_eq rfl) (hb hby at_230) e303 (by decide) (by decide)
      obtain ⟨rfl, Nq304, e304⟩ := hQ304
      have N304 := Fr.app N303 Nq304
      refine own_s T304 (mkF m 233 #[iv p1, iv p2, iv 2, iv 1, iv 1, rv b86, iv 1, rv zx134, iv 2, u_, u_] [(.ref zli184)]) st304 ?_
      obtain ⟨v305, T305, L305, X305, hQ305, st305⟩ := own_callF X304 hx hZ (y := own_y12) (z := own_y5) (W := 0) (a := zli184) hown (own_h hw 98 rfl) (own_h hw 99 rfl) (mvT hZ (own_h hw 100 rfl)) (own_h hw 160 rfl) (own_h hw 161 rfl) (own_h hw 162 rfl) (own_h hw 163 rfl) (own_h hw 147 rfl) (own_h hw 117 rfl) (own_h hw 164 rfl) (by decide) (own_rmalsz l Z a0 hw [] zli184 (2 : Int32) T284.heap n0 Z284 q284_10) (by decide) (by decide) q284_7 (g := (mkF m 233 #[iv p1, iv p2, iv 2, iv 1, iv 1, rv b86, iv 1, rv zx134, iv 2, u_, u_] [(.ref zli184)])) rfl (by rw [hml]; rfl) (argsL := []) (rest := []) rfl (lenOf own_pd7 rfl) rfl (by show 2 * 0 + _ ≤ _; exact Nat.le_of_eq rfl) (hb hby at_233) e304 (by decide) (by decide)
      obtain ⟨rfl, Nq305, e305⟩ := hQ305
      have N305 := Fr.app N304 Nq305
      refine own_s T305 (mkF m 238 #[iv p1, iv p2, iv 2, iv 1, iv 1, rv b86, iv 1, rv zx134, iv 2, u_, u_] [(.int 2)]) st305 ?_
      refine own_s T305 (mkF m 250 #[iv p1, iv p2, iv 2, iv 1, iv 1, rv b86, iv 1, rv zx134, iv 2, u_, u_] []) (fun _ k => XS.iload X305.here hx rfl (hb hby at_238) rfl  (XS.icmpNo X305.here hx rfl (hb hby at_240) rfl (teq (by decide : ((2 : Int32) = (2 : Int32)))).2 (XS.iconst X305.here hx rfl (hb hby at_243) (XS.goto X305.here hx rfl (pc0 := 244) (pc' := 248) rfl (hb hby at_244) (by decide) (by decide) (XS.istore X305.here hx rfl (hb hby at_248) rfl (l' := #[iv p1, iv p2, iv 2, iv 1, iv 1, rv b86, iv 1, rv zx134, iv 2, u_, u_]) rfl k))))) ?_
      refine own_s T305 (mkF m 257 #[iv p1, iv p2, iv 2, iv 1, iv 1, rv b86, iv 1, rv zx134, iv 2, u_, u_] [(.ref zx134)]) (fun _ k => XS.iloadN X305.here hx rfl (hb hby at_250) rfl  (XS.iconst X305.here hx rfl (hb hby at_251) (XS.icmpNo X305.here hx rfl (hb hby at_252) rfl (flt (by decide : ¬ ((2 : Int32) < (2 : Int32)))).1 (XS.aload X305.here hx rfl (hb hby at_255) rfl rfl k)))) ?_
      obtain ⟨v306, T306, L306, X306, hQ306, st306⟩ := own_callV X305 hx hZ (y := own_y19) (z := own_y19) (W := 0) (a := zx134) hown (own_h hw 93 rfl) (own_h hw 94 rfl) (notFace_of_selects (args := #[]) (mvT hZ (own_h hw 96 rfl))) (own_h hw 96 rfl) (own_h hw 95 rfl) (own_h hw 34 rfl) (own_h hw 97 rfl) (by decide) (own_rmgch l Z a0 hw [] zx134 zli184 T284.heap n0 Z284 f297) (by decide) (by decide) f292 (g := (mkF m 257 #[iv p1, iv p2, iv 2, iv 1, iv 1, rv b86, iv 1, rv zx134, iv 2, u_, u_] [(.ref zx134)])) rfl (by rw [hml]; rfl) (argsL := []) (rest := []) rfl (lenOf own_pd13 rfl) rfl (by show 2 * 0 + _ ≤ _; exact Nat.le_of_eq rfl) (hb hby at_257) e305 (by decide) (by decide)
      obtain ⟨rfl, Nq306, e306⟩ := hQ306
      have N306 := Fr.app N305 Nq306
      refine own_s T306 (mkF m 260 #[iv p1, iv p2, iv 2, iv 1, iv 1, rv b86, iv 1, rv zx134, iv 2, u_, u_] [(.ref zli184)]) st306 ?_
      refine own_s T306 (mkF m 261 #[iv p1, iv p2, iv 2, iv 1, iv 1, rv b86, iv 1, rv zx134, iv 2, u_, u_] [(.int 0), (.ref zli184)]) (fun _ k => XS.iconst X306.here hx rfl (hb hby at_260) k) ?_
      obtain ⟨v307, T307, L307, X307, hQ307, st307⟩ := own_callF X306 hx hZ (y := own_y23) (z := own_y9) (W := 0) (a := zli184) hown (own_h hw 167 rfl) (own_h hw 168 rfl) (mvT hZ (own_h hw 169 rfl)) (own_h hw 170 rfl) (own_h hw 171 rfl) (own_h hw 172 rfl) (own_h hw 173 rfl) (own_h hw 147 rfl) (own_h hw 117 rfl) (own_h hw 174 rfl) (by decide) (own_rmget_2 l Z a0 hw [] zli184 zd184 zkd184 zx184 zx284 T284.heap n0 Z284 q284_7 q284_10 q284_9 q284_11) (by decide) (by decide) q284_7 (g := (mkF m 261 #[iv p1, iv p2, iv 2, iv 1, iv 1, rv b86, iv 1, rv zx134, iv 2, u_, u_] [(.int 0), (.ref zli184)])) rfl (by rw [hml]; rfl) (argsL := [(.int 0)]) (rest := []) rfl (lenOf own_pd4 rfl) rfl (by show 2 * 0 + _ ≤ _; exact Nat.le_of_eq rfl) (hb hby at_261) e306 (by decide) (by decide)
      obtain ⟨rfl, Nq307, Kq307⟩ := hQ307
      have N307 := Fr.app N306 Nq307
      have f308 := own_staKeep f285 Kq307
      have f309 := own_staKeep f286 Kq307
      have f310 := f287.keep Kq307
      have f311 := f288.keep Kq307 nin0
      have f312 := f289.keep Kq307 nin0
      have f313 := q284_0.keep Kq307
      have f314 := f291.keep Kq307 nin0
      have f315 := f292.keep Kq307
      have f316 := f293.keep Kq307 nin0
      have f317 := f294.keep Kq307
      have f318 := f295.keep Kq307 nin0
      have f319 := f296.keep Kq307 nin0
      have f320 := f297.keep Kq307 nin0
      have f321 := f298.keep Kq307 nin0
      have f322 := q284_7.keep Kq307
      have f323 := f300.keep Kq307 nin0
      have f324 := q284_1.keep Kq307 nin0
      have f325 := q284_2.keep Kq307 nin0
      have f326 := q284_3.keep Kq307 nin0
      have f327 := q284_4.keep Kq307
      have f328 := q284_5.keep Kq307 nin0
      have f329 := q284_6.keep Kq307 nin0
      have f330 := q284_8.keep Kq307 nin0
      have f331 := q284_9.keep Kq307 nin0
      have f332 := q284_10.keep Kq307 nin0
      have f333 := q284_11.keep Kq307 nin0
      have K307 : Keep h0 T307.heap [] := K284.trans Kq307 all0
      have Z307 := Nat.le_trans Z284 Kq307.1
      have hk307 := Nat.le_trans hk284 Kq307.1
      refine own_s T307 (mkF m 266 #[iv p1, iv p2, iv 2, iv 1, iv 1, rv b86, iv 1, rv zx134, iv 2, u_, u_] [(.ref zx184)]) st307 ?_
      obtain ⟨T334, X334, e334, st334⟩ := castY X307 hx hZ hown (own_h hw 188 rfl) rfl (Ins.self f317) (g := (mkF m 266 #[iv p1, iv p2, iv 2, iv 1, iv 1, rv b86, iv 1, rv zx134, iv 2, u_, u_] [(.ref zx184)])) rfl rfl (hb hby at_266)
      refine own_s T334 (mkF m 269 #[iv p1, iv p2, iv 2, iv 1, iv 1, rv b86, iv 1, rv zx134, iv 2, u_, u_] [(.ref zx184)]) st334 ?_
      refine own_s T334 (mkF m 281 #[iv p1, iv p2, iv 2, iv 1, iv 1, rv b86, iv 1, rv zx134, iv 2, rv zx184, u_] [(.int 0)]) (fun _ k => XS.astore X334.here hx rfl (hb hby at_269) rfl rfl (l' := #[iv p1, iv p2, iv 2, iv 1, iv 1, rv b86, iv 1, rv zx134, iv 2, rv zx184, u_]) rfl (XS.iloadN X334.here hx rfl (hb hby at_271) rfl  (XS.iconst X334.here hx rfl (hb hby at_272) (XS.icmpYes X334.here hx rfl (pc0 := 273) (pc' := 280) rfl (hb hby at_273) rfl (tlt (by decide : ((2 : Int32) < (3 : Int32)))).1 (by decide) (by decide) (XS.iconst X334.here hx rfl (hb hby at_280) k))))) ?_
      refine own_s T334 (mkF m 293 #[iv p1, iv p2, iv 2, iv 1, iv 1, rv b86, iv 1, rv zx134, iv 2, rv zx184, u_] [(.int 0)]) (fun _ k => XS.iload X334.here hx rfl (hb hby at_281) rfl  (XS.iconst X334.here hx rfl (hb hby at_283) (XS.icmpYes X334.here hx rfl (pc0 := 284) (pc' := 291) rfl (hb hby at_284) rfl (feq (by decide : ¬ ((1 : Int32) = (2 : Int32)))).2 (by decide) (by decide) (XS.iconst X334.here hx rfl (hb hby at_291) (XS.iadd X334.here hx rfl (hb hby at_292) rfl k))))) ?_
      refine own_s T334 (mkF m 302 #[iv p1, iv p2, iv 2, iv 1, iv 1, rv b86, iv 1, rv zx134, iv 2, rv zx184, iv 0] [(.ref zx184)]) (fun _ k => XS.istore X334.here hx rfl (hb hby at_293) rfl (l' := #[iv p1, iv p2, iv 2, iv 1, iv 1, rv b86, iv 1, rv zx134, iv 2, rv zx184, iv 0]) rfl (XS.iload X334.here hx rfl (hb hby at_295) rfl  (XS.ifNo X334.here hx rfl (hb hby at_297) rfl ((if0 _ _).trans (feq (by decide : ¬ ((1 : Int32) = (0 : Int32)))).1) (XS.aload X334.here hx rfl (hb hby at_300) rfl rfl k)))) ?_
      obtain ⟨v335, T335, L335, X335, hQ335, st335⟩ := own_callV X334 hx hZ (y := own_y19) (z := own_y19) (W := 0) (a := zx184) hown (own_h hw 93 rfl) (own_h hw 94 rfl) (notFace_of_selects (args := #[]) (mvT hZ (own_h hw 96 rfl))) (own_h hw 96 rfl) (own_h hw 95 rfl) (own_h hw 34 rfl) (own_h hw 97 rfl) (by decide) (own_rmgch l Z a0 hw [] zx184 oN T307.heap n0 Z307 f318) (by decide) (by decide) f317 (g := (mkF m 302 #[iv p1, iv p2, iv 2, iv 1, iv 1, rv b86, iv 1, rv zx134, iv 2, rv zx184, iv 0] [(.ref zx184)])) rfl (by rw [hml]; rfl) (argsL := []) (rest := []) rfl (lenOf own_pd13 rfl) rfl (by show 2 * 0 + _ ≤ _; exact Nat.le_of_eq rfl) (hb hby at_302) e334 (by decide) (by decide)
      obtain ⟨rfl, Nq335, e335⟩ := hQ335
      have N335 := Fr.app N307 Nq335
      refine own_s T335 (mkF m 305 #[iv p1, iv p2, iv 2, iv 1, iv 1, rv b86, iv 1, rv zx134, iv 2, rv zx184, iv 0] [(.ref oN)]) st335 ?_
      obtain ⟨v336, T336, L336, X336, hQ336, st336⟩ := own_callF X335 hx hZ (y := own_y12) (z := own_y10) (W := 0) (a := oN) hown (own_h hw 98 rfl) (own_h hw 99 rfl) (mvT hZ (own_h hw 100 rfl)) (own_h hw 101 rfl) (own_h hw 102 rfl) (own_h hw 103 rfl) (own_h hw 104 rfl) (own_h hw 105 rfl) (own_h hw 106 rfl) (own_h hw 107 rfl) (by decide) (own_rmlsz l Z a0 hw [] oN oE kE T307.heap n0 Z307 f311 f312) (by decide) (by decide) f310 (g := (mkF m 305 #[iv p1, iv p2, iv 2, iv 1, iv 1, rv b86, iv 1, rv zx134, iv 2, rv zx184, iv 0] [(.ref oN)])) rfl (by rw [hml]; rfl) (argsL := []) (rest := []) rfl (lenOf own_pd7 rfl) rfl (by show 2 * 0 + _ ≤ _; exact Nat.le_of_eq rfl) (hb hby at_305) e335 (by decide) (by decide)
      obtain ⟨rfl, Nq336, Kq336⟩ := hQ336
      have N336 := Fr.app N335 Nq336
      have f337 := own_staKeep f308 Kq336
      have f338 := own_staKeep f309 Kq336
      have f339 := f310.keep Kq336
      have f340 := f311.keep Kq336 nin0
      have f341 := f312.keep Kq336 nin0
      have f342 := f313.keep Kq336
      have f343 := f314.keep Kq336 nin0
      have f344 := f315.keep Kq336
      have f345 := f316.keep Kq336 nin0
      have f346 := f317.keep Kq336
      have f347 := f318.keep Kq336 nin0
      have f348 := f319.keep Kq336 nin0
      have f349 := f320.keep Kq336 nin0
      have f350 := f321.keep Kq336 nin0
      have f351 := f322.keep Kq336
      have f352 := f323.keep Kq336 nin0
      have f353 := f324.keep Kq336 nin0
      have f354 := f325.keep Kq336 nin0
      have f355 := f326.keep Kq336 nin0
      have f356 := f327.keep Kq336
      have f357 := f328.keep Kq336 nin0
      have f358 := f329.keep Kq336 nin0
      have f359 := f330.keep Kq336 nin0
      have f360 := f331.keep Kq336 nin0
      have f361 := f332.keep Kq336 nin0
      have f362 := f333.keep Kq336 nin0
      have K336 : Keep h0 T336.heap [] := K307.trans Kq336 all0
      have Z336 := Nat.le_trans Z307 Kq336.1
      have hk336 := Nat.le_trans hk307 Kq336.1
      refine own_s T336 (mkF m 310 #[iv p1, iv p2, iv 2, iv 1, iv 1, rv b86, iv 1, rv zx134, iv 2, rv zx184, iv 0] [(.int 0)]) st336 ?_
      refine own_s T336 (mkF m 322 #[iv p1, iv p2, iv 2, iv 1, iv 1, rv b86, iv 1, rv zx134, iv 2, rv zx184, iv 0] []) (fun _ k => XS.iload X336.here hx rfl (hb hby at_310) rfl  (XS.icmpNo X336.here hx rfl (hb hby at_312) rfl (teq (by decide : ((0 : Int32) = (0 : Int32)))).2 (XS.iconst X336.here hx rfl (hb hby at_315) (XS.goto X336.here hx rfl (pc0 := 316) (pc' := 320) rfl (hb hby at_316) (by decide) (by decide) (XS.istore X336.here hx rfl (hb hby at_320) rfl (l' := #[iv p1, iv p2, iv 2, iv 1, iv 1, rv b86, iv 1, rv zx134, iv 2, rv zx184, iv 0]) rfl k))))) ?_
      refine own_s T336 (mkF m 324 #[iv p1, iv p2, iv 2, iv 1, iv 1, rv b86, iv 1, rv zx134, iv 2, rv zx184, iv 0] [(.int 1)]) (fun _ k => XS.iload X336.here hx rfl (hb hby at_322) rfl  k) ?_
      exact own_finZ X336 hx (t := .boolean) hret (by simp) (z' := (1 : Int32)) rfl (hb hby at_324) (own_endW (Qv := (own_Q0 Z p1 p2 oN oA oE kE h0 n0)) X336 hS (own_some hret) hlk (by decide) (by decide) rfl hk336 (fun vm' hv' => ⟨rfl, N336⟩))
    · refine own_cast (g' := (mkF m 18 #[iv p1, iv p2, iv 2, iv 2, u_, u_, u_, u_, u_, u_, u_] [])) (by rw [hk]) ?_
      refine own_s s₁ (mkF m 23 #[iv p1, iv p2, iv 2, iv 2, iv 0, u_, u_, u_, u_, u_, u_] []) (fun _ k => XS.iloadN X0.here hx rfl (hb hby at_18) rfl  (XS.iloadN X0.here hx rfl (hb hby at_19) rfl  (XS.isub X0.here hx rfl (hb hby at_20) rfl (XS.istore X0.here hx rfl (hb hby at_21) rfl (l' := #[iv p1, iv p2, iv 2, iv 2, iv 0, u_, u_, u_, u_, u_, u_]) rfl k)))) ?_
      obtain ⟨T363, h363, X363, e363, E363, A363, D363, -, st363⟩ := newO X0 hx hZ hown (own_h hw 1 rfl) (own_h hw 2 rfl) (own_h hw 3 rfl) e0 (g := (mkF m 23 #[iv p1, iv p2, iv 2, iv 2, iv 0, u_, u_, u_, u_, u_, u_] [])) rfl (hb hby at_23) (by decide) (by decide)
      obtain ⟨b363, g363⟩ : ∃ z, z = h0.size := ⟨_, rfl⟩
      have ne_oN_b363 : oN ≠ b363 := Nat.ne_of_lt (Nat.lt_of_lt_of_le pr2.lt (Nat.le_of_eq g363.symm))
      have ne_oE_b363 : oE ≠ b363 := Nat.ne_of_lt (Nat.lt_of_lt_of_le pr4.lt (Nat.le_of_eq g363.symm))
      have g_b363 : n0 ≤ b363 := Nat.le_trans Z0 (Nat.le_of_eq g363.symm)
      have sz_b363 : h0.size ≤ b363 := Nat.le_trans (Keep.refl h0 []).1 (Nat.le_of_eq g363.symm)
      rw [← g363] at A363 D363 st363
      have f364 := Sta.ext E363 pr0
      have f365 := Sta.ext E363 pr1
      have f366 := Exa.ext E363 pr2
      have f367 := Fld.ext E363 pr3
      have f368 := pr4.ext E363
      have K363 : Keep h0 h363 [] := (Keep.refl h0 []).ext E363
      have Z363 := Nat.le_trans Z0 E363.1
      have hk363 := Nat.le_trans hk0 E363.1
      have f369 : Fld Z h363 b363 "com/example/tagwright/tagwright/XmlTree" "whiteSpaces" "[Ljava/lang/String;" .null := D363 (Or.inr (own_h hw 13 rfl)) (ty := (.array (.object "java/lang/String"))) (by decide)
      have f370 : Fld Z h363 b363 "com/example/tagwright/tagwright/XmlTree" "whiteSpaceBytes" "[[B" .null := D363 (Or.inr (own_h hw 17 rfl)) (ty := (.array (.array .byte))) (by decide)
      have f371 : Fld Z h363 b363 "com/example/tagwright/tagwright/XmlTree" "current" "Lcom/example/tagwright/tagwright/XmlElement;" .null := D363 (Or.inl (own_h hw 36 rfl)) (ty := (.object "com/example/tagwright/tagwright/XmlElement")) (by decide)
      have f372 : Fld Z h363 b363 "com/example/tagwright/tagwright/XmlTree" "root" "Lcom/example/tagwright/tagwright/XmlElement;" .null := D363 (Or.inl (own_h hw 69 rfl)) (ty := (.object "com/example/tagwright/tagwright/XmlElement")) (by decide)
      have f373 : Fld Z h363 b363 "com/example/tagwright/tagwright/XmlTree" "depth" "I" (.int 0) := D363 (Or.inl (own_h hw 71 rfl)) (ty := .int) (by decide)
      refine own_s T363 (mkF m 26 #[iv p1, iv p2, iv 2, iv 2, iv 0, u_, u_, u_, u_, u_, u_] [(.ref b363)]) st363 ?_
      refine own_s T363 (mkF m 27 #[iv p1, iv p2, iv 2, iv 2, iv 0, u_, u_, u_, u_, u_, u_] [(.ref b363), (.ref b363)]) (fun _ k => XS.dup X363.here hx rfl (hb hby at_26) rfl rfl k) ?_
      obtain ⟨v374, T374, L374, X374, hQ374, st374⟩ := own_callI X363 hx hZ (y := own_y16) (W := 1) (a := b363) rfl hown (own_h hw 4 rfl) (own_h hw 5 rfl) (own_h hw 3 rfl) (own_h hw 6 rfl) (by decide) (own_rmti l Z a0 hw [] b363 h363 n0 Z363 g_b363 A363 f371 f372 f373 f369 f370) (by decide) (by decide) (g := (mkF m 27 #[iv p1, iv p2, iv 2, iv 2, iv 0, u_, u_, u_, u_, u_, u_] [(.ref b363), (.ref b363)])) rfl (by rw [hml]; rfl) (argsL := []) (rest := [(.ref b363)]) rfl (lenOf own_pd0 rfl) rfl (by show 2 * 0 + _ ≤ _; exact Nat.le_of_eq rfl) (hb hby at_27) e363 (by decide) (by decide)
      obtain ⟨rfl, Nq374, Kq374, q374_0, q374_1, q374_2, q374_3⟩ := hQ374
      have N374 := Fr.app N0 Nq374
      have f375 := own_staKeepW f364 Kq374 (allS A363.nostat all0)
      have f376 := own_staKeepW f365 Kq374 (allS A363.nostat all0)
      have f377 := f366.keep Kq374
      have f378 := f367.keep Kq374 (ninS ne_oN_b363 nin0)
      have f379 := f368.keep Kq374 (ninS ne_oE_b363 nin0)
      have f380 := A363.keep Kq374
      have K374 : Keep h0 T374.heap [] := K363.trans Kq374 (allS (Or.inr sz_b363) all0)
      have Z374 := Nat.le_trans Z363 Kq374.1
      have hk374 := Nat.le_trans hk363 Kq374.1
      refine own_s T374 (mkF m 30 #[iv p1, iv p2, iv 2, iv 2, iv 0, u_, u_, u_, u_, u_, u_] [(.ref b363)]) st374 ?_
      refine own_s T374 (mkF m 35 #[iv p1, iv p2, iv 2, iv 2, iv 0, rv b363, u_, u_, u_, u_, u_] [.null, (.ref b363)]) (fun _ k => XS.astore X374.here hx rfl (hb hby at_30) rfl rfl (l' := #[iv p1, iv p2, iv 2, iv 2, iv 0, rv b363, u_, u_, u_, u_, u_]) rfl (XS.aload X374.here hx rfl (hb hby at_32) rfl rfl (XS.aconstNull X374.here hx rfl (hb hby at_34) k))) ?_
      obtain ⟨sl381, T381, h381, kk381, X381, e381, E381, hS, hk381, hZ, hown, st381⟩ := ldcS (s := s) X374 hx hZ hown (own_h hw 18 rfl) (own_wS hw) rfl hS hk374 (g := (mkF m 35 #[iv p1, iv p2, iv 2, iv 2, iv 0, rv b363, u_, u_, u_, u_, u_] [.null, (.ref b363)])) rfl (hb hby at_35) (n := 4) (by decide) (by decide) (by decide) (by decide)
      have f382 := Sta.ext E381 f375
      have f383 := Sta.ext E381 f376
      have f384 := Exa.ext E381 f377
      have f385 := Fld.ext E381 f378
      have f386 := f379.ext E381
      have f387 := Exa.ext E381 q374_0
      have f388 := Fld.ext E381 q374_1
      have f389 := Fld.ext E381 q374_2
      have f390 := Fld.ext E381 q374_3
      have K381 : Keep h0 h381 [] := K374.ext E381
      have Z381 := Nat.le_trans Z374 E381.1
      refine own_s T381 (mkF m 37 #[iv p1, iv p2, iv 2, iv 2, iv 0, rv b363, u_, u_, u_, u_, u_] [(.ref sl381), .null, (.ref b363)]) st381 ?_
      obtain ⟨sl391, T391, h391, kk391, X391, e391, E391, hS, hk391, hZ, hown, st391⟩ := ldcS (s := s) X381 hx hZ hown (own_h hw 18 rfl) (own_wS hw) e381 hS hk381 (g := (mkF m 37 #[iv p1, iv p2, iv 2, iv 2, iv 0, rv b363, u_, u_, u_, u_, u_] [(.ref sl381), .null, (.ref b363)])) rfl (hb hby at_37) (n := 4) (by decide) (by decide) (by decide) (by decide)
      have f392 := Sta.ext E391 f382
      have f393 := Sta.ext E391 f383
      have f394 := Exa.ext E391 f384
      have f395 := Fld.ext E391 f385
      have f396 := f386.ext E391
      have f397 := Exa.ext E391 f387
      have f398 := Fld.ext E391 f388
      have f399 := Fld.ext E391 f389
      have f400 := Fld.ext E391 f390
      have K391 : Keep h0 h391 [] := K381.ext E391
      have Z391 := Nat.le_trans Z381 E391.1
      refine own_s T391 (mkF m 39 #[iv p1, iv p2, iv 2, iv 2, iv 0, rv b363, u_, u_, u_, u_, u_] [(.ref sl391), (.ref sl381), .null, (.ref b363)]) st391 ?_
      refine own_s T391 (mkF m 41 #[iv p1, iv p2, iv 2, iv 2, iv 0, rv b363, u_, u_, u_, u_, u_] [(.int 0), .null, (.ref sl391), (.ref sl381), .null, (.ref b363)]) (fun _ k => XS.aconstNull X391.here hx rfl (hb hby at_39) (XS.iconst X391.here hx rfl (hb hby at_40) k)) ?_
      obtain ⟨T401, h401, k401, X401, e401, E401, A401, O401, st401⟩ := newR X391 hx hZ hown (own_h hw 26 rfl) (own_h hw 11 rfl) e391 (g := (mkF m 41 #[iv p1, iv p2, iv 2, iv 2, iv 0, rv b363, u_, u_, u_, u_, u_] [(.int 0), .null, (.ref sl391), (.ref sl381), .null, (.ref b363)])) rfl (hb hby at_41) rfl (by decide) (cap := 0) (by decide) (by decide) (by decide) (by decide)
      obtain ⟨b401, g401⟩ : ∃ z, z = h391.size := ⟨_, rfl⟩
      have ne_oN_b401 : oN ≠ b401 := Nat.ne_of_lt (Nat.lt_of_lt_of_le f394.lt (Nat.le_of_eq g401.symm))
      have ne_oE_b401 : oE ≠ b401 := Nat.ne_of_lt (Nat.lt_of_lt_of_le f396.lt (Nat.le_of_eq g401.symm))
      have ne_b363_b401 : b363 ≠ b401 := Nat.ne_of_lt (Nat.lt_of_lt_of_le f397.lt (Nat.le_of_eq g401.symm))
      have g_b401 : n0 ≤ b401 := Nat.le_trans Z391 (Nat.le_of_eq g401.symm)
      have sz_b401 : h0.size ≤ b401 := Nat.le_trans K391.1 (Nat.le_of_eq g401.symm)
      rw [← g401] at A401 st401
      have f402 := Sta.ext E401 f392
      have f403 := Sta.ext E401 f393
      have f404 := Exa.ext E401 f394
      have f405 := Fld.ext E401 f395
      have f406 := f396.ext E401
      have f407 := Exa.ext E401 f397
      have f408 := Fld.ext E401 f398
      have f409 := Fld.ext E401 f399
      have f410 := Fld.ext E401 f400
      have K401 : Keep h0 h401 [] := K391.ext E401
      have Z401 := Nat.le_trans Z391 E401.1
      have hk401 := Nat.le_trans hk391 E401.1
      have f401 : Arv Z h401 b401 k401 (.object "java/lang/String") 0 [] .null := (Arv.new A401 (by decide)).pad (pad_rep [] .null 0)
      refine own_s T401 (mkF m 44 #[iv p1, iv p2, iv 2, iv 2, iv 0, rv b363, u_, u_, u_, u_, u_] [(.ref b401), .null, (.ref sl391), (.ref sl381), .null, (.ref b363)]) st401 ?_
      refine own_s T401 (mkF m 45 #[iv p1, iv p2, iv 2, iv 2, iv 0, rv b363, u_, u_, u_, u_, u_] [.null, (.ref b401), .null, (.ref sl391), (.ref sl381), .null, (.ref b363)]) (fun _ k => XS.aconstNull X401.here hx rfl (hb hby at_44) k) ?_
      obtain ⟨v411, T411, L411, X411, hQ411, st411⟩ := own_callV X401 hx hZ (y := own_y17) (z := own_y17) (W := 0) (a := b363) hown (own_h hw 27 rfl) (own_h hw 28 rfl) (notFace_of_selects (args := #[]) (mvT hZ (own_h hw 30 rfl))) (own_h hw 30 rfl) (own_h hw 29 rfl) (own_h hw 3 rfl) (own_h hw 31 rfl) (by decide) (own_rmst0 l Z a0 hw [] b363 sl381 sl391 b401 oN oA k401 h401 n0 Z401 g_b363 f407 f408 f409 f410 f402 f403 f401 ne_b363_b401) (by decide) (by decide) f407 (g := (mkF m 45 #[iv p1, iv p2, iv 2, iv 2, iv 0, rv b363, u_, u_, u_, u_, u_] [.null, (.ref b401), .null, (.ref sl391), (.ref sl381), .null, (.ref b363)])) rfl (by rw [hml]; rfl) (argsL := [.null, (.ref sl381), (.ref sl391), .null, (.ref b401), .null]) (rest := []) rfl (lenOf own_pd12 rfl) rfl (by show 2 * 0 + _ ≤ _; exact Nat.le_of_eq rfl) (hb hby at_45) e401 (by decide) (by decide)
      obtain ⟨zx411, rfl, Nq411, Kq411, g_zx411, sq_zx411, q411_0, q411_1, q411_2, q411_3, q411_4, q411_5, q411_6⟩ := hQ411
      have N411 := Fr.app N374 Nq411
      have ne_oN_zx411 : oN ≠ zx411 := Nat.ne_of_lt (Nat.lt_of_lt_of_le f404.lt sq_zx411)
      have ne_oE_zx411 : oE ≠ zx411 := Nat.ne_of_lt (Nat.lt_of_lt_of_le f406.lt sq_zx411)
      have ne_b363_zx411 : b363 ≠ zx411 := Nat.ne_of_lt (Nat.lt_of_lt_of_le f407.lt sq_zx411)
      have ne_b401_zx411 : b401 ≠ zx411 := Nat.ne_of_lt (Nat.lt_of_lt_of_le f401.lt sq_zx411)
      have sz_zx411 : h0.size ≤ zx411 := Nat.le_trans K401.1 sq_zx411
      have f412 := own_staKeepW f402 Kq411 (allS f407.nostat all0)
      have f413 := own_staKeepW f403 Kq411 (allS f407.nostat all0)
      have f414 := f404.keep Kq411
      have f415 := f405.keep Kq411 (ninS ne_oN_b363 nin0)
      have f416 := f406.keep Kq411 (ninS ne_oE_b363 nin0)
      have f417 := f407.keep Kq411
      have f418 := f401.keep Kq411 (ninS (Ne.symm ne_b363_b401) nin0)
      have K411 : Keep h0 T411.heap [] := K401.trans Kq411 (allS (Or.inr sz_b363) all0)
      have Z411 := Nat.le_trans Z401 Kq411.1
      have hk411 := Nat.le_trans hk401 Kq411.1
      refine own_s T411 (mkF m 48 #[iv p1, iv p2, iv 2, iv 2, iv 0, rv b363, u_, u_, u_, u_, u_] []) st411 ?_
      refine own_s T411 (mkF m 56 #[iv p1, iv p2, iv 2, iv 2, iv 0, rv b363, u_, u_, u_, u_, u_] [.null, (.ref b363)]) (fun _ k => XS.iloadN X411.here hx rfl (hb hby at_48) rfl  (XS.iconst X411.here hx rfl (hb hby at_49) (XS.icmpNo X411.here hx rfl (hb hby at_50) rfl (flt (by decide : ¬ ((2 : Int32) < (2 : Int32)))).1 (XS.aload X411.here hx rfl (hb hby at_53) rfl rfl (XS.aconstNull X411.here hx rfl (hb hby at_55) k))))) ?_
      obtain ⟨sl419, T419, h419, kk419, X419, e419, E419, hS, hk419, hZ, hown, st419⟩ := ldcS (s := s) X411 hx hZ hown (own_h hw 110 rfl) (own_wS hw) rfl hS hk411 (g := (mkF m 56 #[iv p1, iv p2, iv 2, iv 2, iv 0, rv b363, u_, u_, u_, u_, u_] [.null, (.ref b363)])) rfl (hb hby at_56) (n := 4) (by decide) (by decide) (by decide) (by decide)
      have f420 := Sta.ext E419 f412
      have f421 := Sta.ext E419 f413
      have f422 := Exa.ext E419 f414
      have f423 := Fld.ext E419 f415
      have f424 := f416.ext E419
      have f425 := Exa.ext E419 q411_0
      have f426 := f418.ext E419
      have f427 := Fld.ext E419 q411_1
      have f428 := Fld.ext E419 q411_2
      have f429 := Fld.ext E419 q411_3
      have f430 := Exa.ext E419 q411_4
      have f431 := Fld.ext E419 q411_5
      have f432 := Fld.ext E419 q411_6
      have K419 : Keep h0 h419 [] := K411.ext E419
      have Z419 := Nat.le_trans Z411 E419.1
      refine own_s T419 (mkF m 58 #[iv p1, iv p2, iv 2, iv 2, iv 0, rv b363, u_, u_, u_, u_, u_] [(.ref sl419), .null, (.ref b363)]) st419 ?_
      obtain ⟨sl433, T433, h433, kk433, X433, e433, E433, hS, hk433, hZ, hown, st433⟩ := ldcS (s := s) X419 hx hZ hown (own_h hw 110 rfl) (own_wS hw) e419 hS hk419 (g := (mkF m 58 #[iv p1, iv p2, iv 2, iv 2, iv 0, rv b363, u_, u_, u_, u_, u_] [(.ref sl419), .null, (.ref b363)])) rfl (hb hby at_58) (n := 4) (by decide) (by decide) (by decide) (by decide)
      have f434 := Sta.ext E433 f420
      have f435 := Sta.ext E433 f421
      have f436 := Exa.ext E433 f422
      have f437 := Fld.ext E433 f423
      have f438 := f424.ext E433
      have f439 := Exa.ext E433 f425
      have f440 := f426.ext E433
      have f441 := Fld.ext E433 f427
      have f442 := Fld.ext E433 f428
      have f443 := Fld.ext E433 f429
      have f444 := Exa.ext E433 f430
      have f445 := Fld.ext E433 f431
      have f446 := Fld.ext E433 f432
      have K433 : Keep h0 h433 [] := K419.ext E433
      have Z433 := Nat.le_trans Z419 E433.1
      refine own_s T433 (mkF m 60 #[iv p1, iv p2, iv 2, iv 2, iv 0, rv b363, u_, u_, u_, u_, u_] [(.ref sl433), (.ref sl419), .null, (.ref b363)]) st433 ?_
      refine own_s T433 (mkF m 62 #[iv p1, iv p2, iv 2, iv 2, iv 0, rv b363, u_, u_, u_, u_, u_] [(.int 0), .null, (.ref sl433), (.ref sl419), .null, (.ref b363)]) (fun _ k => XS.aconstNull X433.here hx rfl (hb hby at_60) (XS.iconst X433.here hx rfl (hb hby at_61) k)) ?_
      obtain ⟨T447, h447, k447, X447, e447, E447, A447, O447, st447⟩ := newR X433 hx hZ hown (own_h hw 26 rfl) (own_h hw 11 rfl) e433 (g := (mkF m 62 #[iv p1, iv p2, iv 2, iv 2, iv 0, rv b363, u_, u_, u_, u_, u_] [(.int 0), .null, (.ref sl433), (.ref sl419), .null, (.ref b363)])) rfl (hb hby at_62) rfl (by decide) (cap := 0) (by decide) (by decide) (by decide) (by decide)
      obtain ⟨b447, g447⟩ : ∃ z, z = h433.size := ⟨_, rfl⟩
      have ne_oN_b447 : oN ≠ b447 := Nat.ne_of_lt (Nat.lt_of_lt_of_le f436.lt (Nat.le_of_eq g447.symm))
      have ne_oE_b447 : oE ≠ b447 := Nat.ne_of_lt (Nat.lt_of_lt_of_le f438.lt (Nat.le_of_eq g447.symm))
      have ne_b363_b447 : b363 ≠ b447 := Nat.ne_of_lt (Nat.lt_of_lt_of_le f439.lt (Nat.le_of_eq g447.symm))
      have ne_b401_b447 : b401 ≠ b447 := Nat.ne_of_lt (Nat.lt_of_lt_of_le f440.lt (Nat.le_of_eq g447.symm))
      have ne_zx411_b447 : zx411 ≠ b447 := Nat.ne_of_lt (Nat.lt_of_lt_of_le f444.lt (Nat.le_of_eq g447.symm))
      have g_b447 : n0 ≤ b447 := Nat.le_trans Z433 (Nat.le_of_eq g447.symm)
      have sz_b447 : h0.size ≤ b447 := Nat.le_trans K433.1 (Nat.le_of_eq g447.symm)
      rw [← g447] at A447 st447
      have f448 := Sta.ext E447 f434
      have f449 := Sta.ext E447 f435
      have f450 := Exa.ext E447 f436
      have f451 := Fld.ext E447 f437
      have f452 := f438.ext E447
      have f453 := Exa.ext E447 f439
      have f454 := f440.ext E447
      have f455 := Fld.ext E447 f441
      have f456 := Fld.ext E447 f442
      have f457 := Fld.ext E447 f443
      have f458 := Exa.ext E447 f444
      have f459 := Fld.ext E447 f445
      have f460 := Fld.ext E447 f446
      have K447 : Keep h0 h447 [] := K433.ext E447
      have Z447 := Nat.le_trans Z433 E447.1
      have hk447 := Nat.le_trans hk433 E447.1
      have f447 : Arv Z h447 b447 k447 (.object "java/lang/String") 0 [] .null := (Arv.new A447 (by decide)).pad (pad_rep [] .null 0)
      refine own_s T447 (mkF m 65 #[iv p1, iv p2, iv 2, iv 2, iv 0, rv b363, u_, u_, u_, u_, u_] [(.ref b447), .null, (.ref sl433), (.ref sl419), .null, (.ref b363)]) st447 ?_
      refine own_s T447 (mkF m 66 #[iv p1, iv p2, iv 2, iv 2, iv 0, rv b363, u_, u_, u_, u_, u_] [.null, (.ref b447), .null, (.ref sl433), (.ref sl419), .null, (.ref b363)]) (fun _ k => XS.aconstNull X447.here hx rfl (hb hby at_65) k) ?_
      obtain ⟨v461, T461, L461, X461, hQ461, st461⟩ := own_callV X447 hx hZ (y := own_y17) (z := own_y17) (W := 0) (a := b363) hown (own_h hw 27 rfl) (own_h hw 28 rfl) (notFace_of_selects (args := #[]) (mvT hZ (own_h hw 30 rfl))) (own_h hw 30 rfl) (own_h hw 29 rfl) (own_h hw 3 rfl) (own_h hw 31 rfl) (by decide) (own_rmst1_1 l Z a0 hw [] b363 sl419 sl433 b447 zx411 zx411 oN oA k447 .null h447 n0 Z447 g_b363 f453 f455 f456 f457 f448 f449 f447 ne_b363_b447 g_zx411 f458 f459 f460 ne_b363_zx411 ne_zx411_b447 rfl) (by decide) (by decide) f453 (g := (mkF m 66 #[iv p1, iv p2, iv 2, iv 2, iv 0, rv b363, u_, u_, u_, u_, u_] [.null, (.ref b447), .null, (.ref sl433), (.ref sl419), .null, (.ref b363)])) rfl (by rw [hml]; rfl) (argsL := [.null, (.ref sl419), (.ref sl433), .null, (.ref b447), .null]) (rest := []) rfl (lenOf own_pd12 rfl) rfl (by show 2 * 0 + _ ≤ _; exact Nat.le_of_eq rfl) (hb hby at_66) e447 (by decide) (by decide)
      obtain ⟨zx461, zli461, zd461, zkd461, rfl, Nq461, Kq461, g_zx461, sq_zx461, g_zli461, sq_zli461, g_zd461, sq_zd461, q461_0, q461_1, q461_2, q461_3, q461_4, q461_5, q461_6, q461_7, q461_8, q461_9, q461_10, q461_11, q461_12, q461_13, q461_14, q461_15, q461_16, q461_17, q461_18⟩ := hQ461
      have N461 := Fr.app N411 Nq461
      have ne_oN_zx461 : oN ≠ zx461 := Nat.ne_of_lt (Nat.lt_of_lt_of_le f450.lt sq_zx461)
      have ne_oN_zli461 : oN ≠ zli461 := Nat.ne_of_lt (Nat.lt_of_lt_of_le f450.lt sq_zli461)
      have ne_oN_zd461 : oN ≠ zd461 := Nat.ne_of_lt (Nat.lt_of_lt_of_le f450.lt sq_zd461)
      have ne_oE_zx461 : oE ≠ zx461 := Nat.ne_of_lt (Nat.lt_of_lt_of_le f452.lt sq_zx461)
      have ne_oE_zli461 : oE ≠ zli461 := Nat.ne_of_lt (Nat.lt_of_lt_of_le f452.lt sq_zli461)
      have ne_oE_zd461 : oE ≠ zd461 := Nat.ne_of_lt (Nat.lt_of_lt_of_le f452.lt sq_zd461)
      have ne_b363_zx461 : b363 ≠ zx461 := Nat.ne_of_lt (Nat.lt_of_lt_of_le f453.lt sq_zx461)
      have ne_b363_zli461 : b363 ≠ zli461 := Nat.ne_of_lt (Nat.lt_of_lt_of_le f453.lt sq_zli461)
      have ne_b363_zd461 : b363 ≠ zd461 := Nat.ne_of_lt (Nat.lt_of_lt_of_le f453.lt sq_zd461)
      have ne_b401_zx461 : b401 ≠ zx461 := Nat.ne_of_lt (Nat.lt_of_lt_of_le f454.lt sq_zx461)
      have ne_b401_zli461 : b401 ≠ zli461 := Nat.ne_of_lt (Nat.lt_of_lt_of_le f454.lt sq_zli461)
      have ne_b401_zd461 : b401 ≠ zd461 := Nat.ne_of_lt (Nat.lt_of_lt_of_le f454.lt sq_zd461)
      have ne_zx411_zx461 : zx411 ≠ zx461 := Nat.ne_of_lt (Nat.lt_of_lt_of_le f458.lt sq_zx461)
      have ne_zx411_zli461 : zx411 ≠ zli461 := Nat.ne_of_lt (Nat.lt_of_lt_of_le f458.lt sq_zli461)
      have ne_zx411_zd461 : zx411 ≠ zd461 := Nat.ne_of_lt (Nat.lt_of_lt_of_le f458.lt sq_zd461)
      have ne_b447_zx461 : b447 ≠ zx461 := Nat.ne_of_lt (Nat.lt_of_lt_of_le f447.lt sq_zx461)
      have ne_b447_zli461 : b447 ≠ zli461 := Nat.ne_of_lt (Nat.lt_of_lt_of_le f447.lt sq_zli461)
      have ne_b447_zd461 : b447 ≠ zd461 := Nat.ne_of_lt (Nat.lt_of_lt_of_le f447.lt sq_zd461)
      have sz_zx461 : h0.size ≤ zx461 := Nat.le_trans K447.1 sq_zx461
      have sz_zli461 : h0.size ≤ zli461 := Nat.le_trans K447.1 sq_zli461
      have sz_zd461 : h0.size ≤ zd461 := Nat.le_trans K447.1 sq_zd461
      have f462 := own_staKeepW f448 Kq461 (allS f453.nostat (allS f458.nostat all0))
      have f463 := own_staKeepW f449 Kq461 (allS f453.nostat (allS f458.nostat all0))
      have f464 := f450.keep Kq461
      have f465 := f451.keep Kq461 (ninS ne_oN_b363 (ninS ne_oN_zx411 nin0))
      have f466 := f452.keep Kq461 (ninS ne_oE_b363 (ninS ne_oE_zx411 nin0))
      have f467 := f453.keep Kq461
      have f468 := f454.keep Kq461 (ninS (Ne.symm ne_b363_b401) (ninS ne_b401_zx411 nin0))
      have f469 := f458.keep Kq461
      have f470 := f447.keep Kq461 (ninS (Ne.symm ne_b363_b447) (ninS (Ne.symm ne_zx411_b447) nin0))
      have K461 : Keep h0 T461.heap [] := K447.trans Kq461 (allS (Or.inr sz_b363) (allS (Or.inr sz_zx411) all0))
      have Z461 := Nat.le_trans Z447 Kq461.1
      have hk461 := Nat.le_trans hk447 Kq461.1
      refine own_s T461 (mkF m 69 #[iv p1, iv p2, iv 2, iv 2, iv 0, rv b363, u_, u_, u_, u_, u_] []) st461 ?_
      refine own_s T461 (mkF m 92 #[iv p1, iv p2, iv 2, iv 2, iv 0, rv b363, u_, u_, u_, u_, u_] [(.ref b363)]) (fun _ k => XS.iloadN X461.here hx rfl (hb hby at_69) rfl  (XS.iconst X461.here hx rfl (hb hby at_70) (XS.icmpYes X461.here hx rfl (pc0 := 71) (pc' := 90) rfl (hb hby at_71) rfl (tlt (by decide : ((2 : Int32) < (3 : Int32)))).1 (by decide) (by decide) (XS.aload X461.here hx rfl (hb hby at_90) rfl rfl k)))) ?_
      obtain ⟨v471, T471, L471, X471, hQ471, st471⟩ := own_callV X461 hx hZ (y := own_y22) (z := own_y22) (W := 0) (a := b363) hown (own_h hw 72 rfl) (own_h hw 73 rfl) (notFace_of_selects (args := #[]) (mvT hZ (own_h hw 75 rfl))) (own_h hw 75 rfl) (own_h hw 74 rfl) (own_h hw 3 rfl) (own_h hw 76 rfl) (by decide) (own_rmend2 l Z a0 hw [] b363 zx461 zx411 (.ref zx411) T461.heap n0 Z461 g_b363 q461_0 q461_1 q461_2 q461_3 q461_4 q461_6 ne_b363_zx461 rfl) (by decide) (by decide) q461_0 (g := (mkF m 92 #[iv p1, iv p2, iv 2, iv 2, iv 0, rv b363, u_, u_, u_, u_, u_] [(.ref b363)])) rfl (by rw [hml]; rfl) (argsL := []) (rest := []) rfl (lenOf own_pd0 rfl) rfl (by show 2 * 0 + _ ≤ _; exact Nat.le_of_eq rfl) (hb hby at_92) rfl (by decide) (by decide)
      obtain ⟨rfl, Nq471, Kq471, q471_0, q471_1, q471_2, q471_3⟩ := hQ471
      have N471 := Fr.app N461 Nq471
      have f472 := own_staKeepW f462 Kq471 (allS q461_0.nostat all0)
      have f473 := own_staKeepW f463 Kq471 (allS q461_0.nostat all0)
      have f474 := f464.keep Kq471
      have f475 := f465.keep Kq471 (ninS ne_oN_b363 nin0)
      have f476 := f466.keep Kq471 (ninS ne_oE_b363 nin0)
      have f477 := q461_0.keep Kq471
      have f478 := f468.keep Kq471 (ninS (Ne.symm ne_b363_b401) nin0)
      have f479 := q461_7.keep Kq471
      have f480 := f470.keep Kq471 (ninS (Ne.symm ne_b363_b447) nin0)
      have f481 := q461_4.keep Kq471
      have f482 := q461_5.keep Kq471 (ninS (Ne.symm ne_b363_zx461) nin0)
      have f483 := q461_6.keep Kq471 (ninS (Ne.symm ne_b363_zx461) nin0)
      have f484 := q461_8.keep Kq471 (ninS (Ne.symm ne_b363_zx411) nin0)
      have f485 := q461_9.keep Kq471 (ninS (Ne.symm ne_b363_zx411) nin0)
      have f486 := q461_10.keep Kq471
      have f487 := q461_11.keep Kq471 (ninS (Ne.symm ne_b363_zli461) nin0)
      have f488 := q461_12.keep Kq471 (ninS (Ne.symm ne_b363_zli461) nin0)
      have f489 := q461_13.keep Kq471 (ninS (Ne.symm ne_b363_zli461) nin0)
      have f490 := q461_14.keep Kq471 (ninS (Ne.symm ne_b363_zd461) nin0)
      have K471 : Keep h0 T471.heap [] := K461.trans Kq471 (allS (Or.inr sz_b363) all0)
      have Z471 := Nat.le_trans Z461 Kq471.1
      have hk471 := Nat.le_trans hk461 Kq471.1
      refine own_s T471 (mkF m 95 #[iv p1, iv p2, iv 2, iv 2, iv 0, rv b363, u_, u_, u_, u_, u_] []) st471 ?_
      refine own_s T471 (mkF m 102 #[iv p1, iv p2, iv 2, iv 2, iv 0, rv b363, u_, u_, u_, u_, u_] [(.ref b363)]) (fun _ k => XS.iloadN X471.here hx rfl (hb hby at_95) rfl  (XS.iconst X471.here hx rfl (hb hby at_96) (XS.icmpNo X471.here hx rfl (hb hby at_97) rfl (flt (by decide : ¬ ((2 : Int32) < (2 : Int32)))).1 (XS.aload X471.here hx rfl (hb hby at_100) rfl rfl k)))) ?_
      obtain ⟨v491, T491, L491, X491, hQ491, st491⟩ := own_callV X471 hx hZ (y := own_y22) (z := own_y22) (W := 0) (a := b363) hown (own_h hw 72 rfl) (own_h hw 73 rfl) (notFace_of_selects (args := #[]) (mvT hZ (own_h hw 75 rfl))) (own_h hw 75 rfl) (own_h hw 74 rfl) (own_h hw 3 rfl) (own_h hw 76 rfl) (by decide) (own_rmend1 l Z a0 hw [] b363 zx411 zx411 .null T471.heap n0 Z471 g_b363 q471_0 q471_1 q471_2 q471_3 f479 f485 ne_b363_zx411 rfl) (by decide) (by decide) q471_0 (g := (mkF m 102 #[iv p1, iv p2, iv 2, iv 2, iv 0, rv b363, u_, u_, u_, u_, u_] [(.ref b363)])) rfl (by rw [hml]; rfl) (argsL := []) (rest := []) rfl (lenOf own_pd0 rfl) rfl (by show 2 * 0 + _ ≤ _; exact Nat.le_of_eq rfl) (hb hby at_102) rfl (by decide) (by decide)
      obtain ⟨rfl, Nq491, Kq491, q491_0, q491_1, q491_2, q491_3⟩ := hQ491
      have N491 := Fr.app N471 Nq491
      have f492 := own_staKeepW f472 Kq491 (allS q471_0.nostat all0)
      have f493 := own_staKeepW f473 Kq491 (allS q471_0.nostat all0)
      have f494 := f474.keep Kq491
      have f495 := f475.keep Kq491 (ninS ne_oN_b363 nin0)
      have f496 := f476.keep Kq491 (ninS ne_oE_b363 nin0)
      have f497 := q471_0.keep Kq491
      have f498 := f478.keep Kq491 (ninS (Ne.symm ne_b363_b401) nin0)
      have f499 := f479.keep Kq491
      have f500 := f480.keep Kq491 (ninS (Ne.symm ne_b363_b447) nin0)
      have f501 := f481.keep Kq491
      have f502 := f482.keep Kq491 (ninS (Ne.symm ne_b363_zx461) nin0)
      have f503 := f483.keep Kq491 (ninS (Ne.symm ne_b363_zx461) nin0)
      have f504 := f484.keep Kq491 (ninS (Ne.symm ne_b363_zx411) nin0)
      have f505 := f485.keep Kq491 (ninS (Ne.symm ne_b363_zx411) nin0)
      have f506 := f486.keep Kq491
      have f507 := f487.keep Kq491 (ninS (Ne.symm ne_b363_zli461) nin0)
      have f508 := f488.keep Kq491 (ninS (Ne.symm ne_b363_zli461) nin0)
      have f509 := f489.keep Kq491 (ninS (Ne.symm ne_b363_zli461) nin0)
      have f510 := f490.keep Kq491 (ninS (Ne.symm ne_b363_zd461) nin0)
      have K491 : Keep h0 T491.heap [] := K471.trans Kq491 (allS (Or.inr sz_b363) all0)
      have Z491 := Nat.le_trans Z471 Kq491.1
      have hk491 := Nat.le_trans hk471 Kq491.1
      refine own_s T491 (mkF m 105 #[iv p1, iv p2, iv 2, iv 2, iv 0, rv b363, u_, u_, u_, u_, u_] []) st491 ?_
      refine own_s T491 (mkF m 117 #[iv p1, iv p2, iv 2, iv 2, iv 0, rv b363, u_, u_, u_, u_, u_] [(.ref b363)]) (fun _ k => XS.iloadN X491.here hx rfl (hb hby at_105) rfl  (XS.iconst X491.here hx rfl (hb hby at_106) (XS.icmpYes X491.here hx rfl (pc0 := 107) (pc' := 115) rfl (hb hby at_107) rfl (tlt (by decide : ((2 : Int32) < (3 : Int32)))).1 (by decide) (by decide) (XS.aload X491.here hx rfl (hb hby at_115) rfl rfl k)))) ?_
      obtain ⟨v511, T511, L511, X511, hQ511, st511⟩ := own_callV X491 hx hZ (y := own_y20) (z := own_y20) (W := 0) (a := b363) hown (own_h hw 82 rfl) (own_h hw 83 rfl) (notFace_of_selects (args := #[]) (mvT hZ (own_h hw 85 rfl))) (own_h hw 85 rfl) (own_h hw 84 rfl) (own_h hw 3 rfl) (own_h hw 86 rfl) (by decide) (own_rmgdp l Z a0 hw [] b363 (0 : Int32) T491.heap n0 Z491 q491_3) (by decide) (by decide) q491_0 (g := (mkF m 117 #[iv p1, iv p2, iv 2, iv 2, iv 0, rv b363, u_, u_, u_, u_, u_] [(.ref b363)])) rfl (by rw [hml]; rfl) (argsL := []) (rest := []) rfl (lenOf own_pd7 rfl) rfl (by show 2 * 0 + _ ≤ _; exact Nat.le_of_eq rfl) (hb hby at_117) rfl (by decide) (by decide)
      obtain ⟨rfl, Nq511, e511⟩ := hQ511
      have N511 := Fr.app N491 Nq511
      refine own_s T511 (mkF m 120 #[iv p1, iv p2, iv 2, iv 2, iv 0, rv b363, u_, u_, u_, u_, u_] [(.int 0)]) st511 ?_
      refine own_s T511 (mkF m 132 #[iv p1, iv p2, iv 2, iv 2, iv 0, rv b363, iv 1, u_, u_, u_, u_] []) (fun _ k => XS.iload X511.here hx rfl (hb hby at_120) rfl  (XS.icmpNo X511.here hx rfl (hb hby at_122) rfl (teq (by decide : ((0 : Int32) = (0 : Int32)))).2 (XS.iconst X511.here hx rfl (hb hby at_125) (XS.goto X511.here hx rfl (pc0 := 126) (pc' := 130) rfl (hb hby at_126) (by decide) (by decide) (XS.istore X511.here hx rfl (hb hby at_130) rfl (l' := #[iv p1, iv p2, iv 2, iv 2, iv 0, rv b363, iv 1, u_, u_, u_, u_]) rfl k))))) ?_
      refine own_s T511 (mkF m 179 #[iv p1, iv p2, iv 2, iv 2, iv 0, rv b363, iv 1, u_, u_, u_, u_] [(.ref b363)]) (fun _ k => XS.iload X511.here hx rfl (hb hby at_132) rfl  (XS.ifYes X511.here hx rfl (pc0 := 134) (pc' := 177) rfl (hb hby at_134) rfl ((if0 _ _).trans (flt (by decide : ¬ ((0 : Int32) < (0 : Int32)))).2.2.2) (by decide) (by decide) (XS.aload X511.here hx rfl (hb hby at_177) rfl rfl k))) ?_
      obtain ⟨v512, T512, L512, X512, hQ512, st512⟩ := own_callV X511 hx hZ (y := own_y21) (z := own_y21) (W := 0) (a := b363) hown (own_h hw 87 rfl) (own_h hw 88 rfl) (notFace_of_selects (args := #[]) (mvT hZ (own_h hw 90 rfl))) (own_h hw 90 rfl) (own_h hw 89 rfl) (own_h hw 3 rfl) (own_h hw 91 rfl) (by decide) (own_rmgrt l Z a0 hw [] b363 zx411 T491.heap n0 Z491 q491_2) (by decide) (by decide) q491_0 (g := (mkF m 179 #[iv p1, iv p2, iv 2, iv 2, iv 0, rv b363, iv 1, u_, u_, u_, u_] [(.ref b363)])) rfl (by rw [hml]; rfl) (argsL := []) (rest := []) rfl (lenOf own_pd11 rfl) rfl (by show 2 * 0 + _ ≤ _; exact Nat.le_of_eq rfl) (hb hby at_179) e511 (by decide) (by decide)
      obtain ⟨rfl, Nq512, e512⟩ := hQ512
      have N512 := Fr.app N511 Nq512
      refine own_s T512 (mkF m 182 #[iv p1, iv p2, iv 2, iv 2, iv 0, rv b363, iv 1, u_, u_, u_, u_] [(.ref zx411)]) st512 ?_
      refine own_s T512 (mkF m 191 #[iv p1, iv p2, iv 2, iv 2, iv 0, rv b363, iv 1, rv zx411, u_, u_, u_] [(.ref zx411)]) (fun _ k => XS.astore X512.here hx rfl (hb hby at_182) rfl rfl (l' := #[iv p1, iv p2, iv 2, iv 2, iv 0, rv b363, iv 1, rv zx411, u_, u_, u_]) rfl (XS.aload X512.here hx rfl (hb hby at_184) rfl rfl (XS.ifnullNo X512.here hx rfl (hb hby at_186) rfl (XS.aload X512.here hx rfl (hb hby at_189) rfl rfl k)))) ?_
      obtain ⟨v513, T513, L513, X513, hQ513, st513⟩ := own_callV X512 hx hZ (y := own_y18) (z := own_y18) (W := 0) (a := zx411) hown (own_h hw 92 rfl) (own_h hw 78 rfl) (notFace_of_selects (args := #[]) (mvT hZ (own_h hw 80 rfl))) (own_h hw 80 rfl) (own_h hw 79 rfl) (own_h hw 34 rfl) (own_h hw 81 rfl) (by decide) (own_rmgpar l Z a0 hw [] zx411 .null T491.heap n0 Z491 f505 rfl) (by decide) (by decide) f499 (g := (mkF m 191 #[iv p1, iv p2, iv 2, iv 2, iv 0, rv b363, iv 1, rv zx411, u_, u_, u_] [(.ref zx411)])) rfl (by rw [hml]; rfl) (argsL := []) (rest := []) rfl (lenOf own_pd11 rfl) rfl (by show 2 * 0 + _ ≤ _; exact Nat.le_of_eq rfl) (hb hby at_191) e512 (by decide) (by decide)
      obtain ⟨rfl, Nq513, e513⟩ := hQ513
      have N513 := Fr.app N512 Nq513
      refine own_s T513 (mkF m 194 #[iv p1, iv p2, iv 2, iv 2, iv 0, rv b363, iv 1, rv zx411, u_, u_, u_] [.null]) st513 ?_
      refine own_s T513 (mkF m 205 #[iv p1, iv p2, iv 2, iv 2, iv 0, rv b363, iv 1, rv zx411, u_, u_, u_] [(.int 1)]) (fun _ k => XS.ifnullYes X513.here hx rfl (pc0 := 194) (pc' := 199) rfl (hb hby at_194) rfl (by decide) (by decide) (XS.iloadN X513.here hx rfl (hb hby at_199) rfl  (XS.iconst X513.here hx rfl (hb hby at_200) (XS.icmpNo X513.here hx rfl (hb hby at_201) rfl (flt (by decide : ¬ ((2 : Int32) < (2 : Int32)))).1 (XS.iconst X513.here hx rfl (hb hby at_204) k))))) ?_
      refine own_s T513 (mkF m 220 #[iv p1, iv p2, iv 2, iv 2, iv 0, rv b363, iv 1, rv zx411, u_, u_, u_] [(.int 0), (.int 1)]) (fun _ k => XS.goto X513.here hx rfl (pc0 := 205) (pc' := 209) rfl (hb hby at_205) (by decide) (by decide) (XS.iload X513.here hx rfl (hb hby at_209) rfl  (XS.iconst X513.here hx rfl (hb hby at_211) (XS.icmpYes X513.here hx rfl (pc0 := 212) (pc' := 219) rfl (hb hby at_212) rfl (feq (by decide : ¬ ((0 : Int32) = (1 : Int32)))).2 (by decide) (by decide) (XS.iconst X513.here hx rfl (hb hby at_219) k))))) ?_
      refine own_s T513 (mkF m 230 #[iv p1, iv p2, iv 2, iv 2, iv 0, rv b363, iv 1, rv zx411, iv 1, u_, u_] [(.ref zx411)]) (fun _ k => XS.iadd X513.here hx rfl (hb hby at_220) rfl (XS.istore X513.here hx rfl (hb hby at_221) rfl (l' := #[iv p1, iv p2, iv 2, iv 2, iv 0, rv b363, iv 1, rv zx411, iv 1, u_, u_]) rfl (XS.iload X513.here hx rfl (hb hby at_223) rfl  (XS.ifNo X513.here hx rfl (hb hby at_225) rfl ((if0 _ _).trans (feq (by decide : ¬ ((1 : Int32) = (0 : Int32)))).1) (XS.aload X513.here hx rfl (hb hby at_228) rfl rfl k))))) ?_
      obtain ⟨v514, T514, L514, X514, hQ514, st514⟩ := own_callV X513 hx hZ (y := own_y19) (z := own_y19) (W := 0) (a := zx411) hown (own_h hw 93 rfl) (own_h hw 94 rfl) (notFace_of_selects (args := #[]) (mvT hZ (own_h hw 96 rfl))) (own_h hw 96 rfl) (own_h hw 95 rfl) (own_h hw 34 rfl) (own_h hw 97 rfl) (by decide) (own_rmgch l Z a0 hw [] zx411 zli461 T491.heap n0 Z491 f504) (by decide) (by decide) f499 (g := (mkF m 230 #[iv p1, iv p2, iv 2, iv 2, iv 0, rv b363, iv 1, rv zx411, iv 1, u_, u_] [(.ref zx411)])) rfl (by rw [hml]; rfl) (argsL := []) (rest := []) rfl (lenOf own_pd13 rfl) rfl (by show 2 * 0 + _ ≤ _; exact Nat.le_of_eq rfl) (hb hby at_230) e513 (by decide) (by decide)
      obtain ⟨rfl, Nq514, e514⟩ := hQ514
      have N514 := Fr.app N513 Nq514
      refine own_s T514 (mkF m 233 #[iv p1, iv p2, iv 2, iv 2, iv 0, rv b363, iv 1, rv zx411, iv 1, u_, u_] [(.ref zli461)]) st514 ?_
      obtain ⟨v515, T515, L515, X515, hQ515, st515⟩ := own_callF X514 hx hZ (y := own_y12) (z := own_y5) (W := 0) (a := zli461) hown (own_h hw 98 rfl) (own_h hw 99 rfl) (mvT hZ (own_h hw 100 rfl)) (own_h hw 160 rfl) (own_h hw 161 rfl) (own_h hw 162 rfl) (own_h hw 163 rfl) (own_h hw 147 rfl) (own_h hw 117 rfl) (own_h hw 164 rfl) (by decide) (own_rmalsz l Z a0 hw [] zli461 (1 : Int32) T491.heap n0 Z491 f509) (by decide) (by decide) f506 (g := (mkF m 233 #[iv p1, iv p2, iv 2, iv 2, iv 0, rv b363, iv 1, rv zx411, iv 1, u_, u_] [(.ref zli461)])) rfl (by rw [hml]; rfl) (argsL := []) (rest := []) rfl (lenOf own_pd7 rfl) rfl (by show 2 * 0 + _ ≤ _; exact Nat.le_of_eq rfl) (hb hby at_233) e514 (by decide) (by decide)
      obtain ⟨rfl, Nq515, e515⟩ := hQ515
      have N515 := Fr.app N514 Nq515
      refine own_s T515 (mkF m 238 #[iv p1, iv p2, iv 2, iv 2, iv 0, rv b363, iv 1, rv zx411, iv 1, u_, u_] [(.int 1)]) st515 ?_
      refine own_s T515 (mkF m 250 #[iv p1, iv p2, iv 2, iv 2, iv 0, rv b363, iv 1, rv zx411, iv 1, u_, u_] []) (fun _ k => XS.iload X515.here hx rfl (hb hby at_238) rfl  (XS.icmpNo X515.here hx rfl (hb hby at_240) rfl (teq (by decide : ((1 : Int32) = (1 : Int32)))).2 (XS.iconst X515.here hx rfl (hb hby at_243) (XS.goto X515.here hx rfl (pc0 := 244) (pc' := 248) rfl (hb hby at_244) (by decide) (by decide) (XS.istore X515.here hx rfl (hb hby at_248) rfl (l' := #[iv p1, iv p2, iv 2, iv 2, iv 0, rv b363, iv 1, rv zx411, iv 1, u_, u_]) rfl k))))) ?_
      refine own_s T515 (mkF m 257 #[iv p1, iv p2, iv 2, iv 2, iv 0, rv b363, iv 1, rv zx411, iv 1, u_, u_] [(.ref zx411)]) (fun _ k => XS.iloadN X515.here hx rfl (hb hby at_250) rfl  (XS.iconst X515.here hx rfl (hb hby at_251) (XS.icmpNo X515.here hx rfl (hb hby at_252) rfl (flt (by decide : ¬ ((2 : Int32) < (2 : Int32)))).1 (XS.aload X515.here hx rfl (hb hby at_255) rfl rfl k)))) ?_
      obtain ⟨v516, T516, L516, X516, hQ516, st516⟩ := own_callV X515 hx hZ (y := own_y19) (z := own_y19) (W := 0) (a := zx411) hown (own_h hw 93 rfl) (own_h hw 94 rfl) (notFace_of_selects (args := #[]) (mvT hZ (own_h hw 96 rfl))) (own_h hw 96 rfl) (own_h hw 95 rfl) (own_h hw 34 rfl) (own_h hw 97 rfl) (by decide) (own_rmgch l Z a0 hw [] zx411 zli461 T491.heap n0 Z491 f504) (by decide) (by decide) f499 (g := (mkF m 257 #[iv p1, iv p2, iv 2, iv 2, iv 0, rv b363, iv 1, rv zx411, iv 1, u_, u_] [(.ref zx411)])) rfl (by rw [hml]; rfl) (argsL := []) (rest := []) rfl (lenOf own_pd13 rfl) rfl (by show 2 * 0 + _ ≤ _; exact Nat.le_of_eq rfl) (hb hby at_257) e515 (by decide) (by decide)
      obtain ⟨rfl, Nq516, e516⟩ := hQ516
      have N516 := Fr.app N515 Nq516
      refine own_s T516 (mkF m 260 #[iv p1, iv p2, iv 2, iv 2, iv 0, rv b363, iv 1, rv zx411, iv 1, u_, u_] [(.ref zli461)]) st516 ?_
      refine own_s T516 (mkF m 261 #[iv p1, iv p2, iv 2, iv 2, iv 0, rv b363, iv 1, rv zx411, iv 1, u_, u_] [(.int 0), (.ref zli461)]) (fun _ k => XS.iconst X516.here hx rfl (hb hby at_260) k) ?_
      obtain ⟨v517, T517, L517, X517, hQ517, st517⟩ := own_callF X516 hx hZ (y := own_y23) (z := own_y9) (W := 0) (a := zli461) hown (own_h hw 167 rfl) (own_h hw 168 rfl) (mvT hZ (own_h hw 169 rfl)) (own_h hw 170 rfl) (own_h hw 171 rfl) (own_h hw 172 rfl) (own_h hw 173 rfl) (own_h hw 147 rfl) (own_h hw 117 rfl) (own_h hw 174 rfl) (by decide) (own_rmget_1 l Z a0 hw [] zli461 zd461 zkd461 zx461 T491.heap n0 Z491 f506 f509 f508 f510) (by decide) (by decide) f506 (g := (mkF m 261 #[iv p1, iv p2, iv 2, iv 2, iv 0, rv b363, iv 1, rv zx411, iv 1, u_, u_] [(.int 0), (.ref zli461)])) rfl (by rw [hml]; rfl) (argsL := [(.int 0)]) (rest := []) rfl (lenOf own_pd4 rfl) rfl (by show 2 * 0 + _ ≤ _; exact Nat.le_of_eq rfl) (hb hby at_261) e516 (by decide) (by decide)
      obtain ⟨rfl, Nq517, Kq517⟩ := hQ517
      have N517 := Fr.app N516 Nq517
      have f518 := own_staKeep f492 Kq517
      have f519 := own_staKeep f493 Kq517
      have f520 := f494.keep Kq517
      have f521 := f495.keep Kq517 nin0
      have f522 := f496.keep Kq517 nin0
      have f523 := q491_0.keep Kq517
      have f524 := f498.keep Kq517 nin0
      have f525 := f499.keep Kq517
      have f526 := f500.keep Kq517 nin0
      have f527 := f501.keep Kq517
      have f528 := f502.keep Kq517 nin0
      have f529 := f503.keep Kq517 nin0
      have f530 := f504.keep Kq517 nin0
      have f531 := f505.keep Kq517 nin0
      have f532 := f506.keep Kq517
      have f533 := f507.keep Kq517 nin0
      have f534 := f508.keep Kq517 nin0
      have f535 := f509.keep Kq517 nin0
      have f536 := f510.keep Kq517 nin0
      have f537 := q491_1.keep Kq517 nin0
      have f538 := q491_2.keep Kq517 nin0
      have f539 := q491_3.keep Kq517 nin0
      have K517 : Keep h0 T517.heap [] := K491.trans Kq517 all0
      have Z517 := Nat.le_trans Z491 Kq517.1
      have hk517 := Nat.le_trans hk491 Kq517.1
      refine own_s T517 (mkF m 266 #[iv p1, iv p2, iv 2, iv 2, iv 0, rv b363, iv 1, rv zx411, iv 1, u_, u_] [(.ref zx461)]) st517 ?_
      obtain ⟨T540, X540, e540, st540⟩ := castY X517 hx hZ hown (own_h hw 188 rfl) rfl (Ins.self f527) (g := (mkF m 266 #[iv p1, iv p2, iv 2, iv 2, iv 0, rv b363, iv 1, rv zx411, iv 1, u_, u_] [(.ref zx461)])) rfl rfl (hb hby at_266)
      refine own_s T540 (mkF m 269 #[iv p1, iv p2, iv 2, iv 2, iv 0, rv b363, iv 1, rv zx411, iv 1, u_, u_] [(.ref zx461)]) st540 ?_
      refine own_s T540 (mkF m 281 #[iv p1, iv p2, iv 2, iv 2, iv 0, rv b363, iv 1, rv zx411, iv 1, rv zx461, u_] [(.int 0)]) (fun _ k => XS.astore X540.here hx rfl (hb hby at_269) rfl rfl (l' := #[iv p1, iv p2, iv 2, iv 2, iv 0, rv b363, iv 1, rv zx411, iv 1, rv zx461, u_]) rfl (XS.iloadN X540.here hx rfl (hb hby at_271) rfl  (XS.iconst X540.here hx rfl (hb hby at_272) (XS.icmpYes X540.here hx rfl (pc0 := 273) (pc' := 280) rfl (hb hby at_273) rfl (tlt (by decide : ((2 : Int32) < (3 : Int32)))).1 (by decide) (by decide) (XS.iconst X540.here hx rfl (hb hby at_280) k))))) ?_
      refine own_s T540 (mkF m 293 #[iv p1, iv p2, iv 2, iv 2, iv 0, rv b363, iv 1, rv zx411, iv 1, rv zx461, u_] [(.int 0)]) (fun _ k => XS.iload X540.here hx rfl (hb hby at_281) rfl  (XS.iconst X540.here hx rfl (hb hby at_283) (XS.icmpYes X540.here hx rfl (pc0 := 284) (pc' := 291) rfl (hb hby at_284) rfl (feq (by decide : ¬ ((0 : Int32) = (2 : Int32)))).2 (by decide) (by decide) (XS.iconst X540.here hx rfl (hb hby at_291) (XS.iadd X540.here hx rfl (hb hby at_292) rfl k))))) ?_
      refine own_s T540 (mkF m 302 #[iv p1, iv p2, iv 2, iv 2, iv 0, rv b363, iv 1, rv zx411, iv 1, rv zx461, iv 0] [(.ref zx461)]) (fun _ k => XS.istore X540.here hx rfl (hb hby at_293) rfl (l' := #[iv p1, iv p2, iv 2, iv 2, iv 0, rv b363, iv 1, rv zx411, iv 1, rv zx461, iv 0]) rfl (XS.iload X540.here hx rfl (hb hby at_295) rfl  (XS.ifNo X540.here hx rfl (hb hby at_297) rfl ((if0 _ _).trans (feq (by decide : ¬ ((1 : Int32) = (0 : Int32)))).1) (XS.aload X540.here hx rfl (hb hby at_300) rfl rfl k)))) ?_
      obtain ⟨v541, T541, L541, X541, hQ541, st541⟩ := own_callV X540 hx hZ (y := own_y19) (z := own_y19) (W := 0) (a := zx461) hown (own_h hw 93 rfl) (own_h hw 94 rfl) (notFace_of_selects (args := #[]) (mvT hZ (own_h hw 96 rfl))) (own_h hw 96 rfl) (own_h hw 95 rfl) (own_h hw 34 rfl) (own_h hw 97 rfl) (by decide) (own_rmgch l Z a0 hw [] zx461 oN T517.heap n0 Z517 f528) (by decide) (by decide) f527 (g := (mkF m 302 #[iv p1, iv p2, iv 2, iv 2, iv 0, rv b363, iv 1, rv zx411, iv 1, rv zx461, iv 0] [(.ref zx461)])) rfl (by rw [hml]; rfl) (argsL := []) (rest := []) rfl (lenOf own_pd13 rfl) rfl (by show 2 * 0 + _ ≤ _; exact Nat.le_of_eq rfl) (hb hby at_302) e540 (by decide) (by decide)
      obtain ⟨rfl, Nq541, e541⟩ := hQ541
      have N541 := Fr.app N517 Nq541
      refine own_s T541 (mkF m 305 #[iv p1, iv p2, iv 2, iv 2, iv 0, rv b363, iv 1, rv zx411, iv 1, rv zx461, iv 0] [(.ref oN)]) st541 ?_
      obtain ⟨v542, T542, L542, X542, hQ542, st542⟩ := own_callF X541 hx hZ (y := own_y12) (z := own_y10) (W := 0) (a := oN) hown (own_h hw 98 rfl) (own_h hw 99 rfl) (mvT hZ (own_h hw 100 rfl)) (own_h hw 101 rfl) (own_h hw 102 rfl) (own_h hw 103 rfl) (own_h hw 104 rfl) (own_h hw 105 rfl) (own_h hw 106 rfl) (own_h hw 107 rfl) (by decide) (own_rmlsz l Z a0 hw [] oN oE kE T517.heap n0 Z517 f521 f522) (by decide) (by decide) f520 (g := (mkF m 305 #[iv p1, iv p2, iv 2, iv 2, iv 0, rv b363, iv 1, rv zx411, iv 1, rv zx461, iv 0] [(.ref oN)])) rfl (by rw [hml]; rfl) (argsL := []) (rest := []) rfl (lenOf own_pd7 rfl) rfl (by show 2 * 0 + _ ≤ _; exact Nat.le_of_eq rfl) (hb hby at_305) e541 (by decide) (by decide)
      obtain ⟨rfl, Nq542, Kq542⟩ := hQ542
      have N542 := Fr.app N541 Nq542
      have f543 := own_staKeep f518 Kq542
      have f544 := own_staKeep f519 Kq542
      have f545 := f520.keep Kq542
      have f546 := f521.keep Kq542 nin0
      have f547 := f522.keep Kq542 nin0
      have f548 := f523.keep Kq542
      have f549 := f524.keep Kq542 nin0
      have f550 := f525.keep Kq542
      have f551 := f526.keep Kq542 nin0
      have f552 := f527.keep Kq542
      have f553 := f528.keep Kq542 nin0
      have f554 := f529.keep Kq542 nin0
      have f555 := f530.keep Kq542 nin0
      have f556 := f531.keep Kq542 nin0
      have f557 := f532.keep Kq542
      have f558 := f533.keep Kq542 nin0
      have f559 := f534.keep Kq542 nin0
      have f560 := f535.keep Kq542 nin0
      have f561 := f536.keep Kq542 nin0
      have f562 := f537.keep Kq542 nin0
      have f563 := f538.keep Kq542 nin0
      have f564 := f539.keep Kq542 nin0
      have K542 : Keep h0 T542.heap [] := K517.trans Kq542 all0
      have Z542 := Nat.le_trans Z517 Kq542.1
      have hk542 := Nat.le_trans hk517 Kq542.1
      refine own_s T542 (mkF m 310 #[iv p1, iv p2, iv 2, iv 2, iv 0, rv b363, iv 1, rv zx411, iv 1, rv zx461, iv 0] [(.int 0)]) st542 ?_
      refine own_s T542 (mkF m 322 #[iv p1, iv p2, iv 2, iv 2, iv 0, rv b363, iv 1, rv zx411, iv 1, rv zx461, iv 0] []) (fun _ k => XS.iload X542.here hx rfl (hb hby at_310) rfl  (XS.icmpNo X542.here hx rfl (hb hby at_312) rfl (teq (by decide : ((0 : Int32) = (0 : Int32)))).2 (XS.iconst X542.here hx rfl (hb hby at_315) (XS.goto X542.here hx rfl (pc0 := 316) (pc' := 320) rfl (hb hby at_316) (by decide) (by decide) (XS.istore X542.here hx rfl (hb hby at_320) rfl (l' := #[iv p1, iv p2, iv 2, iv 2, iv 0, rv b363, iv 1, rv zx411, iv 1, rv zx461, iv 0]) rfl k))))) ?_
      refine own_s T542 (mkF m 324 #[iv p1, iv p2, iv 2, iv 2, iv 0, rv b363, iv 1, rv zx411, iv 1, rv zx461, iv 0] [(.int 1)]) (fun _ k => XS.iload X542.here hx rfl (hb hby at_322) rfl  k) ?_
      exact own_finZ X542 hx (t := .boolean) hret (by simp) (z' := (1 : Int32)) rfl (hb hby at_324) (own_endW (Qv := (own_Q0 Z p1 p2 oN oA oE kE h0 n0)) X542 hS (own_some hret) hlk (by decide) (by decide) rfl hk542 (fun vm' hv' => ⟨rfl, N542⟩))
  · refine own_cast (g' := (mkF m 9 #[iv p1, iv p2, iv 3, u_, u_, u_, u_, u_, u_, u_, u_] [])) (by rw [hn]) ?_
    refine own_s s₁ (mkF m 11 #[iv p1, iv p2, iv 3, u_, u_, u_, u_, u_, u_, u_, u_] [(.int p2), (.int 1)]) (fun _ k => XS.iconst X0.here hx rfl (hb hby at_9) (XS.iloadN X0.here hx rfl (hb hby at_10) rfl  k)) ?_
    refine own_s s₁ (mkF m 13 #[iv p1, iv p2, iv 3, u_, u_, u_, u_, u_, u_, u_, u_] [(.int 2147483647), (.int p2), (.int 1)]) (X0.ldcInt hx hown (mvT hZ (own_h hw 0 rfl)) (g := (mkF m 11 #[iv p1, iv p2, iv 3, u_, u_, u_, u_, u_, u_, u_, u_] [(.int p2), (.int 1)])) rfl (hb hby at_11)) ?_
    refine own_s s₁ (mkF m 18 #[iv p1, iv p2, iv 3, iv ((1 : Int32) + ((p2 &&& (2147483647 : Int32)) % (3 : Int32))), u_, u_, u_, u_, u_, u_, u_] []) (fun _ k => XS.iand X0.here hx rfl (hb hby at_13) rfl (XS.iloadN X0.here hx rfl (hb hby at_14) rfl  (iremM X0 hx rfl (hb hby at_15) rfl (by decide) (XS.iadd X0.here hx rfl (hb hby at_16) rfl (XS.istoreN X0.here hx rfl (hb hby at_17) rfl (l' := #[iv p1, iv p2, iv 3, iv ((1 : Int32) + ((p2 &&& (2147483647 : Int32)) % (3 : Int32))), u_, u_, u_, u_, u_, u_, u_]) rfl k))))) ?_
    rcases own_n3 p2 with hk | hk | hk
    · refine own_cast (g' := (mkF m 18 #[iv p1, iv p2, iv 3, iv 1, u_, u_, u_, u_, u_, u_, u_] [])) (by rw [hk]) ?_
      refine own_s s₁ (mkF m 23 #[iv p1, iv p2, iv 3, iv 1, iv 2, u_, u_, u_, u_, u_, u_] []) (fun _ k => XS.iloadN X0.here hx rfl (hb hby at_18) rfl  (XS.iloadN X0.here hx rfl (hb hby at_19) rfl  (XS.isub X0.here hx rfl (hb hby at_20) rfl (XS.istore X0.here hx rfl (hb hby at_21) rfl (l' := #[iv p1, iv p2, iv 3, iv 1, iv 2, u_, u_, u_, u_, u_, u_]) rfl k)))) ?_
      obtain ⟨T565, h565, X565, e565, E565, A565, D565, -, st565⟩ := newO X0 hx hZ hown (own_h hw 1 rfl) (own_h hw 2 rfl) (own_h hw 3 rfl) e0 (g := (mkF m 23 #[iv p1, iv p2, iv 3, iv 1, iv 2, u_, u_, u_, u_, u_, u_] [])) rfl (hb hby at_23) (by decide) (by decide)
      obtain ⟨b565, g565⟩ : ∃ z, z = h0.size := ⟨_, rfl⟩
      have ne_oN_b565 : oN ≠ b565 := Nat.ne_of_lt (Nat.lt_of_lt_of_le pr2.lt (Nat.le_of_eq g565.symm))
      have ne_oE_b565 : oE ≠ b565 := Nat.ne_of_lt (Nat.lt_of_lt_of_le pr4.lt (Nat.le_of_eq g565.symm))
      have g_b565 : n0 ≤ b565 := Nat.le_trans Z0 (Nat.le_of_eq g565.symm)
      have sz_b565 : h0.size ≤ b565 := Nat.le_trans (Keep.refl h0 []).1 (Nat.le_of_eq g565.symm)
      rw [← g565] at A565 D565 st565
      have f566 := Sta.ext E565 pr0
      have f567 := Sta.ext E565 pr1
      have f568 := Exa.ext E565 pr2
      have f569 := Fld.ext E565 pr3
      have f570 := pr4.ext E565
      have K565 : Keep h0 h565 [] := (Keep.refl h0 []).ext E565
      have Z565 := Nat.le_trans Z0 E565.1
      have hk565 := Nat.le_trans hk0 E565.1
      have f571 : Fld Z h565 b565 "com/example/tagwright/tagwright/XmlTree" "whiteSpaces" "[Ljava/lang/String;" .null := D565 (Or.inr (own_h hw 13 rfl)) (ty := (.array (.object "java/lang/String"))) (by decide)
      have f572 : Fld Z h565 b565 "com/example/tagwright/tagwright/XmlTree" "whiteSpaceBytes" "[[B" .null := D565 (Or.inr (own_h hw 17 rfl)) (ty := (.array (.array .byte))) (by decide)
      have f573 : Fld Z h565 b565 "com/example/tagwright/tagwright/XmlTree" "current" "Lcom/example/tagwright/tagwright/XmlElement;" .null := D565 (Or.inl (own_h hw 36 rfl)) (ty := (.object "com/example/tagwright/tagwright/XmlElement")) (by decide)
      have f574 : Fld Z h565 b565 "com/example/tagwright/tagwright/XmlTree" "root" "Lcom/example/tagwright/tagwright/XmlElement;" .null := D565 (Or.inl (own_h hw 69 rfl)) (ty := (.object "com/example/tagwright/tagwright/XmlElement")) (by decide)
      have f575 : Fld Z h565 b565 "com/example/tagwright/tagwright/XmlTree" "depth" "I" (.int 0) := D565 (Or.inl (own_h hw 71 rfl)) (ty := .int) (by decide)
      refine own_s T565 (mkF m 26 #[iv p1, iv p2, iv 3, iv 1, iv 2, u_, u_, u_, u_, u_, u_] [(.ref b565)]) st565 ?_
      refine own_s T565 (mkF m 27 #[iv p1, iv p2, iv 3, iv 1, iv 2, u_, u_, u_, u_, u_, u_] [(.ref b565), (.ref b565)]) (fun _ k => XS.dup X565.here hx rfl (hb hby at_26) rfl rfl k) ?_
      obtain ⟨v576, T576, L576, X576, hQ576, st576⟩ := own_callI X565 hx hZ (y := own_y16) (W := 1) (a := b565) rfl hown (own_h hw 4 rfl) (own_h hw 5 rfl) (own_h hw 3 rfl) (own_h hw 6 rfl) (by decide) (own_rmti l Z a0 hw [] b565 h565 n0 Z565 g_b565 A565 f573 f574 f575 f571 f572) (by decide) (by decide) (g := (mkF m 27 #[iv p1, iv p2, iv 3, iv 1, iv 2, u_, u_, u_, u_, u_, u_] [(.ref b565), (.ref b565)])) rfl (by rw [hml]; rfl) (argsL := []) (rest := [(.ref b565)]) rfl (lenOf own_pd0 rfl) rfl (by show 2 * 0 + _ ≤ _; exact Nat.le_of_eq rfl) (hb hby at_27) e565 (by decide) (by decide)
      obtain ⟨rfl, Nq576, Kq576, q576_0, q576_1, q576_2, q576_3⟩ := hQ576
      have N576 := Fr.app N0 Nq576
      have f577 := own_staKeepW f566 Kq576 (allS A565.nostat all0)
      have f578 := own_staKeepW f567 Kq576 (allS A565.nostat all0)
      have f579 := f568.keep Kq576
      have f580 := f569.keep Kq576 (ninS ne_oN_b565 nin0)
      have f581 := f570.keep Kq576 (ninS ne_oE_b565 nin0)
      have f582 := A565.keep Kq576
      have K576 : Keep h0 T576.heap [] := K565.trans Kq576 (allS (Or.inr sz_b565) all0)
      have Z576 := Nat.le_trans Z565 Kq576.1
      have hk576 := Nat.le_trans hk565 Kq576.1
      refine own_s T576 (mkF m 30 #[iv p1, iv p2, iv 3, iv 1, iv 2, u_, u_, u_, u_, u_, u_] [(.ref b565)]) st576 ?_
      refine own_s T576 (mkF m 35 #[iv p1, iv p2, iv 3, iv 1, iv 2, rv b565, u_, u_, u_, u_, u_] [.null, (.ref b565)]) (fun _ k => XS.astore X576.here hx rfl (hb hby at_30) rfl rfl (l' := #[iv p1, iv p2, iv 3, iv 1, iv 2, rv b565, u_, u_, u_, u_, u_]) rfl (XS.aload X576.here hx rfl (hb hby at_32) rfl rfl (XS.aconstNull X576.here hx rfl (hb hby at_34) k))) ?_
      obtain ⟨sl583, T583, h583, kk583, X583, e583, E583, hS, hk583, hZ, hown, st583⟩ := ldcS (s := s) X576 hx hZ hown (own_h hw 18 rfl) (own_wS hw) rfl hS hk576 (g := (mkF m 35 #[iv p1, iv p2, iv 3, iv 1, iv 2, rv b565, u_, u_, u_, u_, u_] [.null, (.ref b565)])) rfl (hb hby at_35) (n := 4) (by decide) (by decide) (by decide) (by decide)
      have f584 := Sta.ext E583 f577
      have f585 := Sta.ext E583 f578
      have f586 := Exa.ext E583 f579
      have f587 := Fld.ext E583 f580
      have f588 := f581.ext E583
      have f589 := Exa.ext E583 q576_0
      have f590 := Fld.ext E583 q576_1
      have f591 := Fld.ext E583 q576_2
      have f592 := Fld.ext E583 q576_3
      have K583 : Keep h0 h583 [] := K576.ext E583
      have Z583 := Nat.le_trans Z576 E583.1
      refine own_s T583 (mkF m 37 #[iv p1, iv p2, iv 3, iv 1, iv 2, rv b565, u_, u_, u_, u_, u_] [(.ref sl583), .null, (.ref b565)]) st583 ?_
      obtain ⟨sl593, T593, h593, kk593, X593, e593, E593, hS, hk593, hZ, hown, st593⟩ := ldcS (s := s) X583 hx hZ hown (own_h hw 18 rfl) (own_wS hw) e583 hS hk583 (g := (mkF m 37 #[iv p1, iv p2, iv 3, iv 1, iv 2, rv b565, u_, u_, u_, u_, u_] [(.ref sl583), .null, (.ref b565)])) rfl (hb hby at_37) (n := 4) (by decide) (by decide) (by decide) (by decide)
      have f594 := Sta.ext E593 f584
      have f595 := Sta.ext E593 f585
      have f596 := Exa.ext E593 f586
      have f597 := Fld.ext E593 f587
      have f598 := f588.ext E593
      have f599 := Exa.ext E593 f589
      have f600 := Fld.ext E593 f590
      have f601 := Fld.ext E593 f591
      have f602 := Fld.ext E593 f592
      have K593 : Keep h0 h593 [] := K583.ext E593
      have Z593 := Nat.le_trans Z583 E593.1
      refine own_s T593 (mkF m 39 #[iv p1, iv p2, iv 3, iv 1, iv 2, rv b565, u_, u_, u_, u_, u_] [(.ref sl593), (.ref sl583), .null, (.ref b565)]) st593 ?_
      refine own_s T593 (mkF m 41 #[iv p1, iv p2, iv 3, iv 1, iv 2, rv b565, u_, u_, u_, u_, u_] [(.int 0), .null, (.ref sl593), (.ref sl583), .null, (.ref b565)]) (fun _ k => XS.aconstNull X593.here hx rfl (hb hby at_39) (XS.iconst X593.here hx rfl (hb hby at_40) k)) ?_
      obtain ⟨T603, h603, k603, X603, e603, E603, A603, O603, st603⟩ := newR X593 hx hZ hown (own_h hw 26 rfl) (own_h hw 11 rfl) e593 (g := (mkF m 41 #[iv p1, iv p2, iv 3, iv 1, iv 2, rv b565, u_, u_, u_, u_, u_] [(.int 0), .null, (.ref sl593), (.ref sl583), .null, (.ref b565)])) rfl (hb hby at_41) rfl (by decide) (cap := 0) (by decide) (by decide) (by decide) (by decide)
      obtain ⟨b603, g603⟩ : ∃ z, z = h593.size := ⟨_, rfl⟩
      have ne_oN_b603 : oN ≠ b603 := Nat.ne_of_lt (Nat.lt_of_lt_of_le f596.lt (Nat.le_of_eq g603.symm))
      have ne_oE_b603 : oE ≠ b603 := Nat.ne_of_lt (Nat.lt_of_lt_of_le f598.lt (Nat.le_of_eq g603.symm))
      have ne_b565_b603 : b565 ≠ b603 := Nat.ne_of_lt (Nat.lt_of_lt_of_le f599.lt (Nat.le_of_eq g603.symm))
      have g_b603 : n0 ≤ b603 := Nat.le_trans Z593 (Nat.le_of_eq g603.symm)
      have sz_b603 : h0.size ≤ b603 := Nat.le_trans K593.1 (Nat.le_of_eq g603.symm)
      rw [← g603] at A603 st603
      have f604 := Sta.ext E603 f594
      have f605 := Sta.ext E603 f595
      have f606 := Exa.ext E603 f596
      have f607 := Fld.ext E603 f597
      have f608 := f598.ext E603
      have f609 := Exa.ext E603 f599
      have f610 := Fld.ext E603 f600
      have f611 := Fld.ext E603 f601
      have f612 := Fld.ext E603 f602
      have K603 : Keep h0 h603 [] := K593.ext E603
      have Z603 := Nat.le_trans Z593 E603.1
      have hk603 := Nat.le_trans hk593 E603.1
      have f603 : Arv Z h603 b603 k603 (.object "java/lang/String") 0 [] .null := (Arv.new A603 (by decide)).pad (pad_rep [] .null 0)
      refine own_s T603 (mkF m 44 #[iv p1, iv p2, iv 3, iv 1, iv 2, rv b565, u_, u_, u_, u_, u_] [(.ref b603), .null, (.ref sl593), (.ref sl583), .null, (.ref b565)]) st603 ?_
      refine own_s T603 (mkF m 45 #[iv p1, iv p2, iv 3, iv 1, iv 2, rv b565, u_, u_, u_, u_, u_] [.null, (.ref b603), .null, (.ref sl593), (.ref sl583), .null, (.ref b565)]) (fun _ k => XS.aconstNull X603.here hx rfl (hb hby at_44) k) ?_
      obtain ⟨v613, T613, L613, X613, hQ613, st613⟩ := own_callV X603 hx hZ (y := own_y17) (z := own_y17) (W := 0) (a := b565) hown (own_h hw 27 rfl) (own_h hw 28 rfl) (notFace_of_selects (args := #[]) (mvT hZ (own_h hw 30 rfl))) (own_h hw 30 rfl) (own_h hw 29 rfl) (own_h hw 3 rfl) (own_h hw 31 rfl) (by decide) (own_rmst0 l Z a0 hw [] b565 sl583 sl593 b603 oN oA k603 h603 n0 Z603 g_b565 f609 f610 f611 f612 f604 f605 f603 ne_b565_b603) (by decide) (by decide) f609 (g := (mkF m 45 #[iv p1, iv p2, iv 3, iv 1, iv 2, rv b565, u_, u_, u_, u_, u_] [.null, (.ref b603), .null, (.ref sl593), (.ref sl583), .null, (.ref b565)])) rfl (by rw [hml]; rfl) (argsL := [.null, (.ref sl583), (.ref sl593), .null, (.ref b603), .null]) (rest := []) rfl (lenOf own_pd12 rfl) rfl (by show 2 * 0 + _ ≤ _; exact Nat.le_of_eq rfl) (hb hby at_45) e603 (by decide) (by decide)
      obtain ⟨zx613, rfl, Nq613, Kq613, g_zx613, sq_zx613, q613_0, q613_1, q613_2, q613_3, q613_4, q613_5, q613_6⟩ := hQ613
      have N613 := Fr.app N576 Nq613
      have ne_oN_zx613 : oN ≠ zx613 := Nat.ne_of_lt (Nat.lt_of_lt_of_le f606.lt sq_zx613)
      have ne_oE_zx613 : oE ≠ zx613 := Nat.ne_of_lt (Nat.lt_of_lt_of_le f608.lt sq_zx613)
      have ne_b565_zx613 : b565 ≠ zx613 := Nat.ne_of_lt (Nat.lt_of_lt_of_le f609.lt sq_zx613)
      have ne_b603_zx613 : b603 ≠ zx613 := Nat.ne_of_lt (Nat.lt_of_lt_of_le f603.lt sq_zx613)
      have sz_zx613 : h0.size ≤ zx613 := Nat.le_trans K603.1 sq_zx613
      have f614 := own_staKeepW f604 Kq613 (allS f609.nostat all0)
      have f615 := own_staKeepW f605 Kq613 (allS f609.nostat all0)
      have f616 := f606.keep Kq613
      have f617 := f607.keep Kq613 (ninS ne_oN_b565 nin0)
      have f618 := f608.keep Kq613 (ninS ne_oE_b565 nin0)
      have f619 := f609.keep Kq613
      have f620 := f603.keep Kq613 (ninS (Ne.symm ne_b565_b603) nin0)
      have K613 : Keep h0 T613.heap [] := K603.trans Kq613 (allS (Or.inr sz_b565) all0)
      have Z613 := Nat.le_trans Z603 Kq613.1
      have hk613 := Nat.le_trans hk603 Kq613.1
      refine own_s T613 (mkF m 48 #[iv p1, iv p2, iv 3, iv 1, iv 2, rv b565, u_, u_, u_, u_, u_] []) st613 ?_
      refine own_s T613 (mkF m 56 #[iv p1, iv p2, iv 3, iv 1, iv 2, rv b565, u_, u_, u_, u_, u_] [.null, (.ref b565)]) (fun _ k => XS.iloadN X613.here hx rfl (hb hby at_48) rfl  (XS.iconst X613.here hx rfl (hb hby at_49) (XS.icmpNo X613.here hx rfl (hb hby at_50) rfl (flt (by decide : ¬ ((3 : Int32) < (2 : Int32)))).1 (XS.aload X613.here hx rfl (hb hby at_53) rfl rfl (XS.aconstNull X613.here hx rfl (hb hby at_55) k))))) ?_
      obtain ⟨sl621, T621, h621, kk621, X621, e621, E621, hS, hk621, hZ, hown, st621⟩ := ldcS (s := s) X613 hx hZ hown (own_h hw 110 rfl) (own_wS hw) rfl hS hk613 (g := (mkF m 56 #[iv p1, iv p2, iv 3, iv 1, iv 2, rv b565, u_, u_, u_, u_, u_] [.null, (.ref b565)])) rfl (hb hby at_56) (n := 4) (by decide) (by decide) (by decide) (by decide)
      have f622 := Sta.ext E621 f614
      have f623 := Sta.ext E621 f615
      have f624 := Exa.ext E621 f616
      have f625 := Fld.ext E621 f617
      have f626 := f618.ext E621
      have f627 := Exa.ext E621 q613_0
      have f628 := f620.ext E621
      have f629 := Fld.ext E621 q613_1
      have f630 := Fld.ext E621 q613_2
      have f631 := Fld.ext E621 q613_3
      have f632 := Exa.ext E621 q613_4
      have f633 := Fld.ext E621 q613_5
      have f634 := Fld.ext E621 q613_6
      have K621 : Keep h0 h621 [] := K613.ext E621
      have Z621 := Nat.le_trans Z613 E621.1
      refine own_s T621 (mkF m 58 #[iv p1, iv p2, iv 3, iv 1, iv 2, rv b565, u_, u_, u_, u_, u_] [(.ref sl621), .null, (.ref b565)]) st621 ?_
      obtain ⟨sl635, T635, h635, kk635, X635, e635, E635, hS, hk635, hZ, hown, st635⟩ := ldcS (s := s) X621 hx hZ hown (own_h hw 110 rfl) (own_wS hw) e621 hS hk621 (g := (mkF m 58 #[iv p1, iv p2, iv 3, iv 1, iv 2, rv b565, u_, u_, u_, u_, u_] [(.ref sl621), .null, (.ref b565)])) rfl (hb hby at_58) (n := 4) (by decide) (by decide) (by decide) (by decide)
      have f636 := Sta.ext E635 f622
      have f637 := Sta.ext E635 f623
      have f638 := Exa.ext E635 f624
      have f639 := Fld.ext E635 f625
      have f640 := f626.ext E635
      have f641 := Exa.ext E635 f627
      have f642 := f628.ext E635
      have f643 := Fld.ext E635 f629
      have f644 := Fld.ext E635 f630
      have f645 := Fld.ext E635 f631
      have f646 := Exa.ext E635 f632
      have f647 := Fld.ext E635 f633
      have f648 := Fld.ext E635 f634
      have K635 : Keep h0 h635 [] := K621.ext E635
      have Z635 := Nat.le_trans Z621 E635.1
      refine own_s T635 (mkF m 60 #[iv p1, iv p2, iv 3, iv 1, iv 2, rv b565, u_, u_, u_, u_, u_] [(.ref sl635), (.ref sl621), .null, (.ref b565)]) st635 ?_
      refine own_s T635 (mkF m 62 #[iv p1, iv p2, iv 3, iv 1, iv 2, rv b565, u_, u_, u_, u_, u_] [(.int 0), .null, (.ref sl635), (.ref sl621), .null, (.ref b565)]) (fun _ k => XS.aconstNull X635.here hx rfl (hb hby at_60) (XS.iconst X635.here hx rfl (hb hby at_61) k)) ?_
      obtain ⟨T649, h649, k649, X649, e649, E649, A649, O649, st649⟩ := newR X635 hx hZ hown (own_h hw 26 rfl) (own_h hw 11 rfl) e635 (g := (mkF m 62 #[iv p1, iv p2, iv 3, iv 1, iv 2, rv b565, u_, u_, u_, u_, u_] [(.int 0), .null, (.ref sl635), (.ref sl621), .null, (.ref b565)])) rfl (hb hby at_62) rfl (by decide) (cap := 0) (by decide) (by decide) (by decide) (by decide)
      obtain ⟨b649, g649⟩ : ∃ z, z = h635.size := ⟨_, rfl⟩
      have ne_oN_b649 : oN ≠ b649 := Nat.ne_of_lt (Nat.lt_of_lt_of_le f638.lt (Nat.le_of_eq g649.symm))
      have ne_oE_b649 : oE ≠ b649 := Nat.ne_of_lt (Nat.lt_of_lt_of_le f640.lt (Nat.le_of_eq g649.symm))
      have ne_b565_b649 : b565 ≠ b649 := Nat.ne_of_lt (Nat.lt_of_lt_of_le f641.lt (Nat.le_of_eq g649.symm))
      have ne_b603_b649 : b603 ≠ b649 := Nat.ne_of_lt (Nat.lt_of_lt_of_le f642.lt (Nat.le_of_eq g649.symm))
      have ne_zx613_b649 : zx613 ≠ b649 := Nat.ne_of_lt (Nat.lt_of_lt_of_le f646.lt (Nat.le_of_eq g649.symm))
      have g_b649 : n0 ≤ b649 := Nat.le_trans Z635 (Nat.le_of_eq g649.symm)
      have sz_b649 : h0.size ≤ b649 := Nat.le_trans K635.1 (Nat.le_of_eq g649.symm)
      rw [← g649] at A649 st649
      have f650 := Sta.ext E649 f636
      have f651 := Sta.ext E649 f637
      have f652 := Exa.ext E649 f638
      have f653 := Fld.ext E649 f639
      have f654 := f640.ext E649
      have f655 := Exa.ext E649 f641
      have f656 := f642.ext E649
      have f657 := Fld.ext E649 f643
      have f658 := Fld.ext E649 f644
      have f659 := Fld.ext E649 f645
      have f660 := Exa.ext E649 f646
      have f661 := Fld.ext E649 f647
      have f662 := Fld.ext E649 f648
      have K649 : Keep h0 h649 [] := K635.ext E649
      have Z649 := Nat.le_trans Z635 E649.1
      have hk649 := Nat.le_trans hk635 E649.1
      have f649 : Arv Z h649 b649 k649 (.object "java/lang/String") 0 [] .null := (Arv.new A649 (by decide)).pad (pad_rep [] .null 0)
      refine own_s T649 (mkF m 65 #[iv p1, iv p2, iv 3, iv 1, iv 2, rv b565, u_, u_, u_, u_, u_] [(.ref b649), .null, (.ref sl635), (.ref sl621), .null, (.ref b565)]) st649 ?_
      refine own_s T649 (mkF m 66 #[iv p1, iv p2, iv 3, iv 1, iv 2, rv b565, u_, u_, u_, u_, u_] [.null, (.ref b649), .null, (.ref sl635), (.ref sl621), .null, (.ref b565)]) (fun _ k => XS.aconstNull X649.here hx rfl (hb hby at_65) k) ?_
      obtain ⟨v663, T663, L663, X663, hQ663, st663⟩ := own_callV X649 hx hZ (y := own_y17) (z := own_y17) (W := 0) (a := b565) hown (own_h hw 27 rfl) (own_h hw 28 rfl) (notFace_of_selects (args := #[]) (mvT hZ (own_h hw 30 rfl))) (own_h hw 30 rfl) (own_h hw 29 rfl) (own_h hw 3 rfl) (own_h hw 31 rfl) (by decide) (own_rmst1_1 l Z a0 hw [] b565 sl621 sl635 b649 zx613 zx613 oN oA k649 .null h649 n0 Z649 g_b565 f655 f657 f658 f659 f650 f651 f649 ne_b565_b649 g_zx613 f660 f661 f662 ne_b565_zx613 ne_zx613_b649 rfl) (by decide) (by decide) f655 (g := (mkF m 66 #[iv p1, iv p2, iv 3, iv 1, iv 2, rv b565, u_, u_, u_, u_, u_] [.null, (.ref b649), .null, (.ref sl635), (.ref sl621), .null, (.ref b565)])) rfl (by rw [hml]; rfl) (argsL := [.null, (.ref sl621), (.ref sl635), .null, (.ref b649), .null]) (rest := []) rfl (lenOf own_pd12 rfl) rfl (by show 2 * 0 + _ ≤ _; exact Nat.le_of_eq rfl) (hb hby at_66) e649 (by decide) (by decide)
      obtain ⟨zx663, zli663, zd663, zkd663, rfl, Nq663, Kq663, g_zx663, sq_zx663, g_zli663, sq_zli663, g_zd663, sq_zd663, q663_0, q663_1, q663_2, q663_3, q663_4, q663_5, q663_6, q663_7, q663_8, q663_9, q663_10, q663_11, q663_12, q663_13, q663_14, q663_15, q663_16, q663_17, q663_18⟩ := hQ663
      have N663 := Fr.app N613 Nq663
      have ne_oN_zx663 : oN ≠ zx663 := Nat.ne_of_lt (Nat.lt_of_lt_of_le f652.lt sq_zx663)
      have ne_oN_zli663 : oN ≠ zli663 := Nat.ne_of_lt (Nat.lt_of_lt_of_le f652.lt sq_zli663)
      have ne_oN_zd663 : oN ≠ zd663 := Nat.ne_of_lt (Nat.lt_of_lt_of_le f652.lt sq_zd663)
      have ne_oE_zx663 : oE ≠ zx663 := Nat.ne_of_lt (Nat.lt_of_lt_of_le f654.lt sq_zx663)
      have ne_oE_zli663 : oE ≠ zli663 := Nat.ne_of_lt (Nat.lt_of_lt_of_le f654.lt sq_zli663)
      have ne_oE_zd663 : oE ≠ zd663 := Nat.ne_of_lt (Nat.lt_of_lt_of_le f654.lt sq_zd663)
      have ne_b565_zx663 : b565 ≠ zx663 := Nat.ne_of_lt (Nat.lt_of_lt_of_le f655.lt sq_zx663)
      have ne_b565_zli663 : b565 ≠ zli663 := Nat.ne_of_lt (Nat.lt_of_lt_of_le f655.lt sq_zli663)
      have ne_b565_zd663 : b565 ≠ zd663 := Nat.ne_of_lt (Nat.lt_of_lt_of_le f655.lt sq_zd663)
      have ne_b603_zx663 : b603 ≠ zx663 := Nat.ne_of_lt (Nat.lt_of_lt_of_le f656.lt sq_zx663)
      have ne_b603_zli663 : b603 ≠ zli663 := Nat.ne_of_lt (Nat.lt_of_lt_of_le f656.lt sq_zli663)
      have ne_b603_zd663 : b603 ≠ zd663 := Nat.ne_of_lt (Nat.lt_of_lt_of_le f656.lt sq_zd663)
      have ne_zx613_zx663 : zx613 ≠ zx663 := Nat.ne_of_lt (Nat.lt_of_lt_of_le f660.lt sq_zx663)
      have ne_zx613_zli663 : zx613 ≠ zli663 := Nat.ne_of_lt (Nat.lt_of_lt_of_le f660.lt sq_zli663)
      have ne_zx613_zd663 : zx613 ≠ zd663 := Nat.ne_of_lt (Nat.lt_of_lt_of_le f660.lt sq_zd663)
      have ne_b649_zx663 : b649 ≠ zx663 := Nat.ne_of_lt (Nat.lt_of_lt_of_le f649.lt sq_zx663)
      have ne_b649_zli663 : b649 ≠ zli663 := Nat.ne_of_lt (Nat.lt_of_lt_of_le f649.lt sq_zli663)
      have ne_b649_zd663 : b649 ≠ zd663 := Nat.ne_of_lt (Nat.lt_of_lt_of_le f649.lt sq_zd663)
      have sz_zx663 : h0.size ≤ zx663 := Nat.le_trans K649.1 sq_zx663
      have sz_zli663 : h0.size ≤ zli663 := Nat.le_trans K649.1 sq_zli663
      have sz_zd663 : h0.size ≤ zd663 := Nat.le_trans K649.1 sq_zd663
      have f664 := own_staKeepW f650 Kq663 (allS f655.nostat (allS f660.nostat all0))
      have f665 := own_staKeepW f651 Kq663 (allS f655.nostat (allS f660.nostat all0))
      have f666 := f652.keep Kq663
      have f667 := f653.keep Kq663 (ninS ne_oN_b565 (ninS ne_oN_zx613 nin0))
      have f668 := f654.keep Kq663 (ninS ne_oE_b565 (ninS ne_oE_zx613 nin0))
      have f669 := f655.keep Kq663
      have f670 := f656.keep Kq663 (ninS (Ne.symm ne_b565_b603) (ninS ne_b603_zx613 nin0))
      have f671 := f660.keep Kq663
      have f672 := f649.keep Kq663 (ninS (Ne.symm ne_b565_b649) (ninS (Ne.symm ne_zx613_b649) nin0))
      have K663 : Keep h0 T663.heap [] := K649.trans Kq663 (allS (Or.inr sz_b565) (allS (Or.inr sz_zx613) all0))
      have Z663 := Nat.le_trans Z649 Kq663.1
      have hk663 := Nat.le_trans hk649 Kq663.1
      refine own_s T663 (mkF m 69 #[iv p1, iv p2, iv 3, iv 1, iv 2, rv b565, u_, u_, u_, u_, u_] []) st663 ?_
      refine own_s T663 (mkF m 77 #[iv p1, iv p2, iv 3, iv 1, iv 2, rv b565, u_, u_, u_, u_, u_] [.null, (.ref b565)]) (fun _ k => XS.iloadN X663.here hx rfl (hb hby at_69) rfl  (XS.iconst X663.here hx rfl (hb hby at_70) (XS.icmpNo X663.here hx rfl (hb hby at_71) rfl (flt (by decide : ¬ ((3 : Int32) < (3 : Int32)))).1 (XS.aload X663.here hx rfl (hb hby at_74) rfl rfl (XS.aconstNull X663.here hx rfl (hb hby at_76) k))))) ?_
      obtain ⟨sl673, T673, h673, kk673, X673, e673, E673, hS, hk673, hZ, hown, st673⟩ := ldcS (s := s) X663 hx hZ hown (own_h hw 165 rfl) (own_wS hw) rfl hS hk663 (g := (mkF m 77 #[iv p1, iv p2, iv 3, iv 1, iv 2, rv b565, u_, u_, u_, u_, u_] [.null, (.ref b565)])) rfl (hb hby at_77) (n := 4) (by decide) (by decide) (by decide) (by decide)
      have f674 := Sta.ext E673 f664
      have f675 := Sta.ext E673 f665
      have f676 := Exa.ext E673 f666
      have f677 := Fld.ext E673 f667
      have f678 := f668.ext E673
      have f679 := Exa.ext E673 q663_0
      have f680 := f670.ext E673
      have f681 := Exa.ext E673 q663_7
      have f682 := f672.ext E673
      have f683 := Fld.ext E673 q663_1
      have f684 := Fld.ext E673 q663_2
      have f685 := Fld.ext E673 q663_3
      have f686 := Exa.ext E673 q663_4
      have f687 := Fld.ext E673 q663_5
      have f688 := Fld.ext E673 q663_6
      have f689 := Fld.ext E673 q663_8
      have f690 := Fld.ext E673 q663_9
      have f691 := Exa.ext E673 q663_10
      have f692 := Fld.ext E673 q663_11
      have f693 := Fld.ext E673 q663_12
      have f694 := Fld.ext E673 q663_13
      have f695 := q663_14.ext E673
      have K673 : Keep h0 h673 [] := K663.ext E673
      have Z673 := Nat.le_trans Z663 E673.1
      refine own_s T673 (mkF m 79 #[iv p1, iv p2, iv 3, iv 1, iv 2, rv b565, u_, u_, u_, u_, u_] [(.ref sl673), .null, (.ref b565)]) st673 ?_
      obtain ⟨sl696, T696, h696, kk696, X696, e696, E696, hS, hk696, hZ, hown, st696⟩ := ldcS (s := s) X673 hx hZ hown (own_h hw 165 rfl) (own_wS hw) e673 hS hk673 (g := (mkF m 79 #[iv p1, iv p2, iv 3, iv 1, iv 2, rv b565, u_, u_, u_, u_, u_] [(.ref sl673), .null, (.ref b565)])) rfl (hb hby at_79) (n := 4) (by decide) (by decide) (by decide) (by decide)
      have f697 := Sta.ext E696 f674
      have f698 := Sta.ext E696 f675
      have f699 := Exa.ext E696 f676
      have f700 := Fld.ext E696 f677
      have f701 := f678.ext E696
      have f702 := Exa.ext E696 f679
      have f703 := f680.ext E696
      have f704 := Exa.ext E696 f681
      have f705 := f682.ext E696
      have f706 := Fld.ext E696 f683
      have f707 := Fld.ext E696 f684
      have f708 := Fld.ext E696 f685
      have f709 := Exa.ext E696 f686
      have f710 := Fld.ext E696 f687
      have f711 := Fld.ext E696 f688
      have f712 := Fld.ext E696 f689
      have f713 := Fld.ext E696 f690
      have f714 := Exa.ext E696 f691
      have f715 := Fld.ext E696 f692
      have f716 := Fld.ext E696 f693
      have f717 := Fld.ext E696 f694
      have f718 := f695.ext E696
      have K696 : Keep h0 h696 [] := K673.ext E696
      have Z696 := Nat.le_trans Z673 E696.1
      refine own_s T696 (mkF m 81 #[iv p1, iv p2, iv 3, iv 1, iv 2, rv b565, u_, u_, u_, u_, u_] [(.ref sl696), (.ref sl673), .null, (.ref b565)]) st696 ?_
      refine own_s T696 (mkF m 83 #[iv p1, iv p2, iv 3, iv 1, iv 2, rv b565, u_, u_, u_, u_, u_] [(.int 0), .null, (.ref sl696), (.ref sl673), .null, (.ref b565)]) (fun _ k => XS.aconstNull X696.here hx rfl (hb hby at_81) (XS.iconst X696.here hx rfl (hb hby at_82) k)) ?_
      obtain ⟨T719, h719, k719, X719, e719, E719, A719, O719, st719⟩ := newR X696 hx hZ hown (own_h hw 26 rfl) (own_h hw 11 rfl) e696 (g := (mkF m 83 #[iv p1, iv p2, iv 3, iv 1, iv 2, rv b565, u_, u_, u_, u_, u_] [(.int 0), .null, (.ref sl696), (.ref sl673), .null, (.ref b565)])) rfl (hb hby at_83) rfl (by decide) (cap := 0) (by decide) (by decide) (by decide) (by decide)
      obtain ⟨b719, g719⟩ : ∃ z, z = h696.size := ⟨_, rfl⟩
      have ne_oN_b719 : oN ≠ b719 := Nat.ne_of_lt (Nat.lt_of_lt_of_le f699.lt (Nat.le_of_eq g719.symm))
      have ne_oE_b719 : oE ≠ b719 := Nat.ne_of_lt (Nat.lt_of_lt_of_le f701.lt (Nat.le_of_eq g719.symm))
      have ne_b565_b719 : b565 ≠ b719 := Nat.ne_of_lt (Nat.lt_of_lt_of_le f702.lt (Nat.le_of_eq g719.symm))
      have ne_b603_b719 : b603 ≠ b719 := Nat.ne_of_lt (Nat.lt_of_lt_of_le f703.lt (Nat.le_of_eq g719.symm))
      have ne_zx613_b719 : zx613 ≠ b719 := Nat.ne_of_lt (Nat.lt_of_lt_of_le f704.lt (Nat.le_of_eq g719.symm))
      have ne_b649_b719 : b649 ≠ b719 := Nat.ne_of_lt (Nat.lt_of_lt_of_le f705.lt (Nat.le_of_eq g719.symm))
      have ne_zx663_b719 : zx663 ≠ b719 := Nat.ne_of_lt (Nat.lt_of_lt_of_le f709.lt (Nat.le_of_eq g719.symm))
      have ne_zli663_b719 : zli663 ≠ b719 := Nat.ne_of_lt (Nat.lt_of_lt_of_le f714.lt (Nat.le_of_eq g719.symm))
      have ne_zd663_b719 : zd663 ≠ b719 := Nat.ne_of_lt (Nat.lt_of_lt_of_le f718.lt (Nat.le_of_eq g719.symm))
      have g_b719 : n0 ≤ b719 := Nat.le_trans Z696 (Nat.le_of_eq g719.symm)
      have sz_b719 : h0.size ≤ b719 := Nat.le_trans K696.1 (Nat.le_of_eq g719.symm)
      rw [← g719] at A719 st719
      have f720 := Sta.ext E719 f697
      have f721 := Sta.ext E719 f698
      have f722 := Exa.ext E719 f699
      have f723 := Fld.ext E719 f700
      have f724 := f701.ext E719
      have f725 := Exa.ext E719 f702
      have f726 := f703.ext E719
      have f727 := Exa.ext E719 f704
      have f728 := f705.ext E719
      have f729 := Fld.ext E719 f706
      have f730 := Fld.ext E719 f707
      have f731 := Fld.ext E719 f708
      have f732 := Exa.ext E719 f709
      have f733 := Fld.ext E719 f710
      have f734 := Fld.ext E719 f711
      have f735 := Fld.ext E719 f712
      have f736 := Fld.ext E719 f713
      have f737 := Exa.ext E719 f714
      have f738 := Fld.ext E719 f715
      have f739 := Fld.ext E719 f716
      have f740 := Fld.ext E719 f717
      have f741 := f718.ext E719
      have K719 : Keep h0 h719 [] := K696.ext E719
      have Z719 := Nat.le_trans Z696 E719.1
      have hk719 := Nat.le_trans hk696 E719.1
      have f719 : Arv Z h719 b719 k719 (.object "java/lang/String") 0 [] .null := (Arv.new A719 (by decide)).pad (pad_rep [] .null 0)
      refine own_s T719 (mkF m 86 #[iv p1, iv p2, iv 3, iv 1, iv 2, rv b565, u_, u_, u_, u_, u_] [(.ref b719), .null, (.ref sl696), (.ref sl673), .null, (.ref b565)]) st719 ?_
      refine own_s T719 (mkF m 87 #[iv p1, iv p2, iv 3, iv 1, iv 2, rv b565, u_, u_, u_, u_, u_] [.null, (.ref b719), .null, (.ref sl696), (.ref sl673), .null, (.ref b565)]) (fun _ k => XS.aconstNull X719.here hx rfl (hb hby at_86) k) ?_
      obtain ⟨v742, T742, L742, X742, hQ742, st742⟩ := own_callV X719 hx hZ (y := own_y17) (z := own_y17) (W := 0) (a := b565) hown (own_h hw 27 rfl) (own_h hw 28 rfl) (notFace_of_selects (args := #[]) (mvT hZ (own_h hw 30 rfl))) (own_h hw 30 rfl) (own_h hw 29 rfl) (own_h hw 3 rfl) (own_h hw 31 rfl) (by decide) (own_rmst1_2 l Z a0 hw [] b565 sl673 sl696 b719 zx663 zx613 oN oA k719 (.ref zx613) h719 n0 Z719 g_b565 f725 f729 f730 f731 f720 f721 f719 ne_b565_b719 g_zx663 f732 f733 f734 ne_b565_zx663 ne_zx663_b719 rfl) (by decide) (by decide) f725 (g := (mkF m 87 #[iv p1, iv p2, iv 3, iv 1, iv 2, rv b565, u_, u_, u_, u_, u_] [.null, (.ref b719), .null, (.ref sl696), (.ref sl673), .null, (.ref b565)])) rfl (by rw [hml]; rfl) (argsL := [.null, (.ref sl673), (.ref sl696), .null, (.ref b719), .null]) (rest := []) rfl (lenOf own_pd12 rfl) rfl (by show 2 * 0 + _ ≤ _; exact Nat.le_of_eq rfl) (hb hby at_87) e719 (by decide) (by decide)
      obtain ⟨zx742, zli742, zd742, zkd742, rfl, Nq742, Kq742, g_zx742, sq_zx742, g_zli742, sq_zli742, g_zd742, sq_zd742, q742_0, q742_1, q742_2, q742_3, q742_4, q742_5, q742_6, q742_7, q742_8, q742_9, q742_10, q742_11, q742_12, q742_13, q742_14, q742_15, q742_16, q742_17, q742_18⟩ := hQ742
      have N742 := Fr.app N663 Nq742
      have ne_oN_zx742 : oN ≠ zx742 := Nat.ne_of_lt (Nat.lt_of_lt_of_le f722.lt sq_zx742)
      have ne_oN_zli742 : oN ≠ zli742 := Nat.ne_of_lt (Nat.lt_of_lt_of_le f722.lt sq_zli742)
      have ne_oN_zd742 : oN ≠ zd742 := Nat.ne_of_lt (Nat.lt_of_lt_of_le f722.lt sq_zd742)
      have ne_oE_zx742 : oE ≠ zx742 := Nat.ne_of_lt (Nat.lt_of_lt_of_le f724.lt sq_zx742)
      have ne_oE_zli742 : oE ≠ zli742 := Nat.ne_of_lt (Nat.lt_of_lt_of_le f724.lt sq_zli742)
      have ne_oE_zd742 : oE ≠ zd742 := Nat.ne_of_lt (Nat.lt_of_lt_of_le f724.lt sq_zd742)
      have ne_b565_zx742 : b565 ≠ zx742 := Nat.ne_of_lt (Nat.lt_of_lt_of_le f725.lt sq_zx742)
      have ne_b565_zli742 : b565 ≠ zli742 := Nat.ne_of_lt (Nat.lt_of_lt_of_le f725.lt sq_zli742)
      have ne_b565_zd742 : b565 ≠ zd742 := Nat.ne_of_lt (Nat.lt_of_lt_of_le f725.lt sq_zd742)
      have ne_b603_zx742 : b603 ≠ zx742 := Nat.ne_of_lt (Nat.lt_of_lt_of_le f726.lt sq_zx742)
      have ne_b603_zli742 : b603 ≠ zli742 := Nat.ne_of_lt (Nat.lt_of_lt_of_le f726.lt sq_zli742)
      have ne_b603_zd742 : b603 ≠ zd742 := Nat.ne_of_lt (Nat.lt_of_lt_of_le f726.lt sq_zd742)
      have ne_zx613_zx742 : zx613 ≠ zx742 := Nat.ne_of_lt (Nat.lt_of_lt_of_le f727.lt sq_zx742)
      have ne_zx613_zli742 : zx613 ≠ zli742 := Nat.ne_of_lt (Nat.lt_of_lt_of_le f727.lt sq_zli742)
      have ne_zx613_zd742 : zx613 ≠ zd742 := Nat.ne_of_lt (Nat.lt_of_lt_of_le f727.lt sq_zd742)
      have ne_b649_zx742 : b649 ≠ zx742 := Nat.ne_of_lt (Nat.lt_of_lt_of_le f728.lt sq_zx742)
      have ne_b649_zli742 : b649 ≠ zli742 := Nat.ne_of_lt (Nat.lt_of_lt_of_le f728.lt sq_zli742)
      have ne_b649_zd742 : b649 ≠ zd742 := Nat.ne_of_lt (Nat.lt_of_lt_of_le f728.lt sq_zd742)
      have ne_zx663_zx742 : zx663 ≠ zx742 := Nat.ne_of_lt (Nat.lt_of_lt_of_le f732.lt sq_zx742)
      have ne_zx663_zli742 : zx663 ≠ zli742 := Nat.ne_of_lt (Nat.lt_of_lt_of_le f732.lt sq_zli742)
      have ne_zx663_zd742 : zx663 ≠ zd742 := Nat.ne_of_lt (Nat.lt_of_lt_of_le f732.lt sq_zd742)
      have ne_zli663_zx742 : zli663 ≠ zx742 := Nat.ne_of_lt (Nat.lt_of_lt_of_le f737.lt sq_zx742)
      have ne_zli663_zli742 : zli663 ≠ zli742 := Nat.ne_of_lt (Nat.lt_of_lt_of_le f737.lt sq_zli742)
      have ne_zli663_zd742 : zli663 ≠ zd742 := Nat.ne_of_lt (Nat.lt_of_lt_of_le f737.lt sq_zd742)
      have ne_zd663_zx742 : zd663 ≠ zx742 := Nat.ne_of_lt (Nat.lt_of_lt_of_le f741.lt sq_zx742)
      have ne_zd663_zli742 : zd663 ≠ zli742 := Nat.ne_of_lt (Nat.lt_of_lt_of_le f741.lt sq_zli742)
      have ne_zd663_zd742 : zd663 ≠ zd742 := Nat.ne_of_lt (Nat.lt_of_lt_of_le f741.lt sq_zd742)
      have ne_b719_zx742 : b719 ≠ zx742 := Nat.ne_of_lt (Nat.lt_of_lt_of_le f719.lt sq_zx742)
      have ne_b719_zli742 : b719 ≠ zli742 := Nat.ne_of_lt (Nat.lt_of_lt_of_le f719.lt sq_zli742)
      have ne_b719_zd742 : b719 ≠ zd742 := Nat.ne_of_lt (Nat.lt_of_lt_of_le f719.lt sq_zd742)
      have sz_zx742 : h0.size ≤ zx742 := Nat.le_trans K719.1 sq_zx742
      have sz_zli742 : h0.size ≤ zli742 := Nat.le_trans K719.1 sq_zli742
      have sz_zd742 : h0.size ≤ zd742 := Nat.le_trans K719.1 sq_zd742
      have f743 := own_staKeepW f720 Kq742 (allS f725.nostat (allS f732.nostat all0))
      have f744 := own_staKeepW f721 Kq742 (allS f725.nostat (allS f732.nostat all0))
      have f745 := f722.keep Kq742
      have f746 := f723.keep Kq742 (ninS ne_oN_b565 (ninS ne_oN_zx663 nin0))
      have f747 := f724.keep Kq742 (ninS ne_oE_b565 (ninS ne_oE_zx663 nin0))
      have f748 := f725.keep Kq742
      have f749 := f726.keep Kq742 (ninS (Ne.symm ne_b565_b603) (ninS ne_b603_zx663 nin0))
      have f750 := f727.keep Kq742
      have f751 := f728.keep Kq742 (ninS (Ne.symm ne_b565_b649) (ninS ne_b649_zx663 nin0))
      have f752 := f732.keep Kq742
      have f753 := f735.keep Kq742 (ninS (Ne.symm ne_b565_zx613) (ninS ne_zx613_zx663 nin0))
      have f754 := f736.keep Kq742 (ninS (Ne.symm ne_b565_zx613) (ninS ne_zx613_zx663 nin0))
      have f755 := f737.keep Kq742
      have f756 := f738.keep Kq742 (ninS (Ne.symm ne_b565_zli663) (ninS (Ne.symm q663_17) nin0))
      have f757 := f739.keep Kq742 (ninS (Ne.symm ne_b565_zli663) (ninS (Ne.symm q663_17) nin0))
      have f758 := f740.keep Kq742 (ninS (Ne.symm ne_b565_zli663) (ninS (Ne.symm q663_17) nin0))
      have f759 := f741.keep Kq742 (ninS (Ne.symm ne_b565_zd663) (ninS (Ne.symm q663_18) nin0))
      have f760 := f719.keep Kq742 (ninS (Ne.symm ne_b565_b719) (ninS (Ne.symm ne_zx663_b719) nin0))
      have K742 : Keep h0 T742.heap [] := K719.trans Kq742 (allS (Or.inr sz_b565) (allS (Or.inr sz_zx663) all0))
      have Z742 := Nat.le_trans Z719 Kq742.1
      have hk742 := Nat.le_trans hk719 Kq742.1
      refine own_s T742 (mkF m 90 #[iv p1, iv p2, iv 3, iv 1, iv 2, rv b565, u_, u_, u_, u_, u_] []) st742 ?_
      refine own_s T742 (mkF m 92 #[iv p1, iv p2, iv 3, iv 1, iv 2, rv b565, u_, u_, u_, u_, u_] [(.ref b565)]) (fun _ k => XS.aload X742.here hx rfl (hb hby at_90) rfl rfl k) ?_
      obtain ⟨v761, T761, L761, X761, hQ761, st761⟩ := own_callV X742 hx hZ (y := own_y22) (z := own_y22) (W := 0) (a := b565) hown (own_h hw 72 rfl) (own_h hw 73 rfl) (notFace_of_selects (args := #[]) (mvT hZ (own_h hw 75 rfl))) (own_h hw 75 rfl) (own_h hw 74 rfl) (own_h hw 3 rfl) (own_h hw 76 rfl) (by decide) (own_rmend3 l Z a0 hw [] b565 zx742 zx613 (.ref zx663) T742.heap n0 Z742 g_b565 q742_0 q742_1 q742_2 q742_3 q742_4 q742_6 ne_b565_zx742 rfl) (by decide) (by decide) q742_0 (g := (mkF m 92 #[iv p1, iv p2, iv 3, iv 1, iv 2, rv b565, u_, u_, u_, u_, u_] [(.ref b565)])) rfl (by rw [hml]; rfl) (argsL := []) (rest := []) rfl (lenOf own_pd0 rfl) rfl (by show 2 * 0 + _ ≤ _; exact Nat.le_of_eq rfl) (hb hby at_92) rfl (by decide) (by decide)
      obtain ⟨rfl, Nq761, Kq761, q761_0, q761_1, q761_2, q761_3⟩ := hQ761
      have N761 := Fr.app N742 Nq761
      have f762 := own_staKeepW f743 Kq761 (allS q742_0.nostat all0)
      have f763 := own_staKeepW f744 Kq761 (allS q742_0.nostat all0)
      have f764 := f745.keep Kq761
      have f765 := f746.keep Kq761 (ninS ne_oN_b565 nin0)
      have f766 := f747.keep Kq761 (ninS ne_oE_b565 nin0)
      have f767 := q742_0.keep Kq761
      have f768 := f749.keep Kq761 (ninS (Ne.symm ne_b565_b603) nin0)
      have f769 := f750.keep Kq761
      have f770 := f751.keep Kq761 (ninS (Ne.symm ne_b565_b649) nin0)
      have f771 := q742_7.keep Kq761
      have f772 := f753.keep Kq761 (ninS (Ne.symm ne_b565_zx613) nin0)
      have f773 := f754.keep Kq761 (ninS (Ne.symm ne_b565_zx613) nin0)
      have f774 := f755.keep Kq761
      have f775 := f756.keep Kq761 (ninS (Ne.symm ne_b565_zli663) nin0)
      have f776 := f757.keep Kq761 (ninS (Ne.symm ne_b565_zli663) nin0)
      have f777 := f758.keep Kq761 (ninS (Ne.symm ne_b565_zli663) nin0)
      have f778 := f759.keep Kq761 (ninS (Ne.symm ne_b565_zd663) nin0)
      have f779 := f760.keep Kq761 (ninS (Ne.symm ne_b565_b719) nin0)
      have f780 := q742_4.keep Kq761
      have f781 := q742_5.keep Kq761 (ninS (Ne.symm ne_b565_zx742) nin0)
      have f782 := q742_6.keep Kq761 (ninS (Ne.symm ne_b565_zx742) nin0)
      have f783 := q742_8.keep Kq761 (ninS (Ne.symm ne_b565_zx663) nin0)
      have f784 := q742_9.keep Kq761 (ninS (Ne.symm ne_b565_zx663) nin0)
      have f785 := q742_10.keep Kq761
      have f786 := q742_11.keep Kq761 (ninS (Ne.symm ne_b565_zli742) nin0)
      have f787 := q742_12.keep Kq761 (ninS (Ne.symm ne_b565_zli742) nin0)
      have f788 := q742_13.keep Kq761 (ninS (Ne.symm ne_b565_zli742) nin0)
      have f789 := q742_14.keep Kq761 (ninS (Ne.symm ne_b565_zd742) nin0)
      have K761 : Keep h0 T761.heap [] := K742.trans Kq761 (allS (Or.inr sz_b565) all0)
      have Z761 := Nat.le_trans Z742 Kq761.1
      have hk761 := Nat.le_trans hk742 Kq761.1
      refine own_s T761 (mkF m 95 #[iv p1, iv p2, iv 3, iv 1, iv 2, rv b565, u_, u_, u_, u_, u_] []) st761 ?_
      refine own_s T761 (mkF m 107 #[iv p1, iv p2, iv 3, iv 1, iv 2, rv b565, u_, u_, u_, u_, u_] [(.int 3), (.int 1)]) (fun _ k => XS.iloadN X761.here hx rfl (hb hby at_95) rfl  (XS.iconst X761.here hx rfl (hb hby at_96) (XS.icmpYes X761.here hx rfl (pc0 := 97) (pc' := 105) rfl (hb hby at_97) rfl (tlt (by decide : ((1 : Int32) < (2 : Int32)))).1 (by decide) (by decide) (XS.iloadN X761.here hx rfl (hb hby at_105) rfl  (XS.iconst X761.here hx rfl (hb hby at_106) k))))) ?_
      refine own_s T761 (mkF m 117 #[iv p1, iv p2, iv 3, iv 1, iv 2, rv b565, u_, u_, u_, u_, u_] [(.ref b565)]) (fun _ k => XS.icmpYes X761.here hx rfl (pc0 := 107) (pc' := 115) rfl (hb hby at_107) rfl (tlt (by decide : ((1 : Int32) < (3 : Int32)))).1 (by decide) (by decide) (XS.aload X761.here hx rfl (hb hby at_115) rfl rfl k)) ?_
      obtain ⟨v790, T790, L790, X790, hQ790, st790⟩ := own_callV X761 hx hZ (y := own_y20) (z := own_y20) (W := 0) (a := b565) hown (own_h hw 82 rfl) (own_h hw 83 rfl) (notFace_of_selects (args := #[]) (mvT hZ (own_h hw 85 rfl))) (own_h hw 85 rfl) (own_h hw 84 rfl) (own_h hw 3 rfl) (own_h hw 86 rfl) (by decide) (own_rmgdp l Z a0 hw [] b565 (2 : Int32) T761.heap n0 Z761 q761_3) (by decide) (by decide) q761_0 (g := (mkF m 117 #[iv p1, iv p2, iv 3, iv 1, iv 2, rv b565, u_, u_, u_, u_, u_] [(.ref b565)])) rfl (by rw [hml]; rfl) (argsL := []) (rest := []) rfl (lenOf own_pd7 rfl) rfl (by show 2 * 0 + _ ≤ _; exact Nat.le_of_eq rfl) (hb hby at_117) rfl (by decide) (by decide)
      obtain ⟨rfl, Nq790, e790⟩ := hQ790
      have N790 := Fr.app N761 Nq790
      refine own_s T790 (mkF m 120 #[iv p1, iv p2, iv 3, iv 1, iv 2, rv b565, u_, u_, u_, u_, u_] [(.int 2)]) st790 ?_
      refine own_s T790 (mkF m 132 #[iv p1, iv p2, iv 3, iv 1, iv 2, rv b565, iv 1, u_, u_, u_, u_] []) (fun _ k => XS.iload X790.here hx rfl (hb hby at_120) rfl  (XS.icmpNo X790.here hx rfl (hb hby at_122) rfl (teq (by decide : ((2 : Int32) = (2 : Int32)))).2 (XS.iconst X790.here hx rfl (hb hby at_125) (XS.goto X790.here hx rfl (pc0 := 126) (pc' := 130) rfl (hb hby at_126) (by decide) (by decide) (XS.istore X790.here hx rfl (hb hby at_130) rfl (l' := #[iv p1, iv p2, iv 3, iv 1, iv 2, rv b565, iv 1, u_, u_, u_, u_]) rfl k))))) ?_
      refine own_s T790 (mkF m 140 #[iv p1, iv p2, iv 3, iv 1, iv 2, rv b565, iv 1, u_, u_, u_, u_] [.null, (.ref b565)]) (fun _ k => XS.iload X790.here hx rfl (hb hby at_132) rfl  (XS.ifNo X790.here hx rfl (hb hby at_134) rfl ((if0 _ _).trans (tlt (by decide : ((0 : Int32) < (2 : Int32)))).2.2.2) (XS.aload X790.here hx rfl (hb hby at_137) rfl rfl (XS.aconstNull X790.here hx rfl (hb hby at_139) k)))) ?_
      obtain ⟨sl791, T791, h791, kk791, X791, e791, E791, hS, hk791, hZ, hown, st791⟩ := ldcS (s := s) X790 hx hZ hown (own_h hw 166 rfl) (own_wS hw) e790 hS hk761 (g := (mkF m 140 #[iv p1, iv p2, iv 3, iv 1, iv 2, rv b565, iv 1, u_, u_, u_, u_] [.null, (.ref b565)])) rfl (hb hby at_140) (n := 4) (by decide) (by decide) (by decide) (by decide)
      have f792 := Sta.ext E791 f762
      have f793 := Sta.ext E791 f763
      have f794 := Exa.ext E791 f764
      have f795 := Fld.ext E791 f765
      have f796 := f766.ext E791
      have f797 := Exa.ext E791 q761_0
      have f798 := f768.ext E791
      have f799 := Exa.ext E791 f769
      have f800 := f770.ext E791
      have f801 := Exa.ext E791 f771
      have f802 := Fld.ext E791 f772
      have f803 := Fld.ext E791 f773
      have f804 := Exa.ext E791 f774
      have f805 := Fld.ext E791 f775
      have f806 := Fld.ext E791 f776
      have f807 := Fld.ext E791 f777
      have f808 := f778.ext E791
      have f809 := f779.ext E791
      have f810 := Exa.ext E791 f780
      have f811 := Fld.ext E791 f781
      have f812 := Fld.ext E791 f782
      have f813 := Fld.ext E791 f783
      have f814 := Fld.ext E791 f784
      have f815 := Exa.ext E791 f785
      have f816 := Fld.ext E791 f786
      have f817 := Fld.ext E791 f787
      have f818 := Fld.ext E791 f788
      have f819 := f789.ext E791
      have f820 := Fld.ext E791 q761_1
      have f821 := Fld.ext E791 q761_2
      have f822 := Fld.ext E791 q761_3
      have K791 : Keep h0 h791 [] := K761.ext E791
      have Z791 := Nat.le_trans Z761 E791.1
      refine own_s T791 (mkF m 142 #[iv p1, iv p2, iv 3, iv 1, iv 2, rv b565, iv 1, u_, u_, u_, u_] [(.ref sl791), .null, (.ref b565)]) st791 ?_
      obtain ⟨sl823, T823, h823, kk823, X823, e823, E823, hS, hk823, hZ, hown, st823⟩ := ldcS (s := s) X791 hx hZ hown (own_h hw 166 rfl) (own_wS hw) e791 hS hk791 (g := (mkF m 142 #[iv p1, iv p2, iv 3, iv 1, iv 2, rv b565, iv 1, u_, u_, u_, u_] [(.ref sl791), .null, (.ref b565)])) rfl (hb hby at_142) (n := 4) (by decide) (by decide) (by decide) (by decide)
      have f824 := Sta.ext E823 f792
      have f825 := Sta.ext E823 f793
      have f826 := Exa.ext E823 f794
      have f827 := Fld.ext E823 f795
      have f828 := f796.ext E823
      have f829 := Exa.ext E823 f797
      have f830 := f798.ext E823
      have f831 := Exa.ext E823 f799
      have f832 := f800.ext E823
      have f833 := Exa.ext E823 f801
      have f834 := Fld.ext E823 f802
      have f835 := Fld.ext E823 f803
      have f836 := Exa.ext E823 f804
      have f837 := Fld.ext E823 f805
      have f838 := Fld.ext E823 f806
      have f839 := Fld.ext E823 f807
      have f840 := f808.ext E823
      have f841 := f809.ext E823
      have f842 := Exa.ext E823 f810
      have f843 := Fld.ext E823 f811
      have f844 := Fld.ext E823 f812
      have f845 := Fld.ext E823 f813
      have f846 := Fld.ext E823 f814
      have f847 := Exa.ext E823 f815
      have f848 := Fld.ext E823 f816
      have f849 := Fld.ext E823 f817
      have f850 := Fld.ext E823 f818
      have f851 := f819.ext E823
      have f852 := Fld.ext E823 f820
      have f853 := Fld.ext E823 f821
      have f854 := Fld.ext E823 f822
      have K823 : Keep h0 h823 [] := K791.ext E823
      have Z823 := Nat.le_trans Z791 E823.1
      refine own_s T823 (mkF m 144 #[iv p1, iv p2, iv 3, iv 1, iv 2, rv b565, iv 1, u_, u_, u_, u_] [(.ref sl823), (.ref sl791), .null, (.ref b565)]) st823 ?_
      refine own_s T823 (mkF m 146 #[iv p1, iv p2, iv 3, iv 1, iv 2, rv b565, iv 1, u_, u_, u_, u_] [(.int 0), .null, (.ref sl823), (.ref sl791), .null, (.ref b565)]) (fun _ k => XS.aconstNull X823.here hx rfl (hb hby at_144) (XS.iconst X823.here hx rfl (hb hby at_145) k)) ?_
      obtain ⟨T855, h855, k855, X855, e855, E855, A855, O855, st855⟩ := newR X823 hx hZ hown (own_h hw 26 rfl) (own_h hw 11 rfl) e823 (g := (mkF m 146 #[iv p1, iv p2, iv 3, iv 1, iv 2, rv b565, iv 1, u_, u_, u_, u_] [(.int 0), .null, (.ref sl823), (.ref sl791), .null, (.ref b565)])) rfl (hb hby at_146) rfl (by decide) (cap := 0) (by decide) (by decide) (by decide) (by decide)
      obtain ⟨b855, g855⟩ : ∃ z, z = h823.size := ⟨_, rfl⟩
      have ne_oN_b855 : oN ≠ b855 := Nat.ne_of_lt (Nat.lt_of_lt_of_le f826.lt (Nat.le_of_eq g855.symm))
      have ne_oE_b855 : oE ≠ b855 := Nat.ne_of_lt (Nat.lt_of_lt_of_le f828.lt (Nat.le_of_eq g855.symm))
      have ne_b565_b855 : b565 ≠ b855 := Nat.ne_of_lt (Nat.lt_of_lt_of_le f829.lt (Nat.le_of_eq g855.symm))
      have ne_b603_b855 : b603 ≠ b855 := Nat.ne_of_lt (Nat.lt_of_lt_of_le f830.lt (Nat.le_of_eq g855.symm))
      have ne_zx613_b855 : zx613 ≠ b855 := Nat.ne_of_lt (Nat.lt_of_lt_of_le f831.lt (Nat.le_of_eq g855.symm))
      have ne_b649_b855 : b649 ≠ b855 := Nat.ne_of_lt (Nat.lt_of_lt_of_le f832.lt (Nat.le_of_eq g855.symm))
      have ne_zx663_b855 : zx663 ≠ b855 := Nat.ne_of_lt (Nat.lt_of_lt_of_le f833.lt (Nat.le_of_eq g855.symm))
      have ne_zli663_b855 : zli663 ≠ b855 := Nat.ne_of_lt (Nat.lt_of_lt_of_le f836.lt (Nat.le_of_eq g855.symm))
      have ne_zd663_b855 : zd663 ≠ b855 := Nat.ne_of_lt (Nat.lt_of_lt_of_le f840.lt (Nat.le_of_eq g855.symm))
      have ne_b719_b855 : b719 ≠ b855 := Nat.ne_of_lt (Nat.lt_of_lt_of_le f841.lt (Nat.le_of_eq g855.symm))
      have ne_zx742_b855 : zx742 ≠ b855 := Nat.ne_of_lt (Nat.lt_of_lt_of_le f842.lt (Nat.le_of_eq g855.symm))
      have ne_zli742_b855 : zli742 ≠ b855 := Nat.ne_of_lt (Nat.lt_of_lt_of_le f847.lt (Nat.le_of_eq g855.symm))
      have ne_zd742_b855 : zd742 ≠ b855 := Nat.ne_of_lt (Nat.lt_of_lt_of_le f851.lt (Nat.le_of_eq g855.symm))
      have g_b855 : n0 ≤ b855 := Nat.le_trans Z823 (Nat.le_of_eq g855.symm)
      have sz_b855 : h0.size ≤ b855 := Nat.le_trans K823.1 (Nat.le_of_eq g855.symm)
      rw [← g855] at A855 st855
      have f856 := Sta.ext E855 f824
      have f857 := Sta.ext E855 f825
      have f858 := Exa.ext E855 f826
      have f859 := Fld.ext E855 f827
      have f860 := f828.ext E855
      have f861 := Exa.ext E855 f829
      have f862 := f830.ext E855
      have f863 := Exa.ext E855 f831
      have f864 := f832.ext E855
      have f865 := Exa.ext E855 f833
      have f866 := Fld.ext E855 f834
      have f867 := Fld.ext E855 f835
      have f868 := Exa.ext E855 f836
      have f869 := Fld.ext E855 f837
      have f870 := Fld.ext E855 f838
      have f871 := Fld.ext E855 f839
      have f872 := f840.ext E855
      have f873 := f841.ext E855
      have f874 := Exa.ext E855 f842
      have f875 := Fld.ext E855 f843
      have f876 := Fld.ext E855 f844
      have f877 := Fld.ext E855 f845
      have f878 := Fld.ext E855 f846
      have f879 := Exa.ext E855 f847
      have f880 := Fld.ext E855 f848
      have f881 := Fld.ext E855 f849
      have f882 := Fld.ext E855 f850
      have f883 := f851.ext E855
      have f884 := Fld.ext E855 f852
      have f885 := Fld.ext E855 f853
      have f886 := Fld.ext E855 f854
      have K855 : Keep h0 h855 [] := K823.ext E855
      have Z855 := Nat.le_trans Z823 E855.1
      have hk855 := Nat.le_trans hk823 E855.1
      have f855 : Arv Z h855 b855 k855 (.object "java/lang/String") 0 [] .null := (Arv.new A855 (by decide)).pad (pad_rep [] .null 0)
      refine own_s T855 (mkF m 149 #[iv p1, iv p2, iv 3, iv 1, iv 2, rv b565, iv 1, u_, u_, u_, u_] [(.ref b855), .null, (.ref sl823), (.ref sl791), .null, (.ref b565)]) st855 ?_
      refine own_s T855 (mkF m 150 #[iv p1, iv p2, iv 3, iv 1, iv 2, rv b565, iv 1, u_, u_, u_, u_] [.null, (.ref b855), .null, (.ref sl823), (.ref sl791), .null, (.ref b565)]) (fun _ k => XS.aconstNull X855.here hx rfl (hb hby at_149) k) ?_
      obtain ⟨v887, T887, L887, X887, hQ887, st887⟩ := own_callV X855 hx hZ (y := own_y17) (z := own_y17) (W := 0) (a := b565) hown (own_h hw 27 rfl) (own_h hw 28 rfl) (notFace_of_selects (args := #[]) (mvT hZ (own_h hw 30 rfl))) (own_h hw 30 rfl) (own_h hw 29 rfl) (own_h hw 3 rfl) (own_h hw 31 rfl) (by decide) (own_rmst2_2 l Z a0 hw [] b565 sl791 sl823 b855 zx663 zx613 oN oA k855 zli742 zd742 zkd742 zx742 h855 n0 Z855 g_b565 f861 f884 f885 f886 f856 f857 f855 ne_b565_b855 g_zli742 g_zd742 f865 f877 f879 f880 f881 f882 f883 q742_15 q742_16 (Ne.symm ne_oN_zli742) ne_zx663_zli742 ne_zx663_zd742 ne_b565_zx663 ne_b565_zli742 ne_b565_zd742 ne_zx663_b855 ne_zli742_b855 ne_zd742_b855) (by decide) (by decide) f861 (g := (mkF m 150 #[iv p1, iv p2, iv 3, iv 1, iv 2, rv b565, iv 1, u_, u_, u_, u_] [.null, (.ref b855), .null, (.ref sl823), (.ref sl791), .null, (.ref b565)])) rfl (by rw [hml]; rfl) (argsL := [.null, (.ref sl791), (.ref sl823), .null, (.ref b855), .null]) (rest := []) rfl (lenOf own_pd12 rfl) rfl (by show 2 * 0 + _ ≤ _; exact Nat.le_of_eq rfl) (hb hby at_150) e855 (by decide) (by decide)
      obtain ⟨zx887, rfl, Nq887, Kq887, g_zx887, sq_zx887, q887_0, q887_1, q887_2, q887_3, q887_4, q887_5, q887_6, q887_7, q887_8, q887_9, q887_10, q887_11⟩ := hQ887
      have N887 := Fr.app N790 Nq887
      have ne_oN_zx887 : oN ≠ zx887 := Nat.ne_of_lt (Nat.lt_of_lt_of_le f858.lt sq_zx887)
      have ne_oE_zx887 : oE ≠ zx887 := Nat.ne_of_lt (Nat.lt_of_lt_of_le f860.lt sq_zx887)
      have ne_b565_zx887 : b565 ≠ zx887 := Nat.ne_of_lt (Nat.lt_of_lt_of_le f861.lt sq_zx887)
      have ne_b603_zx887 : b603 ≠ zx887 := Nat.ne_of_lt (Nat.lt_of_lt_of_le f862.lt sq_zx887)
      have ne_zx613_zx887 : zx613 ≠ zx887 := Nat.ne_of_lt (Nat.lt_of_lt_of_le f863.lt sq_zx887)
      have ne_b649_zx887 : b649 ≠ zx887 := Nat.ne_of_lt (Nat.lt_of_lt_of_le f864.lt sq_zx887)
      have ne_zx663_zx887 : zx663 ≠ zx887 := Nat.ne_of_lt (Nat.lt_of_lt_of_le f865.lt sq_zx887)
      have ne_zli663_zx887 : zli663 ≠ zx887 := Nat.ne_of_lt (Nat.lt_of_lt_of_le f868.lt sq_zx887)
      have ne_zd663_zx887 : zd663 ≠ zx887 := Nat.ne_of_lt (Nat.lt_of_lt_of_le f872.lt sq_zx887)
      have ne_b719_zx887 : b719 ≠ zx887 := Nat.ne_of_lt (Nat.lt_of_lt_of_le f873.lt sq_zx887)
      have ne_zx742_zx887 : zx742 ≠ zx887 := Nat.ne_of_lt (Nat.lt_of_lt_of_le f874.lt sq_zx887)
      have ne_zli742_zx887 : zli742 ≠ zx887 := Nat.ne_of_lt (Nat.lt_of_lt_of_le f879.lt sq_zx887)
      have ne_zd742_zx887 : zd742 ≠ zx887 := Nat.ne_of_lt (Nat.lt_of_lt_of_le f883.lt sq_zx887)
      have ne_b855_zx887 : b855 ≠ zx887 := Nat.ne_of_lt (Nat.lt_of_lt_of_le f855.lt sq_zx887)
      have sz_zx887 : h0.size ≤ zx887 := Nat.le_trans K855.1 sq_zx887
      have f888 := own_staKeepW f856 Kq887 (allS f861.nostat (allS f879.nostat (allS f883.nostat all0)))
      have f889 := own_staKeepW f857 Kq887 (allS f861.nostat (allS f879.nostat (allS f883.nostat all0)))
      have f890 := f858.keep Kq887
      have f891 := f859.keep Kq887 (ninS ne_oN_b565 (ninS ne_oN_zli742 (ninS ne_oN_zd742 nin0)))
      have f892 := f860.keep Kq887 (ninS ne_oE_b565 (ninS ne_oE_zli742 (ninS ne_oE_zd742 nin0)))
      have f893 := f861.keep Kq887
      have f894 := f862.keep Kq887 (ninS (Ne.symm ne_b565_b603) (ninS ne_b603_zli742 (ninS ne_b603_zd742 nin0)))
      have f895 := f863.keep Kq887
      have f896 := f864.keep Kq887 (ninS (Ne.symm ne_b565_b649) (ninS ne_b649_zli742 (ninS ne_b649_zd742 nin0)))
      have f897 := f865.keep Kq887
      have f898 := f866.keep Kq887 (ninS (Ne.symm ne_b565_zx613) (ninS ne_zx613_zli742 (ninS ne_zx613_zd742 nin0)))
      have f899 := f867.keep Kq887 (ninS (Ne.symm ne_b565_zx613) (ninS ne_zx613_zli742 (ninS ne_zx613_zd742 nin0)))
      have f900 := f868.keep Kq887
      have f901 := f869.keep Kq887 (ninS (Ne.symm ne_b565_zli663) (ninS ne_zli663_zli742 (ninS ne_zli663_zd742 nin0)))
      have f902 := f870.keep Kq887 (ninS (Ne.symm ne_b565_zli663) (ninS ne_zli663_zli742 (ninS ne_zli663_zd742 nin0)))
      have f903 := f871.keep Kq887 (ninS (Ne.symm ne_b565_zli663) (ninS ne_zli663_zli742 (ninS ne_zli663_zd742 nin0)))
      have f904 := f872.keep Kq887 (ninS (Ne.symm ne_b565_zd663) (ninS ne_zd663_zli742 (ninS ne_zd663_zd742 nin0)))
      have f905 := f873.keep Kq887 (ninS (Ne.symm ne_b565_b719) (ninS ne_b719_zli742 (ninS ne_b719_zd742 nin0)))
      have f906 := f874.keep Kq887
      have f907 := f875.keep Kq887 (ninS (Ne.symm ne_b565_zx742) (ninS q742_17 (ninS q742_18 nin0)))
      have f908 := f876.keep Kq887 (ninS (Ne.symm ne_b565_zx742) (ninS q742_17 (ninS q742_18 nin0)))
      have f909 := f877.keep Kq887 (ninS (Ne.symm ne_b565_zx663) (ninS ne_zx663_zli742 (ninS ne_zx663_zd742 nin0)))
      have f910 := f878.keep Kq887 (ninS (Ne.symm ne_b565_zx663) (ninS ne_zx663_zli742 (ninS ne_zx663_zd742 nin0)))
      have f911 := f879.keep Kq887
      have f912 := f855.keep Kq887 (ninS (Ne.symm ne_b565_b855) (ninS (Ne.symm ne_zli742_b855) (ninS (Ne.symm ne_zd742_b855) nin0)))
      have K887 : Keep h0 T887.heap [] := K855.trans Kq887 (allS (Or.inr sz_b565) (allS (Or.inr sz_zli742) (allS (Or.inr sz_zd742) all0)))
      have Z887 := Nat.le_trans Z855 Kq887.1
      have hk887 := Nat.le_trans hk855 Kq887.1
      refine own_s T887 (mkF m 153 #[iv p1, iv p2, iv 3, iv 1, iv 2, rv b565, iv 1, u_, u_, u_, u_] []) st887 ?_
      refine own_s T887 (mkF m 160 #[iv p1, iv p2, iv 3, iv 1, iv 2, rv b565, iv 1, u_, u_, u_, u_] [(.ref b565)]) (fun _ k => XS.iload X887.here hx rfl (hb hby at_153) rfl  (XS.ifNo X887.here hx rfl (hb hby at_155) rfl ((if0 _ _).trans (feq (by decide : ¬ ((1 : Int32) = (0 : Int32)))).1) (XS.aload X887.here hx rfl (hb hby at_158) rfl rfl k))) ?_
      obtain ⟨v913, T913, L913, X913, hQ913, st913⟩ := own_callV X887 hx hZ (y := own_y20) (z := own_y20) (W := 0) (a := b565) hown (own_h hw 82 rfl) (own_h hw 83 rfl) (notFace_of_selects (args := #[]) (mvT hZ (own_h hw 85 rfl))) (own_h hw 85 rfl) (own_h hw 84 rfl) (own_h hw 3 rfl) (own_h hw 86 rfl) (by decide) (own_rmgdp l Z a0 hw [] b565 (3 : Int32) T887.heap n0 Z887 q887_3) (by decide) (by decide) q887_0 (g := (mkF m 160 #[iv p1, iv p2, iv 3, iv 1, iv 2, rv b565, iv 1, u_, u_, u_, u_] [(.ref b565)])) rfl (by rw [hml]; rfl) (argsL := []) (rest := []) rfl (lenOf own_pd7 rfl) rfl (by show 2 * 0 + _ ≤ _; exact Nat.le_of_eq rfl) (hb hby at_160) rfl (by decide) (by decide)
      obtain ⟨rfl, Nq913, e913⟩ := hQ913
      have N913 := Fr.app N887 Nq913
      refine own_s T913 (mkF m 163 #[iv p1, iv p2, iv 3, iv 1, iv 2, rv b565, iv 1, u_, u_, u_, u_] [(.int 3)]) st913 ?_
      refine own_s T913 (mkF m 171 #[iv p1, iv p2, iv 3, iv 1, iv 2, rv b565, iv 1, u_, u_, u_, u_] [(.int 1)]) (fun _ k => XS.iload X913.here hx rfl (hb hby at_163) rfl  (XS.iconst X913.here hx rfl (hb hby at_165) (XS.iadd X913.here hx rfl (hb hby at_166) rfl (XS.icmpNo X913.here hx rfl (hb hby at_167) rfl (teq (by decide : ((3 : Int32) = (3 : Int32)))).2 (XS.iconst X913.here hx rfl (hb hby at_170) k))))) ?_
      refine own_s T913 (mkF m 179 #[iv p1, iv p2, iv 3, iv 1, iv 2, rv b565, iv 1, u_, u_, u_, u_] [(.ref b565)]) (fun _ k => XS.goto X913.here hx rfl (pc0 := 171) (pc' := 175) rfl (hb hby at_171) (by decide) (by decide) (XS.istore X913.here hx rfl (hb hby at_175) rfl (l' := #[iv p1, iv p2, iv 3, iv 1, iv 2, rv b565, iv 1, u_, u_, u_, u_]) rfl (XS.aload X913.here hx rfl (hb hby at_177) rfl rfl k))) ?_
      obtain ⟨v914, T914, L914, X914, hQ914, st914⟩ := own_callV X913 hx hZ (y := own_y21) (z := own_y21) (W := 0) (a := b565) hown (own_h hw 87 rfl) (own_h hw 88 rfl) (notFace_of_selects (args := #[]) (mvT hZ (own_h hw 90 rfl))) (own_h hw 90 rfl) (own_h hw 89 rfl) (own_h hw 3 rfl) (own_h hw 91 rfl) (by decide) (own_rmgrt l Z a0 hw [] b565 zx613 T887.heap n0 Z887 q887_2) (by decide) (by decide) q887_0 (g := (mkF m 179 #[iv p1, iv p2, iv 3, iv 1, iv 2, rv b565, iv 1, u_, u_, u_, u_] [(.ref b565)])) rfl (by rw [hml]; rfl) (argsL := []) (rest := []) rfl (lenOf own_pd11 rfl) rfl (by show 2 * 0 + _ ≤ _; exact Nat.le_of_eq rfl) (hb hby at_179) e913 (by decide) (by decide)
      obtain ⟨rfl, Nq914, e914⟩ := hQ914
      have N914 := Fr.app N913 Nq914
      refine own_s T914 (mkF m 182 #[iv p1, iv p2, iv 3, iv 1, iv 2, rv b565, iv 1, u_, u_, u_, u_] [(.ref zx613)]) st914 ?_
      refine own_s T914 (mkF m 191 #[iv p1, iv p2, iv 3, iv 1, iv 2, rv b565, iv 1, rv zx613, u_, u_, u_] [(.ref zx613)]) (fun _ k => XS.astore X914.here hx rfl (hb hby at_182) rfl rfl (l' := #[iv p1, iv p2, iv 3, iv 1, iv 2, rv b565, iv 1, rv zx613, u_, u_, u_]) rfl (XS.aload X914.here hx rfl (hb hby at_184) rfl rfl (XS.ifnullNo X914.here hx rfl (hb hby at_186) rfl (XS.aload X914.here hx rfl (hb hby at_189) rfl rfl k)))) ?_
      obtain ⟨v915, T915, L915, X915, hQ915, st915⟩ := own_callV X914 hx hZ (y := own_y18) (z := own_y18) (W := 0) (a := zx613) hown (own_h hw 92 rfl) (own_h hw 78 rfl) (notFace_of_selects (args := #[]) (mvT hZ (own_h hw 80 rfl))) (own_h hw 80 rfl) (own_h hw 79 rfl) (own_h hw 34 rfl) (own_h hw 81 rfl) (by decide) (own_rmgpar l Z a0 hw [] zx613 .null T887.heap n0 Z887 f899 rfl) (by decide) (by decide) f895 (g := (mkF m 191 #[iv p1, iv p2, iv 3, iv 1, iv 2, rv b565, iv 1, rv zx613, u_, u_, u_] [(.ref zx613)])) rfl (by rw [hml]; rfl) (argsL := []) (rest := []) rfl (lenOf own_pd11 rfl) rfl (by show 2 * 0 + _ ≤ _; exact Nat.le_of_eq rfl) (hb hby at_191) e914 (by decide) (by decide)
      obtain ⟨rfl, Nq915, e915⟩ := hQ915
      have N915 := Fr.app N914 Nq915
      refine own_s T915 (mkF m 194 #[iv p1, iv p2, iv 3, iv 1, iv 2, rv b565, iv 1, rv zx613, u_, u_, u_] [.null]) st915 ?_
      refine own_s T915 (mkF m 205 #[iv p1, iv p2, iv 3, iv 1, iv 2, rv b565, iv 1, rv zx613, u_, u_, u_] [(.int 1)]) (fun _ k => XS.ifnullYes X915.here hx rfl (pc0 := 194) (pc' := 199) rfl (hb hby at_194) rfl (by decide) (by decide) (XS.iloadN X915.here hx rfl (hb hby at_199) rfl  (XS.iconst X915.here hx rfl (hb hby at_200) (XS.icmpNo X915.here hx rfl (hb hby at_201) rfl (flt (by decide : ¬ ((3 : Int32) < (2 : Int32)))).1 (XS.iconst X915.here hx rfl (hb hby at_204) k))))) ?_
      refine own_s T915 (mkF m 220 #[iv p1, iv p2, iv 3, iv 1, iv 2, rv b565, iv 1, rv zx613, u_, u_, u_] [(.int 0), (.int 1)]) (fun _ k => XS.goto X915.here hx rfl (pc0 := 205) (pc' := 209) rfl (hb hby at_205) (by decide) (by decide) (XS.iload X915.here hx rfl (hb hby at_209) rfl  (XS.iconst X915.here hx rfl (hb hby at_211) (XS.icmpYes X915.here hx rfl (pc0 := 212) (pc' := 219) rfl (hb hby at_212) rfl (feq (by decide : ¬ ((2 : Int32) = (1 : Int32)))).2 (by decide) (by decide) (XS.iconst X915.here hx rfl (hb hby at_219) k))))) ?_
      refine own_s T915 (mkF m 230 #[iv p1, iv p2, iv 3, iv 1, iv 2, rv b565, iv 1, rv zx613, iv 1, u_, u_] [(.ref zx613)]) (fun _ k => XS.iadd X915.here hx rfl (hb hby at_220) rfl (XS.istore X915.here hx rfl (hb hby at_221) rfl (l' := #[iv p1, iv p2, iv 3, iv 1, iv 2, rv b565, iv 1, rv zx613, iv 1, u_, u_]) rfl (XS.iload X915.here hx rfl (hb hby at_223) rfl  (XS.ifNo X915.here hx rfl (hb hby at_225) rfl ((if0 _ _).trans (feq (by decide : ¬ ((1 : Int32) = (0 : Int32)))).1) (XS.aload X915.here hx rfl (hb hby at_228) rfl rfl k))))) ?_
      obtain ⟨v916, T916, L916, X916, hQ916, st916⟩ := own_callV X915 hx hZ (y := own_y19) (z := own_y19) (W := 0) (a := zx613) hown (own_h hw 93 rfl) (own_h hw 94 rfl) (notFace_of_selects (args := #[]) (mvT hZ (own_h hw 96 rfl))) (own_h hw 96 rfl) (own_h hw 95 rfl) (own_h hw 34 rfl) (own_h hw 97 rfl) (by decide) (own_rmgch l Z a0 hw [] zx613 zli663 T887.heap n0 Z887 f898) (by decide) (by decide) f895 (g := (mkF m 230 #[iv p1, iv p2, iv 3, iv 1, iv 2, rv b565, iv 1, rv zx613, iv 1, u_, u_] [(.ref zx613)])) rfl (by rw [hml]; rfl) (argsL := []) (rest := []) rfl (lenOf own_pd13 rfl) rfl (by show 2 * 0 + _ ≤ _; exact Nat.le_of_eq rfl) (hb hby at_230) e915 (by decide) (by decide)
      obtain ⟨rfl, Nq916, e916⟩ := hQ916
      have N916 := Fr.app N915 Nq916
      refine own_s T916 (mkF m 233 #[iv p1, iv p2, iv 3, iv 1, iv 2, rv b565, iv 1, rv zx613, iv 1, u_, u_] [(.ref zli663)]) st916 ?_
      obtain ⟨v917, T917, L917, X917, hQ917, st917⟩ := own_callF X916 hx hZ (y := own_y12) (z := own_y5) (W := 0) (a := zli663) hown (own_h hw 98 rfl) (own_h hw 99 rfl) (mvT hZ (own_h hw 100 rfl)) (own_h hw 160 rfl) (own_h hw 161 rfl) (own_h hw 162 rfl) (own_h hw 163 rfl) (own_h hw 147 rfl) (own_h hw 117 rfl) (own_h hw 164 rfl) (by decide) (own_rmalsz l Z a0 hw [] zli663 (1 : Int32) T887.heap n0 Z887 f903) (by decide) (by decide) f900 (g := (mkF m 233 #[iv p1, iv p2, iv 3, iv 1, iv 2, rv b565, iv 1, rv zx613, iv 1, u_, u_] [(.ref zli663)])) rfl (by rw [hml]; rfl) (argsL := []) (rest := []) rfl (lenOf own_pd7 rfl) rfl (by show 2 * 0 + _ ≤ _; exact Nat.le_of_eq rfl) (hb hby at_233) e916 (by decide) (by decide)
      obtain ⟨rfl, Nq917, e917⟩ := hQ917
      have N917 := Fr.app N916 Nq917
      refine own_s T917 (mkF m 238 #[iv p1, iv p2, iv 3, iv 1, iv 2, rv b565, iv 1, rv zx613, iv 1, u_, u_] [(.int 1)]) st917 ?_
      refine own_s T917 (mkF m 250 #[iv p1, iv p2, iv 3, iv 1, iv 2, rv b565, iv 1, rv zx613, iv 1, u_, u_] []) (fun _ k => XS.iload X917.here hx rfl (hb hby at_238) rfl  (XS.icmpNo X917.here hx rfl (hb hby at_240) rfl (teq (by decide : ((1 : Int32) = (1 : Int32)))).2 (XS.iconst X917.here hx rfl (hb hby at_243) (XS.goto X917.here hx rfl (pc0 := 244) (pc' := 248) rfl (hb hby at_244) (by decide) (by decide) (XS.istore X917.here hx rfl (hb hby at_248) rfl (l' := #[iv p1, iv p2, iv 3, iv 1, iv 2, rv b565, iv 1, rv zx613, iv 1, u_, u_]) rfl k))))) ?_
      refine own_s T917 (mkF m 257 #[iv p1, iv p2, iv 3, iv 1, iv 2, rv b565, iv 1, rv zx613, iv 1, u_, u_] [(.ref zx613)]) (fun _ k => XS.iloadN X917.here hx rfl (hb hby at_250) rfl  (XS.iconst X917.here hx rfl (hb hby at_251) (XS.icmpNo X917.here hx rfl (hb hby at_252) rfl (flt (by decide : ¬ ((3 : Int32) < (2 : Int32)))).1 (XS.aload X917.here hx rfl (hb hby at_255) rfl rfl k)))) ?_
      obtain ⟨v918, T918, L918, X918, hQ918, st918⟩ := own_callV X917 hx hZ (y := own_y19) (z := own_y19) (W := 0) (a := zx613) hown (own_h hw 93 rfl) (own_h hw 94 rfl) (notFace_of_selects (args := #[]) (mvT hZ (own_h hw 96 rfl))) (own_h hw 96 rfl) (own_h hw 95 rfl) (own_h hw 34 rfl) (own_h hw 97 rfl) (by decide) (own_rmgch l Z a0 hw [] zx613 zli663 T887.heap n0 Z887 f898) (by decide) (by decide) f895 (g := (mkF m 257 #[iv p1, iv p2, iv 3, iv 1, iv 2, rv b565, iv 1, rv zx613, iv 1, u_, u_] [(.ref zx613)])) rfl (by rw [hml]; rfl) (argsL := []) (rest := []) rfl (lenOf own_pd13 rfl) rfl (by show 2 * 0 + _ ≤ _; exact Nat.le_of_eq rfl) (hb hby at_257) e917 (by decide) (by decide)
      obtain ⟨rfl, Nq918, e918⟩ := hQ918
      have N918 := Fr.app N917 Nq918
      refine own_s T918 (mkF m 260 #[iv p1, iv p2, iv 3, iv 1, iv 2, rv b565, iv 1, rv zx613, iv 1, u_, u_] [(.ref zli663)]) st918 ?_
      refine own_s T918 (mkF m 261 #[iv p1, iv p2, iv 3, iv 1, iv 2, rv b565, iv 1, rv zx613, iv 1, u_, u_] [(.int 0), (.ref zli663)]) (fun _ k => XS.iconst X918.here hx rfl (hb hby at_260) k) ?_
      obtain ⟨v919, T919, L919, X919, hQ919, st919⟩ := own_callF X918 hx hZ (y := own_y23) (z := own_y9) (W := 0) (a := zli663) hown (own_h hw 167 rfl) (own_h hw 168 rfl) (mvT hZ (own_h hw 169 rfl)) (own_h hw 170 rfl) (own_h hw 171 rfl) (own_h hw 172 rfl) (own_h hw 173 rfl) (own_h hw 147 rfl) (own_h hw 117 rfl) (own_h hw 174 rfl) (by decide) (own_rmget_1 l Z a0 hw [] zli663 zd663 zkd663 zx663 T887.heap n0 Z887 f900 f903 f902 f904) (by decide) (by decide) f900 (g := (mkF m 261 #[iv p1, iv p2, iv 3, iv 1, iv 2, rv b565, iv 1, rv zx613, iv 1, u_, u_] [(.int 0), (.ref zli663)])) rfl (by rw [hml]; rfl) (argsL := [(.int 0)]) (rest := []) rfl (lenOf own_pd4 rfl) rfl (by show 2 * 0 + _ ≤ _; exact Nat.le_of_eq rfl) (hb hby at_261) e918 (by decide) (by decide)
      obtain ⟨rfl, Nq919, Kq919⟩ := hQ919
      have N919 := Fr.app N918 Nq919
      have f920 := own_staKeep f888 Kq919
      have f921 := own_staKeep f889 Kq919
      have f922 := f890.keep Kq919
      have f923 := f891.keep Kq919 nin0
      have f924 := f892.keep Kq919 nin0
      have f925 := q887_0.keep Kq919
      have f926 := f894.keep Kq919 nin0
      have f927 := f895.keep Kq919
      have f928 := f896.keep Kq919 nin0
      have f929 := f897.keep Kq919
      have f930 := f898.keep Kq919 nin0
      have f931 := f899.keep Kq919 nin0
      have f932 := f900.keep Kq919
      have f933 := f901.keep Kq919 nin0
      have f934 := f902.keep Kq919 nin0
      have f935 := f903.keep Kq919 nin0
      have f936 := f904.keep Kq919 nin0
      have f937 := f905.keep Kq919 nin0
      have f938 := f906.keep Kq919
      have f939 := f907.keep Kq919 nin0
      have f940 := f908.keep Kq919 nin0
      have f941 := f909.keep Kq919 nin0
      have f942 := f910.keep Kq919 nin0
      have f943 := q887_7.keep Kq919
      have f944 := f912.keep Kq919 nin0
      have f945 := q887_1.keep Kq919 nin0
      have f946 := q887_2.keep Kq919 nin0
      have f947 := q887_3.keep Kq919 nin0
      have f948 := q887_4.keep Kq919
      have f949 := q887_5.keep Kq919 nin0
      have f950 := q887_6.keep Kq919 nin0
      have f951 := q887_8.keep Kq919 nin0
      have f952 := q887_9.keep Kq919 nin0
      have f953 := q887_10.keep Kq919 nin0
      have f954 := q887_11.keep Kq919 nin0
      have K919 : Keep h0 T919.heap [] := K887.trans Kq919 all0
      have Z919 := Nat.le_trans Z887 Kq919.1
      have hk919 := Nat.le_trans hk887 Kq919.1
      refine own_s T919 (mkF m 266 #[iv p1, iv p2, iv 3, iv 1, iv 2, rv b565, iv 1, rv zx613, iv 1, u_, u_] [(.ref zx663)]) st919 ?_
      obtain ⟨T955, X955, e955, st955⟩ := castY X919 hx hZ hown (own_h hw 188 rfl) rfl (Ins.self f929) (g := (mkF m 266 #[iv p1, iv p2, iv 3, iv 1, iv 2, rv b565, iv 1, rv zx613, iv 1, u_, u_] [(.ref zx663)])) rfl rfl (hb hby at_266)
      refine own_s T955 (mkF m 269 #[iv p1, iv p2, iv 3, iv 1, iv 2, rv b565, iv 1, rv zx613, iv 1, u_, u_] [(.ref zx663)]) st955 ?_
      refine own_s T955 (mkF m 277 #[iv p1, iv p2, iv 3, iv 1, iv 2, rv b565, iv 1, rv zx613, iv 1, rv zx663, u_] [(.int 1)]) (fun _ k => XS.astore X955.here hx rfl (hb hby at_269) rfl rfl (l' := #[iv p1, iv p2, iv 3, iv 1, iv 2, rv b565, iv 1, rv zx613, iv 1, rv zx663, u_]) rfl (XS.iloadN X955.here hx rfl (hb hby at_271) rfl  (XS.iconst X955.here hx rfl (hb hby at_272) (XS.icmpNo X955.here hx rfl (hb hby at_273) rfl (flt (by decide : ¬ ((3 : Int32) < (3 : Int32)))).1 (XS.iconst X955.here hx rfl (hb hby at_276) k))))) ?_
      refine own_s T955 (mkF m 288 #[iv p1, iv p2, iv 3, iv 1, iv 2, rv b565, iv 1, rv zx613, iv 1, rv zx663, u_] [(.int 1), (.int 1)]) (fun _ k => XS.goto X955.here hx rfl (pc0 := 277) (pc' := 281) rfl (hb hby at_277) (by decide) (by decide) (XS.iload X955.here hx rfl (hb hby at_281) rfl  (XS.iconst X955.here hx rfl (hb hby at_283) (XS.icmpNo X955.here hx rfl (hb hby at_284) rfl (teq (by decide : ((2 : Int32) = (2 : Int32)))).2 (XS.iconst X955.here hx rfl (hb hby at_287) k))))) ?_
      refine own_s T955 (mkF m 300 #[iv p1, iv p2, iv 3, iv 1, iv 2, rv b565, iv 1, rv zx613, iv 1, rv zx663, iv 2] []) (fun _ k => XS.goto X955.here hx rfl (pc0 := 288) (pc' := 292) rfl (hb hby at_288) (by decide) (by decide) (XS.iadd X955.here hx rfl (hb hby at_292) rfl (XS.istore X955.here hx rfl (hb hby at_293) rfl (l' := #[iv p1, iv p2, iv 3, iv 1, iv 2, rv b565, iv 1, rv zx613, iv 1, rv zx663, iv 2]) rfl (XS.iload X955.here hx rfl (hb hby at_295) rfl  (XS.ifNo X955.here hx rfl (hb hby at_297) rfl ((if0 _ _).trans (feq (by decide : ¬ ((1 : Int32) = (0 : Int32)))).1) k))))) ?_
      refine own_s T955 (mkF m 302 #[iv p1, iv p2, iv 3, iv 1, iv 2, rv b565, iv 1, rv zx613, iv 1, rv zx663, iv 2] [(.ref zx663)]) (fun _ k => XS.aload X955.here hx rfl (hb hby at_300) rfl rfl k) ?_
      obtain ⟨v956, T956, L956, X956, hQ956, st956⟩ := own_callV X955 hx hZ (y := own_y19) (z := own_y19) (W := 0) (a := zx663) hown (own_h hw 93 rfl) (own_h hw 94 rfl) (notFace_of_selects (args := #[]) (mvT hZ (own_h hw 96 rfl))) (own_h hw 96 rfl) (own_h hw 95 rfl) (own_h hw 34 rfl) (own_h hw 97 rfl) (by decide) (own_rmgch l Z a0 hw [] zx663 zli742 T919.heap n0 Z919 f941) (by decide) (by decide) f929 (g := (mkF m 302 #[iv p1, iv p2, iv 3, iv 1, iv 2, rv b565, iv 1, rv zx613, iv 1, rv zx663, iv 2] [(.ref zx663)])) rfl (by rw [hml]; rfl) (argsL := []) (rest := []) rfl (lenOf own_pd13 rfl) rfl (by show 2 * 0 + _ ≤ _; exact Nat.le_of_eq rfl) (hb hby at_302) e955 (by decide) (by decide)
      obtain ⟨rfl, Nq956, e956⟩ := hQ956
      have N956 := Fr.app N919 Nq956
      refine own_s T956 (mkF m 305 #[iv p1, iv p2, iv 3, iv 1, iv 2, rv b565, iv 1, rv zx613, iv 1, rv zx663, iv 2] [(.ref zli742)]) st956 ?_
      obtain ⟨v957, T957, L957, X957, hQ957, st957⟩ := own_callF X956 hx hZ (y := own_y12) (z := own_y5) (W := 0) (a := zli742) hown (own_h hw 98 rfl) (own_h hw 99 rfl) (mvT hZ (own_h hw 100 rfl)) (own_h hw 160 rfl) (own_h hw 161 rfl) (own_h hw 162 rfl) (own_h hw 163 rfl) (own_h hw 147 rfl) (own_h hw 117 rfl) (own_h hw 164 rfl) (by decide) (own_rmalsz l Z a0 hw [] zli742 (2 : Int32) T919.heap n0 Z919 f953) (by decide) (by decide) f943 (g := (mkF m 305 #[iv p1, iv p2, iv 3, iv 1, iv 2, rv b565, iv 1, rv zx613, iv 1, rv zx663, iv 2] [(.ref zli742)])) rfl (by rw [hml]; rfl) (argsL := []) (rest := []) rfl (lenOf own_pd7 rfl) rfl (by show 2 * 0 + _ ≤ _; exact Nat.le_of_eq rfl) (hb hby at_305) e956 (by decide) (by decide)
      obtain ⟨rfl, Nq957, e957⟩ := hQ957
      have N957 := Fr.app N956 Nq957
      refine own_s T957 (mkF m 310 #[iv p1, iv p2, iv 3, iv 1, iv 2, rv b565, iv 1, rv zx613, iv 1, rv zx663, iv 2] [(.int 2)]) st957 ?_
      refine own_s T957 (mkF m 322 #[iv p1, iv p2, iv 3, iv 1, iv 2, rv b565, iv 1, rv zx613, iv 1, rv zx663, iv 2] []) (fun _ k => XS.iload X957.here hx rfl (hb hby at_310) rfl  (XS.icmpNo X957.here hx rfl (hb hby at_312) rfl (teq (by decide : ((2 : Int32) = (2 : Int32)))).2 (XS.iconst X957.here hx rfl (hb hby at_315) (XS.goto X957.here hx rfl (pc0 := 316) (pc' := 320) rfl (hb hby at_316) (by decide) (by decide) (XS.istore X957.here hx rfl (hb hby at_320) rfl (l' := #[iv p1, iv p2, iv 3, iv 1, iv 2, rv b565, iv 1, rv zx613, iv 1, rv zx663, iv 2]) rfl k))))) ?_
      refine own_s T957 (mkF m 324 #[iv p1, iv p2, iv 3, iv 1, iv 2, rv b565, iv 1, rv zx613, iv 1, rv zx663, iv 2] [(.int 1)]) (fun _ k => XS.iload X957.here hx rfl (hb hby at_322) rfl  k) ?_
      exact own_finZ X957 hx (t := .boolean) hret (by simp) (z' := (1 : Int32)) rfl (hb hby at_324) (own_endW (Qv := (own_Q0 Z p1 p2 oN oA oE kE h0 n0)) X957 hS (own_some hret) hlk (by decide) (by decide) e957 hk919 (fun vm' hv' => ⟨rfl, N957⟩))
    · refine own_cast (g' := (mkF m 18 #[iv p1, iv p2, iv 3, iv 2, u_, u_, u_, u_, u_, u_, u_] [])) (by rw [hk]) ?_
      refine own_s s₁ (mkF m 23 #[iv p1, iv p2, iv 3, iv 2, iv 1, u_, u_, u_, u_, u_, u_] []) (fun _ k => XS.iloadN X0.here hx rfl (hb hby at_18) rfl  (XS.iloadN X0.here hx rfl (hb hby at_19) rfl  (XS.isub X0.here hx rfl (hb hby at_20) rfl (XS.istore X0.here hx rfl (hb hby at_21) rfl (l' := #[iv p1, iv p2, iv 3, iv 2, iv 1, u_, u_, u_, u_, u_, u_]) rfl k)))) ?_
      obtain ⟨T958, h958, X958, e958, E958, A958, D958, -, st958⟩ := newO X0 hx hZ hown (own_h hw 1 rfl) (own_h hw 2 rfl) (own_h hw 3 rfl) e0 (g := (mkF m 23 #[iv p1, iv p2, iv 3, iv 2, iv 1, u_, u_, u_, u_, u_, u_] [])) rfl (hb hby at_23) (by decide) (by decide)
      obtain ⟨b958, g958⟩ : ∃ z, z = h0.size := ⟨_, rfl⟩
      have ne_oN_b958 : oN ≠ b958 := Nat.ne_of_lt (Nat.lt_of_lt_of_le pr2.lt (Nat.le_of_eq g958.symm))
      have ne_oE_b958 : oE ≠ b958 := Nat.ne_of_lt (Nat.lt_of_lt_of_le pr4.lt (Nat.le_of_eq g958.symm))
      have g_b958 : n0 ≤ b958 := Nat.le_trans Z0 (Nat.le_of_eq g958.symm)
      have sz_b958 : h0.size ≤ b958 := Nat.le_trans (Keep.refl h0 []).1 (Nat.le_of_eq g958.symm)
      rw [← g958] at A958 D958 st958
      have f959 := Sta.ext E958 pr0
      have f960 := Sta.ext E958 pr1
      have f961 := Exa.ext E958 pr2
      have f962 := Fld.ext E958 pr3
      have f963 := pr4.ext E958
      have K958 : Keep h0 h958 [] := (Keep.refl h0 []).ext E958
      have Z958 := Nat.le_trans Z0 E958.1
      have hk958 := Nat.le_trans hk0 E958.1
      have f964 : Fld Z h958 b958 "com/example/tagwright/tagwright/XmlTree" "whiteSpaces" "[Ljava/lang/String;" .null := D958 (Or.inr (own_h hw 13 rfl)) (ty := (.array (.object "java/lang/String"))) (by decide)
      have f965 : Fld Z h958 b958 "com/example/tagwright/tagwright/XmlTree" "whiteSpaceBytes" "[[B" .null := D958 (Or.inr (own_h hw 17 rfl)) (ty := (.array (.array .byte))) (by decide)
      have f966 : Fld Z h958 b958 "com/example/tagwright/tagwright/XmlTree" "current" "Lcom/example/tagwright/tagwright/XmlElement;" .null := D958 (Or.inl (own_h hw 36 rfl)) (ty := (.object "com/example/tagwright/tagwright/XmlElement")) (by decide)
      have f967 : Fld Z h958 b958 "com/example/tagwright/tagwright/XmlTree" "root" "Lcom/example/tagwright/tagwright/XmlElement;" .null := D958 (Or.inl (own_h hw 69 rfl)) (ty := (.object "com/example/tagwright/tagwright/XmlElement")) (by decide)
      have f968 : Fld Z h958 b958 "com/example/tagwright/tagwright/XmlTree" "depth" "I" (.int 0) := D958 (Or.inl (own_h hw 71 rfl)) (ty := .int) (by decide)
      refine own_s T958 (mkF m 26 #[iv p1, iv p2, iv 3, iv 2, iv 1, u_, u_, u_, u_, u_, u_] [(.ref b958)]) st958 ?_
      refine own_s T958 (mkF m 27 #[iv p1, iv p2, iv 3, iv 2, iv 1, u_, u_, u_, u_, u_, u_] [(.ref b958), (.ref b958)]) (fun _ k => XS.dup X958.here hx rfl (hb hby at_26) rfl rfl k) ?_
      obtain ⟨v969, T969, L969, X969, hQ969, st969⟩ := own_callI X958 hx hZ (y := own_y16) (W := 1) (a := b958) rfl hown (own_h hw 4 rfl) (own_h hw 5 rfl) (own_h hw 3 rfl) (own_h hw 6 rfl) (by decide) (own_rmti l Z a0 hw [] b958 h958 n0 Z958 g_b958 A958 f966 f967 f968 f964 f965) (by decide) (by decide) (g := (mkF m 27 #[iv p1, iv p2, iv 3, iv 2, iv 1, u_, u_, u_, u_, u_, u_] [(.ref b958), (.ref b958)])) rfl (by rw [hml]; rfl) (argsL := []) (rest := [(.ref b958)]) rfl (lenOf own_pd0 rfl) rfl (by show 2 * 0 + _ ≤ _; exact Nat.le_of_eq rfl) (hb hby at_27) e958 (by decide) (by decide)
      obtain ⟨rfl, Nq969, Kq969, q969_0, q969_1, q969_2, q969_3⟩ := hQ969
      have N969 := Fr.app N0 Nq969
      have f970 := own_staKeepW f959 Kq969 (allS A958.nostat all0)
      have f971 := own_staKeepW f960 Kq969 (allS A958.nostat all0)
      have f972 := f961.keep Kq969
      have f973 := f962.keep Kq969 (ninS ne_oN_b958 nin0)
      have f974 := f963.keep Kq969 (ninS ne_oE_b958 nin0)
      have f975 := A958.keep Kq969
      have K969 : Keep h0 T969.heap [] := K958.trans Kq969 (allS (Or.inr sz_b958) all0)
      have Z969 := Nat.le_trans Z958 Kq969.1
      have hk969 := Nat.le_trans hk958 Kq969.1
      refine own_s T969 (mkF m 30 #[iv p1, iv p2, iv 3, iv 2, iv 1, u_, u_, u_, u_, u_, u_] [(.ref b958)]) st969 ?_
      refine own_s T969 (mkF m 35 #[iv p1, iv p2, iv 3, iv 2, iv 1, rv b958, u_, u_, u_, u_, u_] [.null, (.ref b958)]) (fun _ k => XS.astore X969.here hx rfl (hb hby at_30) rfl rfl (l' := #[iv p1, iv p2, iv 3, iv 2, iv 1, rv b958, u_, u_, u_, u_, u_]) rfl (XS.aload X969.here hx rfl (hb hby at_32) rfl rfl (XS.aconstNull X969.here hx rfl (hb hby at_34) k))) ?_
      obtain ⟨sl976, T976, h976, kk976, X976, e976, E976, hS, hk976, hZ, hown, st976⟩ := ldcS (s := s) X969 hx hZ hown (own_h hw 18 rfl) (own_wS hw) rfl hS hk969 (g := (mkF m 35 #[iv p1, iv p2, iv 3, iv 2, iv 1, rv b958, u_, u_, u_, u_, u_] [.null, (.ref b958)])) rfl (hb hby at_35) (n := 4) (by decide) (by decide) (by decide) (by decide)
      have f977 := Sta.ext E976 f970
      have f978 := Sta.ext E976 f971
      have f979 := Exa.ext E976 f972
      have f980 := Fld.ext E976 f973
      have f981 := f974.ext E976
      have f982 := Exa.ext E976 q969_0
      have f983 := Fld.ext E976 q969_1
      have f984 := Fld.ext E976 q969_2
      have f985 := Fld.ext E976 q969_3
      have K976 : Keep h0 h976 [] := K969.ext E976
      have Z976 := Nat.le_trans Z969 E976.1
      refine own_s T976 (mkF m 37 #[iv p1, iv p2, iv 3, iv 2, iv 1, rv b958, u_, u_, u_, u_, u_] [(.ref sl976), .null, (.ref b958)]) st976 ?_
      obtain ⟨sl986, T986, h986, kk986, X986, e986, E986, hS, hk986, hZ, hown, st986⟩ := ldcS (s := s) X976 hx hZ hown (own_h hw 18 rfl) (own_wS hw) e976 hS hk976 (g := (mkF m 37 #[iv p1, iv p2, iv 3, iv 2, iv 1, rv b958, u_, u_, u_, u_, u_] [(.ref sl976), .null, (.ref b958)])) rfl (hb hby at_37) (n := 4) (by decide) (by decide) (by decide) (by decide)
      have f987 := Sta.ext E986 f977
      have f988 := Sta.ext E986 f978
      have f989 := Exa.ext E986 f979
      have f990 := Fld.ext E986 f980
      have f991 := f981.ext E986
      have f992 := Exa.ext E986 f982
      have f993 := Fld.ext E986 f983
      have f994 := Fld.ext E986 f984
      have f995 := Fld.ext E986 f985
      have K986 : Keep h0 h986 [] := K976.ext E986
      have Z986 := Nat.le_trans Z976 E986.1
      refine own_s T986 (mkF m 39 #[iv p1, iv p2, iv 3, iv 2, iv 1, rv b958, u_, u_, u_, u_, u_] [(.ref sl986), (.ref sl976), .null, (.ref b958)]) st986 ?_
      refine own_s T986 (mkF m 41 #[iv p1, iv p2, iv 3, iv 2, iv 1, rv b958, u_, u_, u_, u_, u_] [(.int 0), .null, (.ref sl986), (.ref sl976), .null, (.ref b958)]) (fun _ k => XS.aconstNull X986.here hx rfl (hb hby at_39) (XS.iconst X986.here hx rfl (hb hby at_40) k)) ?_
      obtain ⟨T996, h996, k996, X996, e996, E996, A996, O996, st996⟩ := newR X986 hx hZ hown (own_h hw 26 rfl) (own_h hw 11 rfl) e986 (g := (mkF m 41 #[iv p1, iv p2, iv 3, iv 2, iv 1, rv b958, u_, u_, u_, u_, u_] [(.int 0), .null, (.ref sl986), (.ref sl976), .null, (.ref b958)])) rfl (hb hby at_41) rfl (by decide) (cap := 0) (by decide) (by decide) (by decide) (by decide)
      obtain ⟨b996, g996⟩ : ∃ z, z = h986.size := ⟨_, rfl⟩
      have ne_oN_b996 : oN ≠ b996 := Nat.ne_of_lt (Nat.lt_of_lt_of_le f989.lt (Nat.le_of_eq g996.symm))
      have ne_oE_b996 : oE ≠ b996 := Nat.ne_of_lt (Nat.lt_of_lt_of_le f991.lt (Nat.le_of_eq g996.symm))
      have ne_b958_b996 : b958 ≠ b996 := Nat.ne_of_lt (Nat.lt_of_lt_of_le f992.lt (Nat.le_of_eq g996.symm))
      have g_b996 : n0 ≤ b996 := Nat.le_trans Z986 (Nat.le_of_eq g996.symm)
      have sz_b996 : h0.size ≤ b996 := Nat.le_trans K986.1 (Nat.le_of_eq g996.symm)
      rw [← g996] at A996 st996
      have f997 := Sta.ext E996 f987
      have f998 := Sta.ext E996 f988
      have f999 := Exa.ext E996 f989
      have f1000 := Fld.ext E996 f990
      have f1001 := f991.ext E996
      have f1002 := Exa.ext E996 f992
      have f1003 := Fld.ext E996 f993
      have f1004 := Fld.ext E996 f994
      have f1005 := Fld.ext E996 f995
      have K996 : Keep h0 h996 [] := K986.ext E996
      have Z996 := Nat.le_trans Z986 E996.1
      have hk996 := Nat.le_trans hk986 E996.1
      have f996 : Arv Z h996 b996 k996 (.object "java/lang/String") 0 [] .null := (Arv.new A996 (by decide)).pad (pad_rep [] .null 0)
      refine own_s T996 (mkF m 44 #[iv p1, iv p2, iv 3, iv 2, iv 1, rv b958, u_, u_, u_, u_, u_] [(.ref b996), .null, (.ref sl986), (.ref sl976), .null, (.ref b958)]) st996 ?_
      refine own_s T996 (mkF m 45 #[iv p1, iv p2, iv 3, iv 2, iv 1, rv b958, u_, u_, u_, u_, u_] [.null, (.ref b996), .null, (.ref sl986), (.ref sl976), .null, (.ref b958)]) (fun _ k => XS.aconstNull X996.here hx rfl (hb hby at_44) k) ?_
      obtain ⟨v1006, T1006, L1006, X1006, hQ1006, st1006⟩ := own_callV X996 hx hZ (y := own_y17) (z := own_y17) (W := 0) (a := b958) hown (own_h hw 27 rfl) (own_h hw 28 rfl) (notFace_of_selects (args := #[]) (mvT hZ (own_h hw 30 rfl))) (own_h hw 30 rfl) (own_h hw 29 rfl) (own_h hw 3 rfl) (own_h hw 31 rfl) (by decide) (own_rmst0 l Z a0 hw [] b958 sl976 sl986 b996 oN oA k996 h996 n0 Z996 g_b958 f1002 f1003 f1004 f1005 f997 f998 f996 ne_b958_b996) (by decide) (by decide) f1002 (g := (mkF m 45 #[iv p1, iv p2, iv 3, iv 2, iv 1, rv b958, u_, u_, u_, u_, u_] [.null, (.ref b996), .null, (.ref sl986), (.ref sl976), .null, (.ref b958)])) rfl (by rw [hml]; rfl) (argsL := [.null, (.ref sl976), (.ref sl986), .null, (.ref b996), .null]) (rest := []) rfl (lenOf own_pd12 rfl) rfl (by show 2 * 0 + _ ≤ _; exact Nat.le_of_eq rfl) (hb hby at_45) e996 (by decide) (by decide)
      obtain ⟨zx1006, rfl, Nq1006, Kq1006, g_zx1006, sq_zx1006, q1006_0, q1006_1, q1006_2, q1006_3, q1006_4, q1006_5, q1006_6⟩ := hQ1006
      have N1006 := Fr.app N969 Nq1006
      have ne_oN_zx1006 : oN ≠ zx1006 := Nat.ne_of_lt (Nat.lt_of_lt_of_le f999.lt sq_zx1006)
      have ne_oE_zx1006 : oE ≠ zx1006 := Nat.ne_of_lt (Nat.lt_of_lt_of_le f1001.lt sq_zx1006)
      have ne_b958_zx1006 : b958 ≠ zx1006 := Nat.ne_of_lt (Nat.lt_of_lt_of_le f1002.lt sq_zx1006)
      have ne_b996_zx1006 : b996 ≠ zx1006 := Nat.ne_of_lt (Nat.lt_of_lt_of_le f996.lt sq_zx1006)
      have sz_zx1006 : h0.size ≤ zx1006 := Nat.le_trans K996.1 sq_zx1006
      have f1007 := own_staKeepW f997 Kq1006 (allS f1002.nostat all0)
      have f1008 := own_staKeepW f998 Kq1006 (allS f1002.nostat all0)
      have f1009 := f999.keep Kq1006
      have f1010 := f1000.keep Kq1006 (ninS ne_oN_b958 nin0)
      have f1011 := f1001.keep Kq1006 (ninS ne_oE_b958 nin0)
      have f1012 := f1002.keep Kq1006
      have f1013 := f996.keep Kq1006 (ninS (Ne.symm ne_b958_b996) nin0)
      have K1006 : Keep h0 T1006.heap [] := K996.trans Kq1006 (allS (Or.inr sz_b958) all0)
      have Z1006 := Nat.le_trans Z996 Kq1006.1
      have hk1006 := Nat.le_trans hk996 Kq1006.1
      refine own_s T1006 (mkF m 48 #[iv p1, iv p2, iv 3, iv 2, iv 1, rv b958, u_, u_, u_, u_, u_] []) st1006 ?_
      refine own_s T1006 (mkF m 56 #[iv p1, iv p2, iv 3, iv 2, iv 1, rv b958, u_, u_, u_, u_, u_] [.null, (.ref b958)]) (fun _ k => XS.iloadN X1006.here hx rfl (hb hby at_48) rfl  (XS.iconst X1006.here hx rfl (hb hby at_49) (XS.icmpNo X1006.here hx rfl (hb hby at_50) rfl (flt (by decide : ¬ ((3 : Int32) < (2 : Int32)))).1 (XS.aload X1006.here hx rfl (hb hby at_53) rfl rfl (XS.aconstNull X1006.here hx rfl (hb hby at_55) k))))) ?_
      obtain ⟨sl1014, T1014, h1014, kk1014, X1014, e1014, E1014, hS, hk1014, hZ, hown, st1014⟩ := ldcS (s := s) X1006 hx hZ hown (own_h hw 110 rfl) (own_wS hw) rfl hS hk1006 (g := (mkF m 56 #[iv p1, iv p2, iv 3, iv 2, iv 1, rv b958, u_, u_, u_, u_, u_] [.null, (.ref b958)])) rfl (hb hby at_56) (n := 4) (by decide) (by decide) (by decide) (by decide)
      have f1015 := Sta.ext E1014 f1007
      have f1016 := Sta.ext E1014 f1008
      have f1017 := Exa.ext E1014 f1009
      have f1018 := Fld.ext E1014 f1010
      have f1019 := f1011.ext E1014
      have f1020 := Exa.ext E1014 q1006_0
      have f1021 := f1013.ext E1014
      have f1022 := Fld.ext E1014 q1006_1
      have f1023 := Fld.ext E1014 q1006_2
      have f1024 := Fld.ext E1014 q1006_3
      have f1025 := Exa.ext E1014 q1006_4
      have f1026 := Fld.ext E1014 q1006_5
      have f1027 := Fld.ext E1014 q1006_6
      have K1014 : Keep h0 h1014 [] := K1006.ext E1014
      have Z1014 := Nat.le_trans Z1006 E1014.1
      refine own_s T1014 (mkF m 58 #[iv p1, iv p2, iv 3, iv 2, iv 1, rv b958, u_, u_, u_, u_, u_] [(.ref sl1014), .null, (.ref b958)]) st1014 ?_
      obtain ⟨sl1028, T1028, h1028, kk1028, X1028, e1028, E1028, hS, hk1028, hZ, hown, st1028⟩ := ldcS (s := s) X1014 hx hZ hown (own_h hw 110 rfl) (own_wS hw) e1014 hS hk1014 (g := (mkF m 58 #[iv p1, iv p2, iv 3, iv 2, iv 1, rv b958, u_, u_, u_, u_, u_] [(.ref sl1014), .null, (.ref b958)])) rfl (hb hby at_58) (n := 4) (by decide) (by decide) (by decide) (by decide)
      have f1029 := Sta.ext E1028 f1015
      have f1030 := Sta.ext E1028 f1016
      have f1031 := Exa.ext E1028 f1017
      have f1032 := Fld.ext E1028 f1018
      have f1033 := f1019.ext E1028
      have f1034 := Exa.ext E1028 f1020
      have f1035 := f1021.ext E1028
      have f1036 := Fld.ext E1028 f1022
      have f1037 := Fld.ext E1028 f1023
      have f1038 := Fld.ext E1028 f1024
      have f1039 := Exa.ext E1028 f1025
      have f1040 := Fld.ext E1028 f1026
      have f1041 := Fld.ext E1028 f1027
      have K1028 : Keep h0 h1028 [] := K1014.ext E1028
      have Z1028 := Nat.le_trans Z1014 E1028.1
      refine own_s T1028 (mkF m 60 #[iv p1, iv p2, iv 3, iv 2, iv 1, rv b958, u_, u_, u_, u_, u_] [(.ref sl1028), (.ref sl1014), .null, (.ref b958)]) st1028 ?_
      refine own_s T1028 (mkF m 62 #[iv p1, iv p2, iv 3, iv 2, iv 1, rv b958, u_, u_, u_, u_, u_] [(.int 0), .null, (.ref sl1028), (.ref sl1014), .null, (.ref b958)]) (fun _ k => XS.aconstNull X1028.here hx rfl (hb hby at_60) (XS.iconst X1028.here hx rfl (hb hby at_61) k)) ?_
      obtain ⟨T1042, h1042, k1042, X1042, e1042, E1042, A1042, O1042, st1042⟩ := newR X1028 hx hZ hown (own_h hw 26 rfl) (own_h hw 11 rfl) e1028 (g := (mkF m 62 #[iv p1, iv p2, iv 3, iv 2, iv 1, rv b958, u_, u_, u_, u_, u_] [(.int 0), .null, (.ref sl1028), (.ref sl1014), .null, (.ref b958)])) rfl (hb hby at_62) rfl (by decide) (cap := 0) (by decide) (by decide) (by decide) (by decide)
      obtain ⟨b1042, g1042⟩ : ∃ z, z = h1028.size := ⟨_, rfl⟩
      have ne_oN_b1042 : oN ≠ b1042 := Nat.ne_of_lt (Nat.lt_of_lt_of_le f1031.lt (Nat.le_of_eq g1042.symm))
      have ne_oE_b1042 : oE ≠ b1042 := Nat.ne_of_lt (Nat.lt_of_lt_of_le f1033.lt (Nat.le_of_eq g1042.symm))
      have ne_b958_b1042 : b958 ≠ b1042 := Nat.ne_of_lt (Nat.lt_of_lt_of_le f1034.lt (Nat.le_of_eq g1042.symm))
      have ne_b996_b1042 : b996 ≠ b1042 := Nat.ne_of_lt (Nat.lt_of_lt_of_le f1035.lt (Nat.le_of_eq g1042.symm))
      have ne_zx1006_b1042 : zx1006 ≠ b1042 := Nat.ne_of_lt (Nat.lt_of_lt_of_le f1039.lt (Nat.le_of_eq g1042.symm))
      have g_b1042 : n0 ≤ b1042 := Nat.le_trans Z1028 (Nat.le_of_eq g1042.symm)
      have sz_b1042 : h0.size ≤ b1042 := Nat.le_trans K1028.1 (Nat.le_of_eq g1042.symm)
      rw [← g1042] at A1042 st1042
      have f1043 := Sta.ext E1042 f1029
      have f1044 := Sta.ext E1042 f1030
      have f1045 := Exa.ext E1042 f1031
      have f1046 := Fld.ext E1042 f1032
      have f1047 := f1033.ext E1042
      have f1048 := Exa.ext E1042 f1034
      have f1049 := f1035.ext E1042
      have f1050 := Fld.ext E1042 f1036
      have f1051 := Fld.ext E1042 f1037
      have f1052 := Fld.ext E1042 f1038
      have f1053 := Exa.ext E1042 f1039
      have f1054 := Fld.ext E1042 f1040
      have f1055 := Fld.ext E1042 f1041
      have K1042 : Keep h0 h1042 [] := K1028.ext E1042
      have Z1042 := Nat.le_trans Z1028 E1042.1
      have hk1042 := Nat.le_trans hk1028 E1042.1
      have f1042 : Arv Z h1042 b1042 k1042 (.object "java/lang/String") 0 [] .null := (Arv.new A1042 (by decide)).pad (pad_rep [] .null 0)
      refine own_s T1042 (mkF m 65 #[iv p1, iv p2, iv 3, iv 2, iv 1, rv b958, u_, u_, u_, u_, u_] [(.ref b1042), .null, (.ref sl1028), (.ref sl1014), .null, (.ref b958)]) st1042 ?_
      refine own_s T1042 (mkF m 66 #[iv p1, iv p2, iv 3, iv 2, iv 1, rv b958, u_, u_, u_, u_, u_] [.null, (.ref b1042), .null, (.ref sl1028), (.ref sl1014), .null, (.ref b958)]) (fun _ k => XS.aconstNull X1042.here hx rfl (hb hby at_65) k) ?_
      obtain ⟨v1056, T1056, L1056, X1056, hQ1056, st1056⟩ := own_callV X1042 hx hZ (y := own_y17) (z := own_y17) (W := 0) (a := b958) hown (own_h hw 27 rfl) (own_h hw 28 rfl) (notFace_of_selects (args := #[]) (mvT hZ (own_h hw 30 rfl))) (own_h hw 30 rfl) (own_h hw 29 rfl) (own_h hw 3 rfl) (own_h hw 31 rfl) (by decide) (own_rmst1_1 l Z a0 hw [] b958 sl1014 sl1028 b1042 zx1006 zx1006 oN oA k1042 .null h1042 n0 Z1042 g_b958 f1048 f1050 f1051 f1052 f1043 f1044 f1042 ne_b958_b1042 g_zx1006 f1053 f1054 f1055 ne_b958_zx1006 ne_zx1006_b1042 rfl) (by decide) (by decide) f1048 (g := (mkF m 66 #[iv p1, iv p2, iv 3, iv 2, iv 1, rv b958, u_, u_, u_, u_, u_] [.null, (.ref b1042), .null, (.ref sl1028), (.ref sl1014), .null, (.ref b958)])) rfl (by rw [hml]; rfl) (argsL := [.null, (.ref sl1014), (.ref sl1028), .null, (.ref b1042), .null]) (rest := []) rfl (lenOf own_pd12 rfl) rfl (by show 2 * 0 + _ ≤ _; exact Nat.le_of_eq rfl) (hb hby at_66) e1042 (by decide) (by decide)
      obtain ⟨zx1056, zli1056, zd1056, zkd1056, rfl, Nq1056, Kq1056, g_zx1056, sq_zx1056, g_zli1056, sq_zli1056, g_zd1056, sq_zd1056, q1056_0, q1056_1, q1056_2, q1056_3, q1056_4, q1056_5, q1056_6, q1056_7, q1056_8, q1056_9, q1056_10, q1056_11, q1056_12, q1056_13, q1056_14, q1056_15, q1056_16, q1056_17, q1056_18⟩ := hQ1056
      have N1056 := Fr.app N1006 Nq1056
      have ne_oN_zx1056 : oN ≠ zx1056 := Nat.ne_of_lt (Nat.lt_of_lt_of_le f1045.lt sq_zx1056)
      have ne_oN_zli1056 : oN ≠ zli1056 := Nat.ne_of_lt (Nat.lt_of_lt_of_le f1045.lt sq_zli1056)
      have ne_oN_zd1056 : oN ≠ zd1056 := Nat.ne_of_lt (Nat.lt_of_lt_of_le f1045.lt sq_zd1056)
      have ne_oE_zx1056 : oE ≠ zx1056 := Nat.ne_of_lt (Nat.lt_of_lt_of_le f1047.lt sq_zx1056)
      have ne_oE_zli1056 : oE ≠ zli1056 := Nat.ne_of_lt (Nat.lt_of_lt_of_le f1047.lt sq_zli1056)
      have ne_oE_zd1056 : oE ≠ zd1056 := Nat.ne_of_lt (Nat.lt_of_lt_of_le f1047.lt sq_zd1056)
      have ne_b958_zx1056 : b958 ≠ zx1056 := Nat.ne_of_lt (Nat.lt_of_lt_of_le f1048.lt sq_zx1056)
      have ne_b958_zli1056 : b958 ≠ zli1056 := Nat.ne_of_lt (Nat.lt_of_lt_of_le f1048.lt sq_zli1056)
      have ne_b958_zd1056 : b958 ≠ zd1056 := Nat.ne_of_lt (Nat.lt_of_lt_of_le f1048.lt sq_zd1056)
      have ne_b996_zx1056 : b996 ≠ zx1056 := Nat.ne_of_lt (Nat.lt_of_lt_of_le f1049.lt sq_zx1056)
      have ne_b996_zli1056 : b996 ≠ zli1056 := Nat.ne_of_lt (Nat.lt_of_lt_of_le f1049.lt sq_zli1056)
      have ne_b996_zd1056 : b996 ≠ zd1056 := Nat.ne_of_lt (Nat.lt_of_lt_of_le f1049.lt sq_zd1056)
      have ne_zx1006_zx1056 : zx1006 ≠ zx1056 := Nat.ne_of_lt (Nat.lt_of_lt_of_le f1053.lt sq_zx1056)
      have ne_zx1006_zli1056 : zx1006 ≠ zli1056 := Nat.ne_of_lt (Nat.lt_of_lt_of_le f1053.lt sq_zli1056)
      have ne_zx1006_zd1056 : zx1006 ≠ zd1056 := Nat.ne_of_lt (Nat.lt_of_lt_of_le f1053.lt sq_zd1056)
      have ne_b1042_zx1056 : b1042 ≠ zx1056 := Nat.ne_of_lt (Nat.lt_of_lt_of_le f1042.lt sq_zx1056)
      have ne_b1042_zli1056 : b1042 ≠ zli1056 := Nat.ne_of_lt (Nat.lt_of_lt_of_le f1042.lt sq_zli1056)
      have ne_b1042_zd1056 : b1042 ≠ zd1056 := Nat.ne_of_lt (Nat.lt_of_lt_of_le f1042.lt sq_zd1056)
      have sz_zx1056 : h0.size ≤ zx1056 := Nat.le_trans K1042.1 sq_zx1056
      have sz_zli1056 : h0.size ≤ zli1056 := Nat.le_trans K1042.1 sq_zli1056
      have sz_zd1056 : h0.size ≤ zd1056 := Nat.le_trans K1042.1 sq_zd1056
      have f1057 := own_staKeepW f1043 Kq1056 (allS f1048.nostat (allS f1053.nostat all0))
      have f1058 := own_staKeepW f1044 Kq1056 (allS f1048.nostat (allS f1053.nostat all0))
      have f1059 := f1045.keep Kq1056
      have f1060 := f1046.keep Kq1056 (ninS ne_oN_b958 (ninS ne_oN_zx1006 nin0))
      have f1061 := f1047.keep Kq1056 (ninS ne_oE_b958 (ninS ne_oE_zx1006 nin0))
      have f1062 := f1048.keep Kq1056
      have f1063 := f1049.keep Kq1056 (ninS (Ne.symm ne_b958_b996) (ninS ne_b996_zx1006 nin0))
      have f1064 := f1053.keep Kq1056
      have f1065 := f1042.keep Kq1056 (ninS (Ne.symm ne_b958_b1042) (ninS (Ne.symm ne_zx1006_b1042) nin0))
      have K1056 : Keep h0 T1056.heap [] := K1042.trans Kq1056 (allS (Or.inr sz_b958) (allS (Or.inr sz_zx1006) all0))
      have Z1056 := Nat.le_trans Z1042 Kq1056.1
      have hk1056 := Nat.le_trans hk1042 Kq1056.1
      refine own_s T1056 (mkF m 69 #[iv p1, iv p2, iv 3, iv 2, iv 1, rv b958, u_, u_, u_, u_, u_] []) st1056 ?_
      refine own_s T1056 (mkF m 77 #[iv p1, iv p2, iv 3, iv 2, iv 1, rv b958, u_, u_, u_, u_, u_] [.null, (.ref b958)]) (fun _ k => XS.iloadN X1056.here hx rfl (hb hby at_69) rfl  (XS.iconst X1056.here hx rfl (hb hby at_70) (XS.icmpNo X1056.here hx rfl (hb hby at_71) rfl (flt (by decide : ¬ ((3 : Int32) < (3 : Int32)))).1 (XS.aload X1056.here hx rfl (hb hby at_74) rfl rfl (XS.aconstNull X1056.here hx rfl (hb hby at_76) k))))) ?_
      obtain ⟨sl1066, T1066, h1066, kk1066, X1066, e1066, E1066, hS, hk1066, hZ, hown, st1066⟩ := ldcS (s := s) X1056 hx hZ hown (own_h hw 165 rfl) (own_wS hw) rfl hS hk1056 (g := (mkF m 77 #[iv p1, iv p2, iv 3, iv 2, iv 1, rv b958, u_, u_, u_, u_, u_] [.null, (.ref b958)])) rfl (hb hby at_77) (n := 4) (by decide) (by decide) (by decide) (by decide)
      have f1067 := Sta.ext E1066 f1057
      have f1068 := Sta.ext E1066 f1058
      have f1069 := Exa.ext E1066 f1059
      have f1070 := Fld.ext E1066 f1060
      have f1071 := f1061.ext E1066
      have f1072 := Exa.ext E1066 q1056_0
      have f1073 := f1063.ext E1066
      have f1074 := Exa.ext E1066 q1056_7
      have f1075 := f1065.ext E1066
      have f1076 := Fld.ext E1066 q1056_1
      have f1077 := Fld.ext E1066 q1056_2
      have f1078 := Fld.ext E1066 q1056_3
      have f1079 := Exa.ext E1066 q1056_4
      have f1080 := Fld.ext E1066 q1056_5
      have f1081 := Fld.ext E1066 q1056_6
      have f1082 := Fld.ext E1066 q1056_8
      have f1083 := Fld.ext E1066 q1056_9
      have f1084 := Exa.ext E1066 q1056_10
      have f1085 := Fld.ext E1066 q1056_11
      have f1086 := Fld.ext E1066 q1056_12
      have f1087 := Fld.ext E1066 q1056_13
      have f1088 := q1056_14.ext E1066
      have K1066 : Keep h0 h1066 [] := K1056.ext E1066
      have Z1066 := Nat.le_trans Z1056 E1066.1
      refine own_s T1066 (mkF m 79 #[iv p1, iv p2, iv 3, iv 2, iv 1, rv b958, u_, u_, u_, u_, u_] [(.ref sl1066), .null, (.ref b958)]) st1066 ?_
      obtain ⟨sl1089, T1089, h1089, kk1089, X1089, e1089, E1089, hS, hk1089, hZ, hown, st1089⟩ := ldcS (s := s) X1066 hx hZ hown (own_h hw 165 rfl) (own_wS hw) e1066 hS hk1066 (g := (mkF m 79 #[iv p1, iv p2, iv 3, iv 2, iv 1, rv b958, u_, u_, u_, u_, u_] [(.ref sl1066), .null, (.ref b958)])) rfl (hb hby at_79) (n := 4) (by decide) (by decide) (by decide) (by decide)
      have f1090 := Sta.ext E1089 f1067
      have f1091 := Sta.ext E1089 f1068
      have f1092 := Exa.ext E1089 f1069
      have f1093 := Fld.ext E1089 f1070
      have f1094 := f1071.ext E1089
      have f1095 := Exa.ext E1089 f1072
      have f1096 := f1073.ext E1089
      have f1097 := Exa.ext E1089 f1074
      have f1098 := f1075.ext E1089
      have f1099 := Fld.ext E1089 f1076
      have f1100 := Fld.ext E1089 f1077
      have f1101 := Fld.ext E1089 f1078
      have f1102 := Exa.ext E1089 f1079
      have f1103 := Fld.ext E1089 f1080
      have f1104 := Fld.ext E1089 f1081
      have f1105 := Fld.ext E1089 f1082
      have f1106 := Fld.ext E1089 f1083
      have f1107 := Exa.ext E1089 f1084
      have f1108 := Fld.ext E1089 f1085
      have f1109 := Fld.ext E1089 f1086
      have f1110 := Fld.ext E1089 f1087
      have f1111 := f1088.ext E1089
      have K1089 : Keep h0 h1089 [] := K1066.ext E1089
      have Z1089 := Nat.le_trans Z1066 E1089.1
      refine own_s T1089 (mkF m 81 #[iv p1, iv p2, iv 3, iv 2, iv 1, rv b958, u_, u_, u_, u_, u_] [(.ref sl1089), (.ref sl1066), .null, (.ref b958)]) st1089 ?_
      refine own_s T1089 (mkF m 83 #[iv p1, iv p2, iv 3, iv 2, iv 1, rv b958, u_, u_, u_, u_, u_] [(.int 0), .null, (.ref sl1089), (.ref sl1066), .null, (.ref b958)]) (fun _ k => XS.aconstNull X1089.here hx rfl (hb hby at_81) (XS.iconst X1089.here hx rfl (hb hby at_82) k)) ?_
      obtain ⟨T1112, h1112, k1112, X1112, e1112, E1112, A1112, O1112, st1112⟩ := newR X1089 hx hZ hown (own_h hw 26 rfl) (own_h hw 11 rfl) e1089 (g := (mkF m 83 #[iv p1, iv p2, iv 3, iv 2, iv 1, rv b958, u_, u_, u_, u_, u_] [(.int 0), .null, (.ref sl1089), (.ref sl1066), .null, (.ref b958)])) rfl (hb hby at_83) rfl (by decide) (cap := 0) (by decide) (by decide) (by decide) (by decide)
      obtain ⟨b1112, g1112⟩ : ∃ z, z = h1089.size := ⟨_, rfl⟩
      have ne_oN_b1112 : oN ≠ b1112 := Nat.ne_of_lt (Nat.lt_of_lt_of_le f1092.lt (Nat.le_of_eq g1112.symm))
      have ne_oE_b1112 : oE ≠ b1112 := Nat.ne_of_lt (Nat.lt_of_lt_of_le f1094.lt (Nat.le_of_eq g1112.symm))
      have ne_b958_b1112 : b958 ≠ b1112 := Nat.ne_of_lt (Nat.lt_of_lt_of_le f1095.lt (Nat.le_of_eq g1112.symm))
      have ne_b996_b1112 : b996 ≠ b1112 := Nat.ne_of_lt (Nat.lt_of_lt_of_le f1096.lt (Nat.le_of_eq g1112.symm))
      have ne_zx1006_b1112 : zx1006 ≠ b1112 := Nat.ne_of_lt (Nat.lt_of_lt_of_le f1097.lt (Nat.le_of_eq g1112.symm))
      have ne_b1042_b1112 : b1042 ≠ b1112 := Nat.ne_of_lt (Nat.lt_of_lt_of_le f1098.lt (Nat.le_of_eq g1112.symm))
      have ne_zx1056_b1112 : zx1056 ≠ b1112 := Nat.ne_of_lt (Nat.lt_of_lt_of_le f1102.lt (Nat.le_of_eq g1112.symm))
      have ne_zli1056_b1112 : zli1056 ≠ b1112 := Nat.ne_of_lt (Nat.lt_of_lt_of_le f1107.lt (Nat.le_of_eq g1112.symm))
      have ne_zd1056_b1112 : zd1056 ≠ b1112 := Nat.ne_of_lt (Nat.lt_of_lt_of_le f1111.lt (Nat.le_of_eq g1112.symm))
      have g_b1112 : n0 ≤ b1112 := Nat.le_trans Z1089 (Nat.le_of_eq g1112.symm)
      have sz_b1112 : h0.size ≤ b1112 := Nat.le_trans K1089.1 (Nat.le_of_eq g1112.symm)
      rw [← g1112] at A1112 st1112
      have f1113 := Sta.ext E1112 f1090
      have f1114 := Sta.ext E1112 f1091
      have f1115 := Exa.ext E1112 f1092
      have f1116 := Fld.ext E1112 f1093
      have f1117 := f1094.ext E1112
      have f1118 := Exa.ext E1112 f1095
      have f1119 := f1096.ext E1112
      have f1120 := Exa.ext E1112 f1097
      have f1121 := f1098.ext E1112
      have f1122 := Fld.ext E1112 f1099
      have f1123 := Fld.ext E1112 f1100
      have f1124 := Fld.ext E1112 f1101
      have f1125 := Exa.ext E1112 f1102
      have f1126 := Fld.ext E1112 f1103
      have f1127 := Fld.ext E1112 f1104
      have f1128 := Fld.ext E1112 f1105
      have f1129 := Fld.ext E1112 f1106
      have f1130 := Exa.ext E1112 f1107
      have f1131 := Fld.ext E1112 f1108
      have f1132 := Fld.ext E1112 f1109
      have f1133 := Fld.ext E1112 f1110
      have f1134 := f1111.ext E1112
      have K1112 : Keep h0 h1112 [] := K1089.ext E1112
      have Z1112 := Nat.le_trans Z1089 E1112.1
      have hk1112 := Nat.le_trans hk1089 E1112.1
      have f1112 : Arv Z h1112 b1112 k1112 (.object "java/lang/String") 0 [] .null := (Arv.new A1112 (by decide)).pad (pad_rep [] .null 0)
      refine own_s T1112 (mkF m 86 #[iv p1, iv p2, iv 3, iv 2, iv 1, rv b958, u_, u_, u_, u_, u_] [(.ref b1112), .null, (.ref sl1089), (.ref sl1066), .null, (.ref b958)]) st1112 ?_
      refine own_s T1112 (mkF m 87 #[iv p1, iv p2, iv 3, iv 2, iv 1, rv b958, u_, u_, u_, u_, u_] [.null, (.ref b1112), .null, (.ref sl1089), (.ref sl1066), .null, (.ref b958)]) (fun _ k => XS.aconstNull X1112.here hx rfl (hb hby at_86) k) ?_
      obtain ⟨v1135, T1135, L1135, X1135, hQ1135, st1135⟩ := own_callV X1112 hx hZ (y := own_y17) (z := own_y17) (W := 0) (a := b958) hown (own_h hw 27 rfl) (own_h hw 28 rfl) (notFace_of_selects (args := #[]) (mvT hZ (own_h hw 30 rfl))) (own_h hw 30 rfl) (own_h hw 29 rfl) (own_h hw 3 rfl) (own_h hw 31 rfl) (by decide) (own_rmst1_2 l Z a0 hw [] b958 sl1066 sl1089 b1112 zx1056 zx1006 oN oA k1112 (.ref zx1006) h1112 n0 Z1112 g_b958 f1118 f1122 f1123 f1124 f1113 f1114 f1112 ne_b958_b1112 g_zx1056 f1125 f1126 f1127 ne_b958_zx1056 ne_zx1056_b1112 rfl) (by decide) (by decide) f1118 (g := (mkF m 87 #[iv p1, iv p2, iv 3, iv 2, iv 1, rv b958, u_, u_, u_, u_, u_] [.null, (.ref b1112), .null, (.ref sl1089), (.ref sl1066), .null, (.ref b958)])) rfl (by rw [hml]; rfl) (argsL := [.null, (.ref sl1066), (.ref sl1089), .null, (.ref b1112), .null]) (rest := []) rfl (lenOf own_pd12 rfl) rfl (by show 2 * 0 + _ ≤ _; exact Nat.le_of_eq rfl) (hb hby at_87) e1112 (by decide) (by decide)
      obtain ⟨zx1135, zli1135, zd1135, zkd1135, rfl, Nq1135, Kq1135, g_zx1135, sq_zx1135, g_zli1135, sq_zli1135, g_zd1135, sq_zd1135, q1135_0, q1135_1, q1135_2, q1135_3, q1135_4, q1135_5, q1135_6, q1135_7, q1135_8, q1135_9, q1135_10, q1135_11, q1135_12, q1135_13, q1135_14, q1135_15, q1135_16, q1135_17, q1135_18⟩ := hQ1135
      have N1135 := Fr.app N1056 Nq1135
      have ne_oN_zx1135 : oN ≠ zx1135 := Nat.ne_of_lt (Nat.lt_of_lt_of_le f1115.lt sq_zx1135)
      have ne_oN_zli1135 : oN ≠ zli1135 := Nat.ne_of_lt (Nat.lt_of_lt_of_le f1115.lt sq_zli1135)
      have ne_oN_zd1135 : oN ≠ zd1135 := Nat.ne_of_lt (Nat.lt_of_lt_of_le f1115.lt sq_zd1135)
      have ne_oE_zx1135 : oE ≠ zx1135 := Nat.ne_of_lt (Nat.lt_of_lt_of_le f1117.lt sq_zx1135)
      have ne_oE_zli1135 : oE ≠ zli1135 := Nat.ne_of_lt (Nat.lt_of_lt_of_le f1117.lt sq_zli1135)
      have ne_oE_zd1135 : oE ≠ zd1135 := Nat.ne_of_lt (Nat.lt_of_lt_of_le f1117.lt sq_zd1135)
      have ne_b958_zx1135 : b958 ≠ zx1135 := Nat.ne_of_lt (Nat.lt_of_lt_of_le f1118.lt sq_zx1135)
      have ne_b958_zli1135 : b958 ≠ zli1135 := Nat.ne_of_lt (Nat.lt_of_lt_of_le f1118.lt sq_zli1135)
      have ne_b958_zd1135 : b958 ≠ zd1135 := Nat.ne_of_lt (Nat.lt_of_lt_of_le f1118.lt sq_zd1135)
      have ne_b996_zx1135 : b996 ≠ zx1135 := Nat.ne_of_lt (Nat.lt_of_lt_of_le f1119.lt sq_zx1135)
      have ne_b996_zli1135 : b996 ≠ zli1135 := Nat.ne_of_lt (Nat.lt_of_lt_of_le f1119.lt sq_zli1135)
      have ne_b996_zd1135 : b996 ≠ zd1135 := Nat.ne_of_lt (Nat.lt_of_lt_of_le f1119.lt sq_zd1135)
      have ne_zx1006_zx1135 : zx1006 ≠ zx1135 := Nat.ne_of_lt (Nat.lt_of_lt_of_le f1120.lt sq_zx1135)
      have ne_zx1006_zli1135 : zx1006 ≠ zli1135 := Nat.ne_of_lt (Nat.lt_of_lt_of_le f1120.lt sq_zli1135)
      have ne_zx1006_zd1135 : zx1006 ≠ zd1135 := Nat.ne_of_lt (Nat.lt_of_lt_of_le f1120.lt sq_zd1135)
      have ne_b1042_zx1135 : b1042 ≠ zx1135 := Nat.ne_of_lt (Nat.lt_of_lt_of_le f1121.lt sq_zx1135)
      have ne_b1042_zli1135 : b1042 ≠ zli1135 := Nat.ne_of_lt (Nat.lt_of_lt_of_le f1121.lt sq_zli1135)
      have ne_b1042_zd1135 : b1042 ≠ zd1135 := Nat.ne_of_lt (Nat.lt_of_lt_of_le f1121.lt sq_zd1135)
      have ne_zx1056_zx1135 : zx1056 ≠ zx1135 := Nat.ne_of_lt (Nat.lt_of_lt_of_le f1125.lt sq_zx1135)
      have ne_zx1056_zli1135 : zx1056 ≠ zli1135 := Nat.ne_of_lt (Nat.lt_of_lt_of_le f1125.lt sq_zli1135)
      have ne_zx1056_zd1135 : zx1056 ≠ zd1135 := Nat.ne_of_lt (Nat.lt_of_lt_of_le f1125.lt sq_zd1135)
      have ne_zli1056_zx1135 : zli1056 ≠ zx1135 := Nat.ne_of_lt (Nat.lt_of_lt_of_le f1130.lt sq_zx1135)
      have ne_zli1056_zli1135 : zli1056 ≠ zli1135 := Nat.ne_of_lt (Nat.lt_of_lt_of_le f1130.lt sq_zli1135)
      have ne_zli1056_zd1135 : zli1056 ≠ zd1135 := Nat.ne_of_lt (Nat.lt_of_lt_of_le f1130.lt sq_zd1135)
      have ne_zd1056_zx1135 : zd1056 ≠ zx1135 := Nat.ne_of_lt (Nat.lt_of_lt_of_le f1134.lt sq_zx1135)
      have ne_zd1056_zli1135 : zd1056 ≠ zli1135 := Nat.ne_of_lt (Nat.lt_of_lt_of_le f1134.lt sq_zli1135)
      have ne_zd1056_zd1135 : zd1056 ≠ zd1135 := Nat.ne_of_lt (Nat.lt_of_lt_of_le f1134.lt sq_zd1135)
      have ne_b1112_zx1135 : b1112 ≠ zx1135 := Nat.ne_of_lt (Nat.lt_of_lt_of_le f1112.lt sq_zx1135)
      have ne_b1112_zli1135 : b1112 ≠ zli1135 := Nat.ne_of_lt (Nat.lt_of_lt_of_le f1112.lt sq_zli1135)
      have ne_b1112_zd1135 : b1112 ≠ zd1135 := Nat.ne_of_lt (Nat.lt_of_lt_of_le f1112.lt sq_zd1135)
      have sz_zx1135 : h0.size ≤ zx1135 := Nat.le_trans K1112.1 sq_zx1135
      have sz_zli1135 : h0.size ≤ zli1135 := Nat.le_trans K1112.1 sq_zli1135
      have sz_zd1135 : h0.size ≤ zd1135 := Nat.le_trans K1112.1 sq_zd1135
      have f1136 := own_staKeepW f1113 Kq1135 (allS f1118.nostat (allS f1125.nostat all0))
      have f1137 := own_staKeepW f1114 Kq1135 (allS f1118.nostat (allS f1125.nostat all0))
      have f1138 := f1115.keep Kq1135
      have f1139 := f1116.keep Kq1135 (ninS ne_oN_b958 (ninS ne_oN_zx1056 nin0))
      have f1140 := f1117.keep Kq1135 (ninS ne_oE_b958 (ninS ne_oE_zx1056 nin0))
      have f1141 := f1118.keep Kq1135
      have f1142 := f1119.keep Kq1135 (ninS (Ne.symm ne_b958_b996) (ninS ne_b996_zx1056 nin0))
      have f1143 := f1120.keep Kq1135
      have f1144 := f1121.keep Kq1135 (ninS (Ne.symm ne_b958_b1042) (ninS ne_b1042_zx1056 nin0))
      have f1145 := f1125.keep Kq1135
      have f1146 := f1128.keep Kq1135 (ninS (Ne.symm ne_b958_zx1006) (ninS ne_zx1006_zx1056 nin0))
      have f1147 := f1129.keep Kq1135 (ninS (Ne.symm ne_b958_zx1006) (ninS ne_zx1006_zx1056 nin0))
      have f1148 := f1130.keep Kq1135
      have f1149 := f1131.keep Kq1135 (ninS (Ne.symm ne_b958_zli1056) (ninS (Ne.symm q1056_17) nin0))
      have f1150 := f1132.keep Kq1135 (ninS (Ne.symm ne_b958_zli1056) (ninS (Ne.symm q1056_17) nin0))
      have f1151 := f1133.keep Kq1135 (ninS (Ne.symm ne_b958_zli1056) (ninS (Ne.symm q1056_17) nin0))
      have f1152 := f1134.keep Kq1135 (ninS (Ne.symm ne_b958_zd1056) (ninS (Ne.symm q1056_18) nin0))
      have f1153 := f1112.keep Kq1135 (ninS (Ne.symm ne_b958_b1112) (ninS (Ne.symm ne_zx1056_b1112) nin0))
      have K1135 : Keep h0 T1135.heap [] := K1112.trans Kq1135 (allS (Or.inr sz_b958) (allS (Or.inr sz_zx1056) all0))
      have Z1135 := Nat.le_trans Z1112 Kq1135.1
      have hk1135 := Nat.le_trans hk1112 Kq1135.1
      refine own_s T1135 (mkF m 90 #[iv p1, iv p2, iv 3, iv 2, iv 1, rv b958, u_, u_, u_, u_, u_] []) st1135 ?_
      refine own_s T1135 (mkF m 92 #[iv p1, iv p2, iv 3, iv 2, iv 1, rv b958, u_, u_, u_, u_, u_] [(.ref b958)]) (fun _ k => XS.aload X1135.here hx rfl (hb hby at_90) rfl rfl k) ?_
      obtain ⟨v1154, T1154, L1154, X1154, hQ1154, st1154⟩ := own_callV X1135 hx hZ (y := own_y22) (z := own_y22) (W := 0) (a := b958) hown (own_h hw 72 rfl) (own_h hw 73 rfl) (notFace_of_selects (args := #[]) (mvT hZ (own_h hw 75 rfl))) (own_h hw 75 rfl) (own_h hw 74 rfl) (own_h hw 3 rfl) (own_h hw 76 rfl) (by decide) (own_rmend3 l Z a0 hw [] b958 zx1135 zx1006 (.ref zx1056) T1135.heap n0 Z1135 g_b958 q1135_0 q1135_1 q1135_2 q1135_3 q1135_4 q1135_6 ne_b958_zx1135 rfl) (by decide) (by decide) q1135_0 (g := (mkF m 92 #[iv p1, iv p2, iv 3, iv 2, iv 1, rv b958, u_, u_, u_, u_, u_] [(.ref b958)])) rfl (by rw [hml]; rfl) (argsL := []) (rest := []) rfl (lenOf own_pd0 rfl) rfl (by show 2 * 0 + _ ≤ _; exact Nat.le_of_eq rfl) (hb hby at_92) rfl (by decide) (by decide)
      obtain ⟨rfl, Nq1154, Kq1154, q1154_0, q1154_1, q1154_2, q1154_3⟩ := hQ1154
      have N1154 := Fr.app N1135 Nq1154
      have f1155 := own_staKeepW f1136 Kq1154 (allS q1135_0.nostat all0)
      have f1156 := own_staKeepW f1137 Kq1154 (allS q1135_0.nostat all0)
      have f1157 := f1138.keep Kq1154
      have f1158 := f1139.keep Kq1154 (ninS ne_oN_b958 nin0)
      have f1159 := f1140.keep Kq1154 (ninS ne_oE_b958 nin0)
      have f1160 := q1135_0.keep Kq1154
      have f1161 := f1142.keep Kq1154 (ninS (Ne.symm ne_b958_b996) nin0)
      have f1162 := f1143.keep Kq1154
      have f1163 := f1144.keep Kq1154 (ninS (Ne.symm ne_b958_b1042) nin0)
      have f1164 := q1135_7.keep Kq1154
      have f1165 := f1146.keep Kq1154 (ninS (Ne.symm ne_b958_zx1006) nin0)
      have f1166 := f1147.keep Kq1154 (ninS (Ne.symm ne_b958_zx1006) nin0)
      have f1167 := f1148.keep Kq1154
      have f1168 := f1149.keep Kq1154 (ninS (Ne.symm ne_b958_zli1056) nin0)
      have f1169 := f1150.keep Kq1154 (ninS (Ne.symm ne_b958_zli1056) nin0)
      have f1170 := f1151.keep Kq1154 (ninS (Ne.symm ne_b958_zli1056) nin0)
      have f1171 := f1152.keep Kq1154 (ninS (Ne.symm ne_b958_zd1056) nin0)
      have f1172 := f1153.keep Kq1154 (ninS (Ne.symm ne_b958_b1112) nin0)
      have f1173 := q1135_4.keep Kq1154
      have f1174 := q1135_5.keep Kq1154 (ninS (Ne.symm ne_b958_zx1135) nin0)
      have f1175 := q1135_6.keep Kq1154 (ninS (Ne.symm ne_b958_zx1135) nin0)
      have f1176 := q1135_8.keep Kq1154 (ninS (Ne.symm ne_b958_zx1056) nin0)
      have f1177 := q1135_9.keep Kq1154 (ninS (Ne.symm ne_b958_zx1056) nin0)
      have f1178 := q1135_10.keep Kq1154
      have f1179 := q1135_11.keep Kq1154 (ninS (Ne.symm ne_b958_zli1135) nin0)
      have f1180 := q1135_12.keep Kq1154 (ninS (Ne.symm ne_b958_zli1135) nin0)
      have f1181 := q1135_13.keep Kq1154 (ninS (Ne.symm ne_b958_zli1135) nin0)
      have f1182 := q1135_14.keep Kq1154 (ninS (Ne.symm ne_b958_zd1135) nin0)
      have K1154 : Keep h0 T1154.heap [] := K1135.trans Kq1154 (allS (Or.inr sz_b958) all0)
      have Z1154 := Nat.le_trans Z1135 Kq1154.1
      have hk1154 := Nat.le_trans hk1135 Kq1154.1
      refine own_s T1154 (mkF m 95 #[iv p1, iv p2, iv 3, iv 2, iv 1, rv b958, u_, u_, u_, u_, u_] []) st1154 ?_
      refine own_s T1154 (mkF m 102 #[iv p1, iv p2, iv 3, iv 2, iv 1, rv b958, u_, u_, u_, u_, u_] [(.ref b958)]) (fun _ k => XS.iloadN X1154.here hx rfl (hb hby at_95) rfl  (XS.iconst X1154.here hx rfl (hb hby at_96) (XS.icmpNo X1154.here hx rfl (hb hby at_97) rfl (flt (by decide : ¬ ((2 : Int32) < (2 : Int32)))).1 (XS.aload X1154.here hx rfl (hb hby at_100) rfl rfl k)))) ?_
      obtain ⟨v1183, T1183, L1183, X1183, hQ1183, st1183⟩ := own_callV X1154 hx hZ (y := own_y22) (z := own_y22) (W := 0) (a := b958) hown (own_h hw 72 rfl) (own_h hw 73 rfl) (notFace_of_selects (args := #[]) (mvT hZ (own_h hw 75 rfl))) (own_h hw 75 rfl) (own_h hw 74 rfl) (own_h hw 3 rfl) (own_h hw 76 rfl) (by decide) (own_rmend2 l Z a0 hw [] b958 zx1056 zx1006 (.ref zx1006) T1154.heap n0 Z1154 g_b958 q1154_0 q1154_1 q1154_2 q1154_3 f1164 f1177 ne_b958_zx1056 rfl) (by decide) (by decide) q1154_0 (g := (mkF m 102 #[iv p1, iv p2, iv 3, iv 2, iv 1, rv b958, u_, u_, u_, u_, u_] [(.ref b958)])) rfl (by rw [hml]; rfl) (argsL := []) (rest := []) rfl (lenOf own_pd0 rfl) rfl (by show 2 * 0 + _ ≤ _; exact Nat.le_of_eq rfl) (hb hby at_102) rfl (by decide) (by decide)
      obtain ⟨rfl, Nq1183, Kq1183, q1183_0, q1183_1, q1183_2, q1183_3⟩ := hQ1183
      have N1183 := Fr.app N1154 Nq1183
      have f1184 := own_staKeepW f1155 Kq1183 (allS q1154_0.nostat all0)
      have f1185 := own_staKeepW f1156 Kq1183 (allS q1154_0.nostat all0)
      have f1186 := f1157.keep Kq1183
      have f1187 := f1158.keep Kq1183 (ninS ne_oN_b958 nin0)
      have f1188 := f1159.keep Kq1183 (ninS ne_oE_b958 nin0)
      have f1189 := q1154_0.keep Kq1183
      have f1190 := f1161.keep Kq1183 (ninS (Ne.symm ne_b958_b996) nin0)
      have f1191 := f1162.keep Kq1183
      have f1192 := f1163.keep Kq1183 (ninS (Ne.symm ne_b958_b1042) nin0)
      have f1193 := f1164.keep Kq1183
      have f1194 := f1165.keep Kq1183 (ninS (Ne.symm ne_b958_zx1006) nin0)
      have f1195 := f1166.keep Kq1183 (ninS (Ne.symm ne_b958_zx1006) nin0)
      have f1196 := f1167.keep Kq1183
      have f1197 := f1168.keep Kq1183 (ninS (Ne.symm ne_b958_zli1056) nin0)
      have f1198 := f1169.keep Kq1183 (ninS (Ne.symm ne_b958_zli1056) nin0)
      have f1199 := f1170.keep Kq1183 (ninS (Ne.symm ne_b958_zli1056) nin0)
      have f1200 := f1171.keep Kq1183 (ninS (Ne.symm ne_b958_zd1056) nin0)
      have f1201 := f1172.keep Kq1183 (ninS (Ne.symm ne_b958_b1112) nin0)
      have f1202 := f1173.keep Kq1183
      have f1203 := f1174.keep Kq1183 (ninS (Ne.symm ne_b958_zx1135) nin0)
      have f1204 := f1175.keep Kq1183 (ninS (Ne.symm ne_b958_zx1135) nin0)
      have f1205 := f1176.keep Kq1183 (ninS (Ne.symm ne_b958_zx1056) nin0)
      have f1206 := f1177.keep Kq1183 (ninS (Ne.symm ne_b958_zx1056) nin0)
      have f1207 := f1178.keep Kq1183
      have f1208 := f1179.keep Kq1183 (ninS (Ne.symm ne_b958_zli1135) nin0)
      have f1209 := f1180.keep Kq1183 (ninS (Ne.symm ne_b958_zli1135) nin0)
      have f1210 := f1181.keep Kq1183 (ninS (Ne.symm ne_b958_zli1135) nin0)
      have f1211 := f1182.keep Kq1183 (ninS (Ne.symm ne_b958_zd1135) nin0)
      have K1183 : Keep h0 T1183.heap [] := K1154.trans Kq1183 (allS (Or.inr sz_b958) all0)
      have Z1183 := Nat.le_trans Z1154 Kq1183.1
      have hk1183 := Nat.le_trans hk1154 Kq1183.1
      refine own_s T1183 (mkF m 105 #[iv p1, iv p2, iv 3, iv 2, iv 1, rv b958, u_, u_, u_, u_, u_] []) st1183 ?_
      refine own_s T1183 (mkF m 117 #[iv p1, iv p2, iv 3, iv 2, iv 1, rv b958, u_, u_, u_, u_, u_] [(.ref b958)]) (fun _ k => XS.iloadN X1183.here hx rfl (hb hby at_105) rfl  (XS.iconst X1183.here hx rfl (hb hby at_106) (XS.icmpYes X1183.here hx rfl (pc0 := 107) (pc' := 115) rfl (hb hby at_107) rfl (tlt (by decide : ((2 : Int32) < (3 : Int32)))).1 (by decide) (by decide) (XS.aload X1183.here hx rfl (hb hby at_115) rfl rfl k)))) ?_
      obtain ⟨v1212, T1212, L1212, X1212, hQ1212, st1212⟩ := own_callV X1183 hx hZ (y := own_y20) (z := own_y20) (W := 0) (a := b958) hown (own_h hw 82 rfl) (own_h hw 83 rfl) (notFace_of_selects (args := #[]) (mvT hZ (own_h hw 85 rfl))) (own_h hw 85 rfl) (own_h hw 84 rfl) (own_h hw 3 rfl) (own_h hw 86 rfl) (by decide) (own_rmgdp l Z a0 hw [] b958 (1 : Int32) T1183.heap n0 Z1183 q1183_3) (by decide) (by decide) q1183_0 (g := (mkF m 117 #[iv p1, iv p2, iv 3, iv 2, iv 1, rv b958, u_, u_, u_, u_, u_] [(.ref b958)])) rfl (by rw [hml]; rfl) (argsL := []) (rest := []) rfl (lenOf own_pd7 rfl) rfl (by show 2 * 0 + _ ≤ _; exact Nat.le_of_eq rfl) (hb hby at_117) rfl (by decide) (by decide)
      obtain ⟨rfl, Nq1212, e1212⟩ := hQ1212
      have N1212 := Fr.app N1183 Nq1212
      refine own_s T1212 (mkF m 120 #[iv p1, iv p2, iv 3, iv 2, iv 1, rv b958, u_, u_, u_, u_, u_] [(.int 1)]) st1212 ?_
      refine own_s T1212 (mkF m 132 #[iv p1, iv p2, iv 3, iv 2, iv 1, rv b958, iv 1, u_, u_, u_, u_] []) (fun _ k => XS.iload X1212.here hx rfl (hb hby at_120) rfl  (XS.icmpNo X1212.here hx rfl (hb hby at_122) rfl (teq (by decide : ((1 : Int32) = (1 : Int32)))).2 (XS.iconst X1212.here hx rfl (hb hby at_125) (XS.goto X1212.here hx rfl (pc0 := 126) (pc' := 130) rfl (hb hby at_126) (by decide) (by decide) (XS.istore X1212.here hx rfl (hb hby at_130) rfl (l' := #[iv p1, iv p2, iv 3, iv 2, iv 1, rv b958, iv 1, u_, u_, u_, u_]) rfl k))))) ?_
      refine own_s T1212 (mkF m 140 #[iv p1, iv p2, iv 3, iv 2, iv 1, rv b958, iv 1, u_, u_, u_, u_] [.null, (.ref b958)]) (fun _ k => XS.iload X1212.here hx rfl (hb hby at_132) rfl  (XS.ifNo X1212.here hx rfl (hb hby at_134) rfl ((if0 _ _).trans (tlt (by decide : ((0 : Int32) < (1 : Int32)))).2.2.2) (XS.aload X1212.here hx rfl (hb hby at_137) rfl rfl (XS.aconstNull X1212.here hx rfl (hb hby at_139) k)))) ?_
      obtain ⟨sl1213, T1213, h1213, kk1213, X1213, e1213, E1213, hS, hk1213, hZ, hown, st1213⟩ := ldcS (s := s) X1212 hx hZ hown (own_h hw 166 rfl) (own_wS hw) e1212 hS hk1183 (g := (mkF m 140 #[iv p1, iv p2, iv 3, iv 2, iv 1, rv b958, iv 1, u_, u_, u_, u_] [.null, (.ref b958)])) rfl (hb hby at_140) (n := 4) (by decide) (by decide) (by decide) (by decide)
      have f1214 := Sta.ext E1213 f1184
      have f1215 := Sta.ext E1213 f1185
      have f1216 := Exa.ext E1213 f1186
      have f1217 := Fld.ext E1213 f1187
      have f1218 := f1188.ext E1213
      have f1219 := Exa.ext E1213 q1183_0
      have f1220 := f1190.ext E1213
      have f1221 := Exa.ext E1213 f1191
      have f1222 := f1192.ext E1213
      have f1223 := Exa.ext E1213 f1193
      have f1224 := Fld.ext E1213 f1194
      have f1225 := Fld.ext E1213 f1195
      have f1226 := Exa.ext E1213 f1196
      have f1227 := Fld.ext E1213 f1197
      have f1228 := Fld.ext E1213 f1198
      have f1229 := Fld.ext E1213 f1199
      have f1230 := f1200.ext E1213
      have f1231 := f1201.ext E1213
      have f1232 := Exa.ext E1213 f1202
      have f1233 := Fld.ext E1213 f1203
      have f1234 := Fld.ext E1213 f1204
      have f1235 := Fld.ext E1213 f1205
      have f1236 := Fld.ext E1213 f1206
      have f1237 := Exa.ext E1213 f1207
      have f1238 := Fld.ext E1213 f1208
      have f1239 := Fld.ext E1213 f1209
      have f1240 := Fld.ext E1213 f1210
      have f1241 := f1211.ext E1213
      have f1242 := Fld.ext E1213 q1183_1
      have f1243 := Fld.ext E1213 q1183_2
      have f1244 := Fld.ext E1213 q1183_3
      have K1213 : Keep h0 h1213 [] := K1183.ext E1213
      have Z1213 := Nat.le_trans Z1183 E1213.1
      refine own_s T1213 (mkF m 142 #[iv p1, iv p2, iv 3, iv 2, iv 1, rv b958, iv 1, u_, u_, u_, u_] [(.ref sl1213), .null, (.ref b958)]) st1213 ?_
      obtain ⟨sl1245, T1245, h1245, kk1245, X1245, e1245, E1245, hS, hk1245, hZ, hown, st1245⟩ := ldcS (s := s) X1213 hx hZ hown (own_h hw 166 rfl) (own_wS hw) e1213 hS hk1213 (g := (mkF m 142 #[iv p1, iv p2, iv 3, iv 2, iv 1, rv b958, iv 1, u_, u_, u_, u_] [(.ref sl1213), .null, (.ref b958)])) rfl (hb hby at_142) (n := 4) (by decide) (by decide) (by decide) (by decide)
      have f1246 := Sta.ext E1245 f1214
      have f1247 := Sta.ext E1245 f1215
      have f1248 := Exa.ext E1245 f1216
      have f1249 := Fld.ext E1245 f1217
      have f1250 := f1218.ext E1245
      have f1251 := Exa.ext E1245 f1219
      have f1252 := f1220.ext E1245
      have f1253 := Exa.ext E1245 f1221
      have f1254 := f1222.ext E1245
      have f1255 := Exa.ext E1245 f1223
      have f1256 := Fld.ext E1245 f1224
      have f1257 := Fld.ext E1245 f1225
      have f1258 := Exa.ext E1245 f1226
      have f1259 := Fld.ext E1245 f1227
      have f1260 := Fld.ext E1245 f1228
      have f1261 := Fld.ext E1245 f1229
      have f1262 := f1230.ext E1245
      have f1263 := f1231.ext E1245
      have f1264 := Exa.ext E1245 f1232
      have f1265 := Fld.ext E1245 f1233
      have f1266 := Fld.ext E1245 f1234
      have f1267 := Fld.ext E1245 f1235
      have f1268 := Fld.ext E1245 f1236
      have f1269 := Exa.ext E1245 f1237
      have f1270 := Fld.ext E1245 f1238
      have f1271 := Fld.ext E1245 f1239
      have f1272 := Fld.ext E1245 f1240
      have f1273 := f1241.ext E1245
      have f1274 := Fld.ext E1245 f1242
      have f1275 := Fld.ext E1245 f1243
      have f1276 := Fld.ext E1245 f1244
      have K1245 : Keep h0 h1245 [] := K1213.ext E1245
      have Z1245 := Nat.le_trans Z1213 E1245.1
      refine own_s T1245 (mkF m 144 #[iv p1, iv p2, iv 3, iv 2, iv 1, rv b958, iv 1, u_, u_, u_, u_] [(.ref sl1245), (.ref sl1213), .null, (.ref b958)]) st1245 ?_
      refine own_s T1245 (mkF m 146 #[iv p1, iv p2, iv 3, iv 2, iv 1, rv b958, iv 1, u_, u_, u_, u_] [(.int 0), .null, (.ref sl1245), (.ref sl1213), .null, (.ref b958)]) (fun _ k => XS.aconstNull X1245.here hx rfl (hb hby at_144) (XS.iconst X1245.here hx rfl (hb hby at_145) k)) ?_
      obtain ⟨T1277, h1277, k1277, X1277, e1277, E1277, A1277, O1277, st1277⟩ := newR X1245 hx hZ hown (own_h hw 26 rfl) (own_h hw 11 rfl) e1245 (g := (mkF m 146 #[iv p1, iv p2, iv 3, iv 2, iv 1, rv b958, iv 1, u_, u_, u_, u_] [(.int 0), .null, (.ref sl1245), (.ref sl1213), .null, (.ref b958)])) rfl (hb hby at_146) rfl (by decide) (cap := 0) (by decide) (by decide) (by decide) (by decide)
      obtain ⟨b1277, g1277⟩ : ∃ z, z = h1245.size := ⟨_, rfl⟩
      have ne_oN_b1277 : oN ≠ b1277 := Nat.ne_of_lt (Nat.lt_of_lt_of_le f1248.lt (Nat.le_of_eq g1277.symm))
      have ne_oE_b1277 : oE ≠ b1277 := Nat.ne_of_lt (Nat.lt_of_lt_of_le f1250.lt (Nat.le_of_eq g1277.symm))
      have ne_b958_b1277 : b958 ≠ b1277 := Nat.ne_of_lt (Nat.lt_of_lt_of_le f1251.lt (Nat.le_of_eq g1277.symm))
      have ne_b996_b1277 : b996 ≠ b1277 := Nat.ne_of_lt (Nat.lt_of_lt_of_le f1252.lt (Nat.le_of_eq g1277.symm))
      have ne_zx1006_b1277 : zx1006 ≠ b1277 := Nat.ne_of_lt (Nat.lt_of_lt_of_le f1253.lt (Nat.le_of_eq g1277.symm))
      have ne_b1042_b1277 : b1042 ≠ b1277 := Nat.ne_of_lt (Nat.lt_of_lt_of_le f1254.lt (Nat.le_of_eq g1277.symm))
      have ne_zx1056_b1277 : zx1056 ≠ b1277 := Nat.ne_of_lt (Nat.lt_of_lt_of_le f1255.lt (Nat.le_of_eq g1277.symm))
      have ne_zli1056_b1277 : zli1056 ≠ b1277 := Nat.ne_of_lt (Nat.lt_of_lt_of_le f1258.lt (Nat.le_of_eq g1277.symm))
      have ne_zd1056_b1277 : zd1056 ≠ b1277 := Nat.ne_of_lt (Nat.lt_of_lt_of_le f1262.lt (Nat.le_of_eq g1277.symm))
      have ne_b1112_b1277 : b1112 ≠ b1277 := Nat.ne_of_lt (Nat.lt_of_lt_of_le f1263.lt (Nat.le_of_eq g1277.symm))
      have ne_zx1135_b1277 : zx1135 ≠ b1277 := Nat.ne_of_lt (Nat.lt_of_lt_of_le f1264.lt (Nat.le_of_eq g1277.symm))
      have ne_zli1135_b1277 : zli1135 ≠ b1277 := Nat.ne_of_lt (Nat.lt_of_lt_of_le f1269.lt (Nat.le_of_eq g1277.symm))
      have ne_zd1135_b1277 : zd1135 ≠ b1277 := Nat.ne_of_lt (Nat.lt_of_lt_of_le f1273.lt (Nat.le_of_eq g1277.symm))
      have g_b1277 : n0 ≤ b1277 := Nat.le_trans Z1245 (Nat.le_of_eq g1277.symm)
      have sz_b1277 : h0.size ≤ b1277 := Nat.le_trans K1245.1 (Nat.le_of_eq g1277.symm)
      rw [← g1277] at A1277 st1277
      have f1278 := Sta.ext E1277 f1246
      have f1279 := Sta.ext E1277 f1247
      have f1280 := Exa.ext E1277 f1248
      have f1281 := Fld.ext E1277 f1249
      have f1282 := f1250.ext E1277
      have f1283 := Exa.ext E1277 f1251
      have f1284 := f1252.ext E1277
      have f1285 := Exa.ext E1277 f1253
      have f1286 := f1254.ext E1277
      have f1287 := Exa.ext E1277 f1255
      have f1288 := Fld.ext E1277 f1256
      have f1289 := Fld.ext E1277 f1257
      have f1290 := Exa.ext E1277 f1258
      have f1291 := Fld.ext E1277 f1259
      have f1292 := Fld.ext E1277 f1260
      have f1293 := Fld.ext E1277 f1261
      have f1294 := f1262.ext E1277
      have f1295 := f1263.ext E1277
      have f1296 := Exa.ext E1277 f1264
      have f1297 := Fld.ext E1277 f1265
      have f1298 := Fld.ext E1277 f1266
      have f1299 := Fld.ext E1277 f1267
      have f1300 := Fld.ext E1277 f1268
      have f1301 := Exa.ext E1277 f1269
      have f1302 := Fld.ext E1277 f1270
      have f1303 := Fld.ext E1277 f1271
      have f1304 := Fld.ext E1277 f1272
      have f1305 := f1273.ext E1277
      have f1306 := Fld.ext E1277 f1274
      have f1307 := Fld.ext E1277 f1275
      have f1308 := Fld.ext E1277 f1276
      have K1277 : Keep h0 h1277 [] := K1245.ext E1277
      have Z1277 := Nat.le_trans Z1245 E1277.1
      have hk1277 := Nat.le_trans hk1245 E1277.1
      have f1277 : Arv Z h1277 b1277 k1277 (.object "java/lang/String") 0 [] .null := (Arv.new A1277 (by decide)).pad (pad_rep [] .null 0)
      refine own_s T1277 (mkF m 149 #[iv p1, iv p2, iv 3, iv 2, iv 1, rv b958, iv 1, u_, u_, u_, u_] [(.ref b1277), .null, (.ref sl1245), (.ref sl1213), .null, (.ref b958)]) st1277 ?_
      refine own_s T1277 (mkF m 150 #[iv p1, iv p2, iv 3, iv 2, iv 1, rv b958, iv 1, u_, u_, u_, u_] [.null, (.ref b1277), .null, (.ref sl1245), (.ref sl1213), .null, (.ref b958)]) (fun _ k => XS.aconstNull X1277.here hx rfl (hb hby at_149) k) ?_
      obtain ⟨v1309, T1309, L1309, X1309, hQ1309, st1309⟩ := own_callV X1277 hx hZ (y := own_y17) (z := own_y17) (W := 0) (a := b958) hown (own_h hw 27 rfl) (own_h hw 28 rfl) (notFace_of_selects (args := #[]) (mvT hZ (own_h hw 30 rfl))) (own_h hw 30 rfl) (own_h hw 29 rfl) (own_h hw 3 rfl) (own_h hw 31 rfl) (by decide) (own_rmst2_1 l Z a0 hw [] b958 sl1213 sl1245 b1277 zx1006 zx1006 oN oA k1277 zli1056 zd1056 zkd1056 zx1056 h1277 n0 Z1277 g_b958 f1283 f1306 f1307 f1308 f1278 f1279 f1277 ne_b958_b1277 g_zli1056 g_zd1056 f1285 f1288 f1290 f1291 f1292 f1293 f1294 q1056_15 q1056_16 (Ne.symm ne_oN_zli1056) ne_zx1006_zli1056 ne_zx1006_zd1056 ne_b958_zx1006 ne_b958_zli1056 ne_b958_zd1056 ne_zx1006_b1277 ne_zli1056_b1277 ne_zd1056_b1277) (by decide) (by decide) f1283 (g := (mkF m 150 #[iv p1, iv p2, iv 3, iv 2, iv 1, rv b958, iv 1, u_, u_, u_, u_] [.null, (.ref b1277), .null, (.ref sl1245), (.ref sl1213), .null, (.ref b958)])) rfl (by rw [hml]; rfl) (argsL := [.null, (.ref sl1213), (.ref sl1245), .null, (.ref b1277), .null]) (rest := []) rfl (lenOf own_pd12 rfl) rfl (by show 2 * 0 + _ ≤ _; exact Nat.le_of_eq rfl) (hb hby at_150) e1277 (by decide) (by decide)
      obtain ⟨zx1309, rfl, Nq1309, Kq1309, g_zx1309, sq_zx1309, q1309_0, q1309_1, q1309_2, q1309_3, q1309_4, q1309_5, q1309_6, q1309_7, q1309_8, q1309_9, q1309_10, q1309_11⟩ := hQ1309
      have N1309 := Fr.app N1212 Nq1309
      have ne_oN_zx1309 : oN ≠ zx1309 := Nat.ne_of_lt (Nat.lt_of_lt_of_le f1280.lt sq_zx1309)
      have ne_oE_zx1309 : oE ≠ zx1309 := Nat.ne_of_lt (Nat.lt_of_lt_of_le f1282.lt sq_zx1309)
      have ne_b958_zx1309 : b958 ≠ zx1309 := Nat.ne_of_lt (Nat.lt_of_lt_of_le f1283.lt sq_zx1309)
      have ne_b996_zx1309 : b996 ≠ zx1309 := Nat.ne_of_lt (Nat.lt_of_lt_of_le f1284.lt sq_zx1309)
      have ne_zx1006_zx1309 : zx1006 ≠ zx1309 := Nat.ne_of_lt (Nat.lt_of_lt_of_le f1285.lt sq_zx1309)
      have ne_b1042_zx1309 : b1042 ≠ zx1309 := Nat.ne_of_lt (Nat.lt_of_lt_of_le f1286.lt sq_zx1309)
      have ne_zx1056_zx1309 : zx1056 ≠ zx1309 := Nat.ne_of_lt (Nat.lt_of_lt_of_le f1287.lt sq_zx1309)
      have ne_zli1056_zx1309 : zli1056 ≠ zx1309 := Nat.ne_of_lt (Nat.lt_of_lt_of_le f1290.lt sq_zx1309)
      have ne_zd1056_zx1309 : zd1056 ≠ zx1309 := Nat.ne_of_lt (Nat.lt_of_lt_of_le f1294.lt sq_zx1309)
      have ne_b1112_zx1309 : b1112 ≠ zx1309 := Nat.ne_of_lt (Nat.lt_of_lt_of_le f1295.lt sq_zx1309)
      have ne_zx1135_zx1309 : zx1135 ≠ zx1309 := Nat.ne_of_lt (Nat.lt_of_lt_of_le f1296.lt sq_zx1309)
      have ne_zli1135_zx1309 : zli1135 ≠ zx1309 := Nat.ne_of_lt (Nat.lt_of_lt_of_le f1301.lt sq_zx1309)
      have ne_zd1135_zx1309 : zd1135 ≠ zx1309 := Nat.ne_of_lt (Nat.lt_of_lt_of_le f1305.lt sq_zx1309)
      have ne_b1277_zx1309 : b1277 ≠ zx1309 := Nat.ne_of_lt (Nat.lt_of_lt_of_le f1277.lt sq_zx1309)
      have sz_zx1309 : h0.size ≤ zx1309 := Nat.le_trans K1277.1 sq_zx1309
      have f1310 := own_staKeepW f1278 Kq1309 (allS f1283.nostat (allS f1290.nostat (allS f1294.nostat all0)))
      have f1311 := own_staKeepW f1279 Kq1309 (allS f1283.nostat (allS f1290.nostat (allS f1294.nostat all0)))
      have f1312 := f1280.keep Kq1309
      have f1313 := f1281.keep Kq1309 (ninS ne_oN_b958 (ninS ne_oN_zli1056 (ninS ne_oN_zd1056 nin0)))
      have f1314 := f1282.keep Kq1309 (ninS ne_oE_b958 (ninS ne_oE_zli1056 (ninS ne_oE_zd1056 nin0)))
      have f1315 := f1283.keep Kq1309
      have f1316 := f1284.keep Kq1309 (ninS (Ne.symm ne_b958_b996) (ninS ne_b996_zli1056 (ninS ne_b996_zd1056 nin0)))
      have f1317 := f1285.keep Kq1309
      have f1318 := f1286.keep Kq1309 (ninS (Ne.symm ne_b958_b1042) (ninS ne_b1042_zli1056 (ninS ne_b1042_zd1056 nin0)))
      have f1319 := f1287.keep Kq1309
      have f1320 := f1288.keep Kq1309 (ninS (Ne.symm ne_b958_zx1006) (ninS ne_zx1006_zli1056 (ninS ne_zx1006_zd1056 nin0)))
      have f1321 := f1289.keep Kq1309 (ninS (Ne.symm ne_b958_zx1006) (ninS ne_zx1006_zli1056 (ninS ne_zx1006_zd1056 nin0)))
      have f1322 := f1290.keep Kq1309
      have f1323 := f1295.keep Kq1309 (ninS (Ne.symm ne_b958_b1112) (ninS (Ne.symm ne_zli1056_b1112) (ninS (Ne.symm ne_zd1056_b1112) nin0)))
      have f1324 := f1296.keep Kq1309
      have f1325 := f1297.keep Kq1309 (ninS (Ne.symm ne_b958_zx1135) (ninS (Ne.symm ne_zli1056_zx1135) (ninS (Ne.symm ne_zd1056_zx1135) nin0)))
      have f1326 := f1298.keep Kq1309 (ninS (Ne.symm ne_b958_zx1135) (ninS (Ne.symm ne_zli1056_zx1135) (ninS (Ne.symm ne_zd1056_zx1135) nin0)))
      have f1327 := f1299.keep Kq1309 (ninS (Ne.symm ne_b958_zx1056) (ninS q1056_17 (ninS q1056_18 nin0)))
      have f1328 := f1300.keep Kq1309 (ninS (Ne.symm ne_b958_zx1056) (ninS q1056_17 (ninS q1056_18 nin0)))
      have f1329 := f1301.keep Kq1309
      have f1330 := f1302.keep Kq1309 (ninS (Ne.symm ne_b958_zli1135) (ninS (Ne.symm ne_zli1056_zli1135) (ninS (Ne.symm ne_zd1056_zli1135) nin0)))
      have f1331 := f1303.keep Kq1309 (ninS (Ne.symm ne_b958_zli1135) (ninS (Ne.symm ne_zli1056_zli1135) (ninS (Ne.symm ne_zd1056_zli1135) nin0)))
      have f1332 := f1304.keep Kq1309 (ninS (Ne.symm ne_b958_zli1135) (ninS (Ne.symm ne_zli1056_zli1135) (ninS (Ne.symm ne_zd1056_zli1135) nin0)))
      have f1333 := f1305.keep Kq1309 (ninS (Ne.symm ne_b958_zd1135) (ninS (Ne.symm ne_zli1056_zd1135) (ninS (Ne.symm ne_zd1056_zd1135) nin0)))
      have f1334 := f1277.keep Kq1309 (ninS (Ne.symm ne_b958_b1277) (ninS (Ne.symm ne_zli1056_b1277) (ninS (Ne.symm ne_zd1056_b1277) nin0)))
      have K1309 : Keep h0 T1309.heap [] := K1277.trans Kq1309 (allS (Or.inr sz_b958) (allS (Or.inr sz_zli1056) (allS (Or.inr sz_zd1056) all0)))
      have Z1309 := Nat.le_trans Z1277 Kq1309.1
      have hk1309 := Nat.le_trans hk1277 Kq1309.1
      refine own_s T1309 (mkF m 153 #[iv p1, iv p2, iv 3, iv 2, iv 1, rv b958, iv 1, u_, u_, u_, u_] []) st1309 ?_
      refine own_s T1309 (mkF m 160 #[iv p1, iv p2, iv 3, iv 2, iv 1, rv b958, iv 1, u_, u_, u_, u_] [(.ref b958)]) (fun _ k => XS.iload X1309.here hx rfl (hb hby at_153) rfl  (XS.ifNo X1309.here hx rfl (hb hby at_155) rfl ((if0 _ _).trans (feq (by decide : ¬ ((1 : Int32) = (0 : Int32)))).1) (XS.aload X1309.here hx rfl (hb hby at_158) rfl rfl k))) ?_
      obtain ⟨v1335, T1335, L1335, X1335, hQ1335, st1335⟩ := own_callV X1309 hx hZ (y := own_y20) (z := own_y20) (W := 0) (a := b958) hown (own_h hw 82 rfl) (own_h hw 83 rfl) (notFace_of_selects (args := #[]) (mvT hZ (own_h hw 85 rfl))) (own_h hw 85 rfl) (own_h hw 84 rfl) (own_h hw 3 rfl) (own_h hw 86 rfl) (by decide) (own_rmgdp l Z a0 hw [] b958 (2 : Int32) T1309.heap n0 Z1309 q1309_3) (by decide) (by decide) q1309_0 (g := (mkF m 160 #[iv p1, iv p2, iv 3, iv 2, iv 1, rv b958, iv 1, u_, u_, u_, u_] [(.ref b958)])) rfl (by rw [hml]; rfl) (argsL := []) (rest := []) rfl (lenOf own_pd7 rfl) rfl (by show 2 * 0 + _ ≤ _; exact Nat.le_of_eq rfl) (hb hby at_160) rfl (by decide) (by decide)
      obtain ⟨rfl, Nq1335, e1335⟩ := hQ1335
      have N1335 := Fr.app N1309 Nq1335
      refine own_s T1335 (mkF m 163 #[iv p1, iv p2, iv 3, iv 2, iv 1, rv b958, iv 1, u_, u_, u_, u_] [(.int 2)]) st1335 ?_
      refine own_s T1335 (mkF m 171 #[iv p1, iv p2, iv 3, iv 2, iv 1, rv b958, iv 1, u_, u_, u_, u_] [(.int 1)]) (fun _ k => XS.iload X1335.here hx rfl (hb hby at_163) rfl  (XS.iconst X1335.here hx rfl (hb hby at_165) (XS.iadd X1335.here hx rfl (hb hby at_166) rfl (XS.icmpNo X1335.here hx rfl (hb hby at_167) rfl (teq (by decide : ((2 : Int32) = (2 : Int32)))).2 (XS.iconst X1335.here hx rfl (hb hby at_170) k))))) ?_
      refine own_s T1335 (mkF m 179 #[iv p1, iv p2, iv 3, iv 2, iv 1, rv b958, iv 1, u_, u_, u_, u_] [(.ref b958)]) (fun _ k => XS.goto X1335.here hx rfl (pc0 := 171) (pc' := 175) rfl (hb hby at_171) (by decide) (by decide) (XS.istore X1335.here hx rfl (hb hby at_175) rfl (l' := #[iv p1, iv p2, iv 3, iv 2, iv 1, rv b958, iv 1, u_, u_, u_, u_]) rfl (XS.aload X1335.here hx rfl (hb hby at_177) rfl rfl k))) ?_
      obtain ⟨v1336, T1336, L1336, X1336, hQ1336, st1336⟩ := own_callV X1335 hx hZ (y := own_y21) (z := own_y21) (W := 0) (a := b958) hown (own_h hw 87 rfl) (own_h hw 88 rfl) (notFace_of_selects (args := #[]) (mvT hZ (own_h hw 90 rfl))) (own_h hw 90 rfl) (own_h hw 89 rfl) (own_h hw 3 rfl) (own_h hw 91 rfl) (by decide) (own_rmgrt l Z a0 hw [] b958 zx1006 T1309.heap n0 Z1309 q1309_2) (by decide) (by decide) q1309_0 (g := (mkF m 179 #[iv p1, iv p2, iv 3, iv 2, iv 1, rv b958, iv 1, u_, u_, u_, u_] [(.ref b958)])) rfl (by rw [hml]; rfl) (argsL := []) (rest := []) rfl (lenOf own_pd11 rfl) rfl (by show 2 * 0 + _ ≤ _; exact Nat.le_of_eq rfl) (hb hby at_179) e1335 (by decide) (by decide)
      obtain ⟨rfl, Nq1336, e1336⟩ := hQ1336
      have N1336 := Fr.app N1335 Nq1336
      refine own_s T1336 (mkF m 182 #[iv p1, iv p2, iv 3, iv 2, iv 1, rv b958, iv 1, u_, u_, u_, u_] [(.ref zx1006)]) st1336 ?_
      refine own_s T1336 (mkF m 191 #[iv p1, iv p2, iv 3, iv 2, iv 1, rv b958, iv 1, rv zx1006, u_, u_, u_] [(.ref zx1006)]) (fun _ k => XS.astore X1336.here hx rfl (hb hby at_182) rfl rfl (l' := #[iv p1, iv p2, iv 3, iv 2, iv 1, rv b958, iv 1, rv zx1006, u_, u_, u_]) rfl (XS.aload X1336.here hx rfl (hb hby at_184) rfl rfl (XS.ifnullNo X1336.here hx rfl (hb hby at_186) rfl (XS.aload X1336.here hx rfl (hb hby at_189) rfl rfl k)))) ?_
      obtain ⟨v1337, T1337, L1337, X1337, hQ1337, st1337⟩ := own_callV X1336 hx hZ (y := own_y18) (z := own_y18) (W := 0) (a := zx1006) hown (own_h hw 92 rfl) (own_h hw 78 rfl) (notFace_of_selects (args := #[]) (mvT hZ (own_h hw 80 rfl))) (own_h hw 80 rfl) (own_h hw 79 rfl) (own_h hw 34 rfl) (own_h hw 81 rfl) (by decide) (own_rmgpar l Z a0 hw [] zx1006 .null T1309.heap n0 Z1309 f1321 rfl) (by decide) (by decide) f1317 (g := (mkF m 191 #[iv p1, iv p2, iv 3, iv 2, iv 1, rv b958, iv 1, rv zx1006, u_, u_, u_] [(.ref zx1006)])) rfl (by rw [hml]; rfl) (argsL := []) (rest := []) rfl (lenOf own_pd11 rfl) rfl (by show 2 * 0 + _ ≤ _; exact Nat.le_of_eq rfl) (hb hby at_191) e1336 (by decide) (by decide)
      obtain ⟨rfl, Nq1337, e1337⟩ := hQ1337
      have N1337 := Fr.app N1336 Nq1337
      refine own_s T1337 (mkF m 194 #[iv p1, iv p2, iv 3, iv 2, iv 1, rv b958, iv 1, rv zx1006, u_, u_, u_] [.null]) st1337 ?_
      refine own_s T1337 (mkF m 205 #[iv p1, iv p2, iv 3, iv 2, iv 1, rv b958, iv 1, rv zx1006, u_, u_, u_] [(.int 1)]) (fun _ k => XS.ifnullYes X1337.here hx rfl (pc0 := 194) (pc' := 199) rfl (hb hby at_194) rfl (by decide) (by decide) (XS.iloadN X1337.here hx rfl (hb hby at_199) rfl  (XS.iconst X1337.here hx rfl (hb hby at_200) (XS.icmpNo X1337.here hx rfl (hb hby at_201) rfl (flt (by decide : ¬ ((3 : Int32) < (2 : Int32)))).1 (XS.iconst X1337.here hx rfl (hb hby at_204) k))))) ?_
      refine own_s T1337 (mkF m 216 #[iv p1, iv p2, iv 3, iv 2, iv 1, rv b958, iv 1, rv zx1006, u_, u_, u_] [(.int 1), (.int 1)]) (fun _ k => XS.goto X1337.here hx rfl (pc0 := 205) (pc' := 209) rfl (hb hby at_205) (by decide) (by decide) (XS.iload X1337.here hx rfl (hb hby at_209) rfl  (XS.iconst X1337.here hx rfl (hb hby at_211) (XS.icmpNo X1337.here hx rfl (hb hby at_212) rfl (teq (by decide : ((1 : Int32) = (1 : Int32)))).2 (XS.iconst X1337.here hx rfl (hb hby at_215) k))))) ?_
      refine own_s T1337 (mkF m 228 #[iv p1, iv p2, iv 3, iv 2, iv 1, rv b958, iv 1, rv zx1006, iv 2, u_, u_] []) (fun _ k => XS.goto X1337.here hx rfl (pc0 := 216) (pc' := 220) rfl (hb hby at_216) (by decide) (by decide) (XS.iadd X1337.here hx rfl (hb hby at_220) rfl (XS.istore X1337.here hx rfl (hb hby at_221) rfl (l' := #[iv p1, iv p2, iv 3, iv 2, iv 1, rv b958, iv 1, rv zx1006, iv 2, u_, u_]) rfl (XS.iload X1337.here hx rfl (hb hby at_223) rfl  (XS.ifNo X1337.here hx rfl (hb hby at_225) rfl ((if0 _ _).trans (feq (by decide : ¬ ((1 : Int32) = (0 : Int32)))).1) k))))) ?_
      refine own_s T1337 (mkF m 230 #[iv p1, iv p2, iv 3, iv 2, iv 1, rv b958, iv 1, rv zx1006, iv 2, u_, u_] [(.ref zx1006)]) (fun _ k => XS.aload X1337.here hx rfl (hb hby at_228) rfl rfl k) ?_
      obtain ⟨v1338, T1338, L1338, X1338, hQ1338, st1338⟩ := own_callV X1337 hx hZ (y := own_y19) (z := own_y19) (W := 0) (a := zx1006) hown (own_h hw 93 rfl) (own_h hw 94 rfl) (notFace_of_selects (args := #[]) (mvT hZ (own_h hw 96 rfl))) (own_h hw 96 rfl) (own_h hw 95 rfl) (own_h hw 34 rfl) (own_h hw 97 rfl) (by decide) (own_rmgch l Z a0 hw [] zx1006 zli1056 T1309.heap n0 Z1309 f1320) (by decide) (by decide) f1317 (g := (mkF m 230 #[iv p1, iv p2, iv 3, iv 2, iv 1, rv b958, iv 1, rv zx1006, iv 2, u_, u_] [(.ref zx1006)])) rfl (by rw [hml]; rfl) (argsL := []) (rest := []) rfl (lenOf own_pd13 rfl) rfl (by show 2 * 0 + _ ≤ _; exact Nat.le_of_eq rfl) (hb hby at_230) e1337 (by decide) (by decide)
      obtain ⟨rfl, Nq1338, e1338⟩ := hQ1338
      have N1338 := Fr.app N1337 Nq1338
      refine own_s T1338 (mkF m 233 #[iv p1, iv p2, iv 3, iv 2, iv 1, rv b958, iv 1, rv zx1006, iv 2, u_, u_] [(.ref zli1056)]) st1338 ?_
      obtain ⟨v1339, T1339, L1339, X1339, hQ1339, st1339⟩ := own_callF X1338 hx hZ (y := own_y12) (z := own_y5) (W := 0) (a := zli1056) hown (own_h hw 98 rfl) (own_h hw 99 rfl) (mvT hZ (own_h hw 100 rfl)) (own_h hw 160 rfl) (own_h hw 161 rfl) (own_h hw 162 rfl) (own_h hw 163 rfl) (own_h hw 147 rfl) (own_h hw 117 rfl) (own_h hw 164 rfl) (by decide) (own_rmalsz l Z a0 hw [] zli1056 (2 : Int32) T1309.heap n0 Z1309 q1309_10) (by decide) (by decide) q1309_7 (g := (mkF m 233 #[iv p1, iv p2, iv 3, iv 2, iv 1, rv b958, iv 1, rv zx1006, iv 2, u_, u_] [(.ref zli1056)])) rfl (by rw [hml]; rfl) (argsL := []) (rest := []) rfl (lenOf own_pd7 rfl) rfl (by show 2 * 0 + _ ≤ _; exact Nat.le_of_eq rfl) (hb hby at_233) e1338 (by decide) (by decide)
      obtain ⟨rfl, Nq1339, e1339⟩ := hQ1339
      have N1339 := Fr.app N1338 Nq1339
      refine own_s T1339 (mkF m 238 #[iv p1, iv p2, iv 3, iv 2, iv 1, rv b958, iv 1, rv zx1006, iv 2, u_, u_] [(.int 2)]) st1339 ?_
      refine own_s T1339 (mkF m 250 #[iv p1, iv p2, iv 3, iv 2, iv 1, rv b958, iv 1, rv zx1006, iv 2, u_, u_] []) (fun _ k => XS.iload X1339.here hx rfl (hb hby at_238) rfl  (XS.icmpNo X1339.here hx rfl (hb hby at_240) rfl (teq (by decide : ((2 : Int32) = (2 : Int32)))).2 (XS.iconst X1339.here hx rfl (hb hby at_243) (XS.goto X1339.here hx rfl (pc0 := 244) (pc' := 248) rfl (hb hby at_244) (by decide) (by decide) (XS.istore X1339.here hx rfl (hb hby at_248) rfl (l' := #[iv p1, iv p2, iv 3, iv 2, iv 1, rv b958, iv 1, rv zx1006, iv 2, u_, u_]) rfl k))))) ?_
      refine own_s T1339 (mkF m 257 #[iv p1, iv p2, iv 3, iv 2, iv 1, rv b958, iv 1, rv zx1006, iv 2, u_, u_] [(.ref zx1006)]) (fun _ k => XS.iloadN X1339.here hx rfl (hb hby at_250) rfl  (XS.iconst X1339.here hx rfl (hb hby at_251) (XS.icmpNo X1339.here hx rfl (hb hby at_252) rfl (flt (by decide : ¬ ((3 : Int32) < (2 : Int32)))).1 (XS.aload X1339.here hx rfl (hb hby at_255) rfl rfl k)))) ?_
      obtain ⟨v1340, T1340, L1340, X1340, hQ1340, st1340⟩ := own_callV X1339 hx hZ (y := own_y19) (z := own_y19) (W := 0) (a := zx1006) hown (own_h hw 93 rfl) (own_h hw 94 rfl) (notFace_of_selects (args := #[]) (mvT hZ (own_h hw 96 rfl))) (own_h hw 96 rfl) (own_h hw 95 rfl) (own_h hw 34 rfl) (own_h hw 97 rfl) (by decide) (own_rmgch l Z a0 hw [] zx1006 zli1056 T1309.heap n0 Z1309 f1320) (by decide) (by decide) f1317 (g := (mkF m 257 #[iv p1, iv p2, iv 3, iv 2, iv 1, rv b958, iv 1, rv zx1006, iv 2, u_, u_] [(.ref zx1006)])) rfl (by rw [hml]; rfl) (argsL := []) (rest := []) rfl (lenOf own_pd13 rfl) rfl (by show 2 * 0 + _ ≤ _; exact Nat.le_of_eq rfl) (hb hby at_257) e1339 (by decide) (by decide)
      obtain ⟨rfl, Nq1340, e1340⟩ := hQ1340
      have N1340 := Fr.app N1339 Nq1340
      refine own_s T1340 (mkF m 260 #[iv p1, iv p2, iv 3, iv 2, iv 1, rv b958, iv 1, rv zx1006, iv 2, u_, u_] [(.ref zli1056)]) st1340 ?_
      refine own_s T1340 (mkF m 261 #[iv p1, iv p2, iv 3, iv 2, iv 1, rv b958, iv 1, rv zx1006, iv 2, u_, u_] [(.int 0), (.ref zli1056)]) (fun _ k => XS.iconst X1340.here hx rfl (hb hby at_260) k) ?_
      obtain ⟨v1341, T1341, L1341, X1341, hQ1341, st1341⟩ := own_callF X1340 hx hZ (y := own_y23) (z := own_y9) (W := 0) (a := zli1056) hown (own_h hw 167 rfl) (own_h hw 168 rfl) (mvT hZ (own_h hw 169 rfl)) (own_h hw 170 rfl) (own_h hw 171 rfl) (own_h hw 172 rfl) (own_h hw 173 rfl) (own_h hw 147 rfl) (own_h hw 117 rfl) (own_h hw 174 rfl) (by decide) (own_rmget_2 l Z a0 hw [] zli1056 zd1056 zkd1056 zx1056 zx1309 T1309.heap n0 Z1309 q1309_7 q1309_10 q1309_9 q1309_11) (by decide) (by decide) q1309_7 (g := (mkF m 261 #[iv p1, iv p2, iv 3, iv 2, iv 1, rv b958, iv 1, rv zx1006, iv 2, u_, u_] [(.int 0), (.ref zli1056)])) rfl (by rw [hml]; rfl) (argsL := [(.int 0)]) (rest := []) rfl (lenOf own_pd4 rfl) rfl (by show 2 * 0 + _ ≤ _; exact Nat.le_of_eq rfl) (hb hby at_261) e1340 (by decide) (by decide)
      obtain ⟨rfl, Nq1341, Kq1341⟩ := hQ1341
      have N1341 := Fr.app N1340 Nq1341
      have f1342 := own_staKeep f1310 Kq1341
      have f1343 := own_staKeep f1311 Kq1341
      have f1344 := f1312.keep Kq1341
      have f1345 := f1313.keep Kq1341 nin0
      have f1346 := f1314.keep Kq1341 nin0
      have f1347 := q1309_0.keep Kq1341
      have f1348 := f1316.keep Kq1341 nin0
      have f1349 := f1317.keep Kq1341
      have f1350 := f1318.keep Kq1341 nin0
      have f1351 := f1319.keep Kq1341
      have f1352 := f1320.keep Kq1341 nin0
      have f1353 := f1321.keep Kq1341 nin0
      have f1354 := q1309_7.keep Kq1341
      have f1355 := f1323.keep Kq1341 nin0
      have f1356 := f1324.keep Kq1341
      have f1357 := f1325.keep Kq1341 nin0
      have f1358 := f1326.keep Kq1341 nin0
      have f1359 := f1327.keep Kq1341 nin0
      have f1360 := f1328.keep Kq1341 nin0
      have f1361 := f1329.keep Kq1341
      have f1362 := f1330.keep Kq1341 nin0
      have f1363 := f1331.keep Kq1341 nin0
      have f1364 := f1332.keep Kq1341 nin0
      have f1365 := f1333.keep Kq1341 nin0
      have f1366 := f1334.keep Kq1341 nin0
      have f1367 := q1309_1.keep Kq1341 nin0
      have f1368 := q1309_2.keep Kq1341 nin0
      have f1369 := q1309_3.keep Kq1341 nin0
      have f1370 := q1309_4.keep Kq1341
      have f1371 := q1309_5.keep Kq1341 nin0
      have f1372 := q1309_6.keep Kq1341 nin0
      have f1373 := q1309_8.keep Kq1341 nin0
      have f1374 := q1309_9.keep Kq1341 nin0
      have f1375 := q1309_10.keep Kq1341 nin0
      have f1376 := q1309_11.keep Kq1341 nin0
      have K1341 : Keep h0 T1341.heap [] := K1309.trans Kq1341 all0
      have Z1341 := Nat.le_trans Z1309 Kq1341.1
      have hk1341 := Nat.le_trans hk1309 Kq1341.1
      refine own_s T1341 (mkF m 266 #[iv p1, iv p2, iv 3, iv 2, iv 1, rv b958, iv 1, rv zx1006, iv 2, u_, u_] [(.ref zx1056)]) st1341 ?_
      obtain ⟨T1377, X1377, e1377, st1377⟩ := castY X1341 hx hZ hown (own_h hw 188 rfl) rfl (Ins.self f1351) (g := (mkF m 266 #[iv p1, iv p2, iv 3, iv 2, iv 1, rv b958, iv 1, rv zx1006, iv 2, u_, u_] [(.ref zx1056)])) rfl rfl (hb hby at_266)
      refine own_s T1377 (mkF m 269 #[iv p1, iv p2, iv 3, iv 2, iv 1, rv b958, iv 1, rv zx1006, iv 2, u_, u_] [(.ref zx1056)]) st1377 ?_
      refine own_s T1377 (mkF m 277 #[iv p1, iv p2, iv 3, iv 2, iv 1, rv b958, iv 1, rv zx1006, iv 2, rv zx1056, u_] [(.int 1)]) (fun _ k => XS.astore X1377.here hx rfl (hb hby at_269) rfl rfl (l' := #[iv p1, iv p2, iv 3, iv 2, iv 1, rv b958, iv 1, rv zx1006, iv 2, rv zx1056, u_]) rfl (XS.iloadN X1377.here hx rfl (hb hby at_271) rfl  (XS.iconst X1377.here hx rfl (hb hby at_272) (XS.icmpNo X1377.here hx rfl (hb hby at_273) rfl (flt (by decide : ¬ ((3 : Int32) < (3 : Int32)))).1 (XS.iconst X1377.here hx rfl (hb hby at_276) k))))) ?_
      refine own_s T1377 (mkF m 292 #[iv p1, iv p2, iv 3, iv 2, iv 1, rv b958, iv 1, rv zx1006, iv 2, rv zx1056, u_] [(.int 0), (.int 1)]) (fun _ k => XS.goto X1377.here hx rfl (pc0 := 277) (pc' := 281) rfl (hb hby at_277) (by decide) (by decide) (XS.iload X1377.here hx rfl (hb hby at_281) rfl  (XS.iconst X1377.here hx rfl (hb hby at_283) (XS.icmpYes X1377.here hx rfl (pc0 := 284) (pc' := 291) rfl (hb hby at_284) rfl (feq (by decide : ¬ ((1 : Int32) = (2 : Int32)))).2 (by decide) (by decide) (XS.iconst X1377.here hx rfl (hb hby at_291) k))))) ?_
      refine own_s T1377 (mkF m 302 #[iv p1, iv p2, iv 3, iv 2, iv 1, rv b958, iv 1, rv zx1006, iv 2, rv zx1056, iv 1] [(.ref zx1056)]) (fun _ k => XS.iadd X1377.here hx rfl (hb hby at_292) rfl (XS.istore X1377.here hx rfl (hb hby at_293) rfl (l' := #[iv p1, iv p2, iv 3, iv 2, iv 1, rv b958, iv 1, rv zx1006, iv 2, rv zx1056, iv 1]) rfl (XS.iload X1377.here hx rfl (hb hby at_295) rfl  (XS.ifNo X1377.here hx rfl (hb hby at_297) rfl ((if0 _ _).trans (feq (by decide : ¬ ((1 : Int32) = (0 : Int32)))).1) (XS.aload X1377.here hx rfl (hb hby at_300) rfl rfl k))))) ?_
      obtain ⟨v1378, T1378, L1378, X1378, hQ1378, st1378⟩ := own_callV X1377 hx hZ (y := own_y19) (z := own_y19) (W := 0) (a := zx1056) hown (own_h hw 93 rfl) (own_h hw 94 rfl) (notFace_of_selects (args := #[]) (mvT hZ (own_h hw 96 rfl))) (own_h hw 96 rfl) (own_h hw 95 rfl) (own_h hw 34 rfl) (own_h hw 97 rfl) (by decide) (own_rmgch l Z a0 hw [] zx1056 zli1135 T1341.heap n0 Z1341 f1359) (by decide) (by decide) f1351 (g := (mkF m 302 #[iv p1, iv p2, iv 3, iv 2, iv 1, rv b958, iv 1, rv zx1006, iv 2, rv zx1056, iv 1] [(.ref zx1056)])) rfl (by rw [hml]; rfl) (argsL := []) (rest := []) rfl (lenOf own_pd13 rfl) rfl (by show 2 * 0 + _ ≤ _; exact Nat.le_of_eq rfl) (hb hby at_302) e1377 (by decide) (by decide)
      obtain ⟨rfl, Nq1378, e1378⟩ := hQ1378
      have N1378 := Fr.app N1341 Nq1378
      refine own_s T1378 (mkF m 305 #[iv p1, iv p2, iv 3, iv 2, iv 1, rv b958, iv 1, rv zx1006, iv 2, rv zx1056, iv 1] [(.ref zli1135)]) st1378 ?_
      obtain ⟨v1379, T1379, L1379, X1379, hQ1379, st1379⟩ := own_callF X1378 hx hZ (y := own_y12) (z := own_y5) (W := 0) (a := zli1135) hown (own_h hw 98 rfl) (own_h hw 99 rfl) (mvT hZ (own_h hw 100 rfl)) (own_h hw 160 rfl) (own_h hw 161 rfl) (own_h hw 162 rfl) (own_h hw 163 rfl) (own_h hw 147 rfl) (own_h hw 117 rfl) (own_h hw 164 rfl) (by decide) (own_rmalsz l Z a0 hw [] zli1135 (1 : Int32) T1341.heap n0 Z1341 f1364) (by decide) (by decide) f1361 (g := (mkF m 305 #[iv p1, iv p2, iv 3, iv 2, iv 1, rv b958, iv 1, rv zx1006, iv 2, rv zx1056, iv 1] [(.ref zli1135)])) rfl (by rw [hml]; rfl) (argsL := []) (rest := []) rfl (lenOf own_pd7 rfl) rfl (by show 2 * 0 + _ ≤ _; exact Nat.le_of_eq rfl) (hb hby at_305) e1378 (by decide) (by decide)
      obtain ⟨rfl, Nq1379, e1379⟩ := hQ1379
      have N1379 := Fr.app N1378 Nq1379
      refine own_s T1379 (mkF m 310 #[iv p1, iv p2, iv 3, iv 2, iv 1, rv b958, iv 1, rv zx1006, iv 2, rv zx1056, iv 1] [(.int 1)]) st1379 ?_
      refine own_s T1379 (mkF m 322 #[iv p1, iv p2, iv 3, iv 2, iv 1, rv b958, iv 1, rv zx1006, iv 2, rv zx1056, iv 1] []) (fun _ k => XS.iload X1379.here hx rfl (hb hby at_310) rfl  (XS.icmpNo X1379.here hx rfl (hb hby at_312) rfl (teq (by decide : ((1 : Int32) = (1 : Int32)))).2 (XS.iconst X1379.here hx rfl (hb hby at_315) (XS.goto X1379.here hx rfl (pc0 := 316) (pc' := 320) rfl (hb hby at_316) (by decide) (by decide) (XS.istore X1379.here hx rfl (hb hby at_320) rfl (l' := #[iv p1, iv p2, iv 3, iv 2, iv 1, rv b958, iv 1, rv zx1006, iv 2, rv zx1056, iv 1]) rfl k))))) ?_
      refine own_s T1379 (mkF m 324 #[iv p1, iv p2, iv 3, iv 2, iv 1, rv b958, iv 1, rv zx1006, iv 2, rv zx1056, iv 1] [(.int 1)]) (fun _ k => XS.iload X1379.here hx rfl (hb hby at_322) rfl  k) ?_
      exact own_finZ X1379 hx (t := .boolean) hret (by simp) (z' := (1 : Int32)) rfl (hb hby at_324) (own_endW (Qv := (own_Q0 Z p1 p2 oN oA oE kE h0 n0)) X1379 hS (own_some hret) hlk (by decide) (by decide) e1379 hk1341 (fun vm' hv' => ⟨rfl, N1379⟩))
    · refine own_cast (g' := (mkF m 18 #[iv p1, iv p2, iv 3, iv 3, u_, u_, u_, u_, u_, u_, u_] [])) (by rw [hk]) ?_
      refine own_s s₁ (mkF m 23 #[iv p1, iv p2, iv 3, iv 3, iv 0, u_, u_, u_, u_, u_, u_] []) (fun _ k => XS.iloadN X0.here hx rfl (hb hby at_18) rfl  (XS.iloadN X0.here hx rfl (hb hby at_19) rfl  (XS.isub X0.here hx rfl (hb hby at_20) rfl (XS.istore X0.here hx rfl (hb hby at_21) rfl (l' := #[iv p1, iv p2, iv 3, iv 3, iv 0, u_, u_, u_, u_, u_, u_]) rfl k)))) ?_
      obtain ⟨T1380, h1380, X1380, e1380, E1380, A1380, D1380, -, st1380⟩ := newO X0 hx hZ hown (own_h hw 1 rfl) (own_h hw 2 rfl) (own_h hw 3 rfl) e0 (g := (mkF m 23 #[iv p1, iv p2, iv 3, iv 3, iv 0, u_, u_, u_, u_, u_, u_] [])) rfl (hb hby at_23) (by decide) (by decide)
      obtain ⟨b1380, g1380⟩ : ∃ z, z = h0.size := ⟨_, rfl⟩
      have ne_oN_b1380 : oN ≠ b1380 := Nat.ne_of_lt (Nat.lt_of_lt_of_le pr2.lt (Nat.le_of_eq g1380.symm))
      have ne_oE_b1380 : oE ≠ b1380 := Nat.ne_of_lt (Nat.lt_of_lt_of_le pr4.lt (Nat.le_of_eq g1380.symm))
      have g_b1380 : n0 ≤ b1380 := Nat.le_trans Z0 (Nat.le_of_eq g1380.symm)
      have sz_b1380 : h0.size ≤ b1380 := Nat.le_trans (Keep.refl h0 []).1 (Nat.le_of_eq g1380.symm)
      rw [← g1380] at A1380 D1380 st1380
      have f1381 := Sta.ext E1380 pr0
      have f1382 := Sta.ext E1380 pr1
      have f1383 := Exa.ext E1380 pr2
      have f1384 := Fld.ext E1380 pr3
      have f1385 := pr4.ext E1380
      have K1380 : Keep h0 h1380 [] := (Keep.refl h0 []).ext E1380
      have Z1380 := Nat.le_trans Z0 E1380.1
      have hk1380 := Nat.le_trans hk0 E1380.1
      have f1386 : Fld Z h1380 b1380 "com/example/tagwright/tagwright/XmlTree" "whiteSpaces" "[Ljava/lang/String;" .null := D1380 (Or.inr (own_h hw 13 rfl)) (ty := (.array (.object "java/lang/String"))) (by decide)
      have f1387 : Fld Z h1380 b1380 "com/example/tagwright/tagwright/XmlTree" "whiteSpaceBytes" "[[B" .null := D1380 (Or.inr (own_h hw 17 rfl)) (ty := (.array (.array .byte))) (by decide)
      have f1388 : Fld Z h1380 b1380 "com/example/tagwright/tagwright/XmlTree" "current" "Lcom/example/tagwright/tagwright/XmlElement;" .null := D1380 (Or.inl (own_h hw 36 rfl)) (ty := (.object "com/example/tagwright/tagwright/XmlElement")) (by decide)
      have f1389 : Fld Z h1380 b1380 "com/example/tagwright/tagwright/XmlTree" "root" "Lcom/example/tagwright/tagwright/XmlElement;" .null := D1380 (Or.inl (own_h hw 69 rfl)) (ty := (.object "com/example/tagwright/tagwright/XmlElement")) (by decide)
      have f1390 : Fld Z h1380 b1380 "com/example/tagwright/tagwright/XmlTree" "depth" "I" (.int 0) := D1380 (Or.inl (own_h hw 71 rfl)) (ty := .int) (by decide)
      refine own_s T1380 (mkF m 26 #[iv p1, iv p2, iv 3, iv 3, iv 0, u_, u_, u_, u_, u_, u_] [(.ref b1380)]) st1380 ?_
      refine own_s T1380 (mkF m 27 #[iv p1, iv p2, iv 3, iv 3, iv 0, u_, u_, u_, u_, u_, u_] [(.ref b1380), (.ref b1380)]) (fun _ k => XS.dup X1380.here hx rfl (hb hby at_26) rfl rfl k) ?_
      obtain ⟨v1391, T1391, L1391, X1391, hQ1391, st1391⟩ := own_callI X1380 hx hZ (y := own_y16) (W := 1) (a := b1380) rfl hown (own_h hw 4 rfl) (own_h hw 5 rfl) (own_h hw 3 rfl) (own_h hw 6 rfl) (by decide) (own_rmti l Z a0 hw [] b1380 h1380 n0 Z1380 g_b1380 A1380 f1388 f1389 f1390 f1386 f1387) (by decide) (by decide) (g := (mkF m 27 #[iv p1, iv p2, iv 3, iv 3, iv 0, u_, u_, u_, u_, u_, u_] [(.ref b1380), (.ref b1380)])) rfl (by rw [hml]; rfl) (argsL := []) (rest := [(.ref b1380)]) rfl (lenOf own_pd0 rfl) rfl (by show 2 * 0 + _ ≤ _; exact Nat.le_of_eq rfl) (hb hby at_27) e1380 (by decide) (by decide)
      obtain ⟨rfl, Nq1391, Kq1391, q1391_0, q1391_1, q1391_2, q1391_3⟩ := hQ1391
      have N1391 := Fr.app N0 Nq1391
      have f1392 := own_staKeepW f1381 Kq1391 (allS A1380.nostat all0)
      have f1393 := own_staKeepW f1382 Kq1391 (allS A1380.nostat all0)
      have f1394 := f1383.keep Kq1391
      have f1395 := f1384.keep Kq1391 (ninS ne_oN_b1380 nin0)
      have f1396 := f1385.keep Kq1391 (ninS ne_oE_b1380 nin0)
      have f1397 := A1380.keep Kq1391
      have K1391 : Keep h0 T1391.heap [] := K1380.trans Kq1391 (allS (Or.inr sz_b1380) all0)
      have Z1391 := Nat.le_trans Z1380 Kq1391.1
      have hk1391 := Nat.le_trans hk1380 Kq1391.1
      refine own_s T1391 (mkF m 30 #[iv p1, iv p2, iv 3, iv 3, iv 0, u_, u_, u_, u_, u_, u_] [(.ref b1380)]) st1391 ?_
      refine own_s T1391 (mkF m 35 #[iv p1, iv p2, iv 3, iv 3, iv 0, rv b1380, u_, u_, u_, u_, u_] [.null, (.ref b1380)]) (fun _ k => XS.astore X1391.here hx rfl (hb hby at_30) rfl rfl (l' := #[iv p1, iv p2, iv 3, iv 3, iv 0, rv b1380, u_, u_, u_, u_, u_]) rfl (XS.aload X1391.here hx rfl (hb hby at_32) rfl rfl (XS.aconstNull X1391.here hx rfl (hb hby at_34) k))) ?_
      obtain ⟨sl1398, T1398, h1398, kk1398, X1398, e1398, E1398, hS, hk1398, hZ, hown, st1398⟩ := ldcS (s := s) X1391 hx hZ hown (own_h hw 18 rfl) (own_wS hw) rfl hS hk1391 (g := (mkF m 35 #[iv p1, iv p2, iv 3, iv 3, iv 0, rv b1380, u_, u_, u_, u_, u_] [.null, (.ref b1380)])) rfl (hb hby at_35) (n := 4) (by decide) (by decide) (by decide) (by decide)
      have f1399 := Sta.ext E1398 f1392
      have f1400 := Sta.ext E1398 f1393
      have f1401 := Exa.ext E1398 f1394
      have f1402 := Fld.ext E1398 f1395
      have f1403 := f1396.ext E1398
      have f1404 := Exa.ext E1398 q1391_0
      have f1405 := Fld.ext E1398 q1391_1
      have f1406 := Fld.ext E1398 q1391_2
      have f1407 := Fld.ext E1398 q1391_3
      have K1398 : Keep h0 h1398 [] := K1391.ext E1398
      have Z1398 := Nat.le_trans Z1391 E1398.1
      refine own_s T1398 (mkF m 37 #[iv p1, iv p2, iv 3, iv 3, iv 0, rv b1380, u_, u_, u_, u_, u_] [(.ref sl1398), .null, (.ref b1380)]) st1398 ?_
      obtain ⟨sl1408, T1408, h1408, kk1408, X1408, e1408, E1408, hS, hk1408, hZ, hown, st1408⟩ := ldcS (s := s) X1398 hx hZ hown (own_h hw 18 rfl) (own_wS hw) e1398 hS hk1398 (g := (mkF m 37 #[iv p1, iv p2, iv 3, iv 3, iv 0, rv b1380, u_, u_, u_, u_, u_] [(.ref sl1398), .null, (.ref b1380)])) rfl (hb hby at_37) (n := 4) (by decide) (by decide) (by decide) (by decide)
      have f1409 := Sta.ext E1408 f1399
      have f1410 := Sta.ext E1408 f1400
      have f1411 := Exa.ext E1408 f1401
      have f1412 := Fld.ext E1408 f1402
      have f1413 := f1403.ext E1408
      have f1414 := Exa.ext E1408 f1404
      have f1415 := Fld.ext E1408 f1405
      have f1416 := Fld.ext E1408 f1406
      have f1417 := Fld.ext E1408 f1407
      have K1408 : Keep h0 h1408 [] := K1398.ext E1408
      have Z1408 := Nat.le_trans Z1398 E1408.1
      refine own_s T1408 (mkF m 39 #[iv p1, iv p2, iv 3, iv 3, iv 0, rv b1380, u_, u_, u_, u_, u_] [(.ref sl1408), (.ref sl1398), .null, (.ref b1380)]) st1408 ?_
      refine own_s T1408 (mkF m 41 #[iv p1, iv p2, iv 3, iv 3, iv 0, rv b1380, u_, u_, u_, u_, u_] [(.int 0), .null, (.ref sl1408), (.ref sl1398), .null, (.ref b1380)]) (fun _ k => XS.aconstNull X1408.here hx rfl (hb hby at_39) (XS.iconst X1408.here hx rfl (hb hby at_40) k)) ?_
      obtain ⟨T1418, h1418, k1418, X1418, e1418, E1418, A1418, O1418, st1418⟩ := newR X1408 hx hZ hown (own_h hw 26 rfl) (own_h hw 11 rfl) e1408 (g := (mkF m 41 #[iv p1, iv p2, iv 3, iv 3, iv 0, rv b1380, u_, u_, u_, u_, u_] [(.int 0), .null, (.ref sl1408), (.ref sl1398), .null, (.ref b1380)])) rfl (hb hby at_41) rfl (by decide) (cap := 0) (by decide) (by decide) (by decide) (by decide)
      obtain ⟨b1418, g1418⟩ : ∃ z, z = h1408.size := ⟨_, rfl⟩
      have ne_oN_b1418 : oN ≠ b1418 := Nat.ne_of_lt (Nat.lt_of_lt_of_le f1411.lt (Nat.le_of_eq g1418.symm))
      have ne_oE_b1418 : oE ≠ b1418 := Nat.ne_of_lt (Nat.lt_of_lt_of_le f1413.lt (Nat.le_of_eq g1418.symm))
      have ne_b1380_b1418 : b1380 ≠ b1418 := Nat.ne_of_lt (Nat.lt_of_lt_of_le f1414.lt (Nat.le_of_eq g1418.symm))
      have g_b1418 : n0 ≤ b1418 := Nat.le_trans Z1408 (Nat.le_of_eq g1418.symm)
      have sz_b1418 : h0.size ≤ b1418 := Nat.le_trans K1408.1 (Nat.le_of_eq g1418.symm)
      rw [← g1418] at A1418 st1418
      have f1419 := Sta.ext E1418 f1409
      have f1420 := Sta.ext E1418 f1410
      have f1421 := Exa.ext E1418 f1411
      have f1422 := Fld.ext E1418 f1412
      have f1423 := f1413.ext E1418
      have f1424 := Exa.ext E1418 f1414
      have f1425 := Fld.ext E1418 f1415
      have f1426 := Fld.ext E1418 f1416
      have f1427 := Fld.ext E1418 f1417
      have K1418 : Keep h0 h1418 [] := K1408.ext E1418
      have Z1418 := Nat.le_trans Z1408 E1418.1
      have hk1418 := Nat.le_trans hk1408 E1418.1
      have f1418 : Arv Z h1418 b1418 k1418 (.object "java/lang/String") 0 [] .null := (Arv.new A1418 (by decide)).pad (pad_rep [] .null 0)
      refine own_s T1418 (mkF m 44 #[iv p1, iv p2, iv 3, iv 3, iv 0, rv b1380, u_, u_, u_, u_, u_] [(.ref b1418), .null, (.ref sl1408), (.ref sl1398), .null, (.ref b1380)]) st1418 ?_
      refine own_s T1418 (mkF m 45 #[iv p1, iv p2, iv 3, iv 3, iv 0, rv b1380, u_, u_, u_, u_, u_] [.null, (.ref b1418), .null, (.ref sl1408), (.ref sl1398), .null, (.ref b1380)]) (fun _ k => XS.aconstNull X1418.here hx rfl (hb hby at_44) k) ?_
      obtain ⟨v1428, T1428, L1428, X1428, hQ1428, st1428⟩ := own_callV X1418 hx hZ (y := own_y17) (z := own_y17) (W := 0) (a := b1380) hown (own_h hw 27 rfl) (own_h hw 28 rfl) (notFace_of_selects (args := #[]) (mvT hZ (own_h hw 30 rfl))) (own_h hw 30 rfl) (own_h hw 29 rfl) (own_h hw 3 rfl) (own_h hw 31 rfl) (by decide) (own_rmst0 l Z a0 hw [] b1380 sl1398 sl1408 b1418 oN oA k1418 h1418 n0 Z1418 g_b1380 f1424 f1425 f1426 f1427 f1419 f1420 f1418 ne_b1380_b1418) (by decide) (by decide) f1424 (g := (mkF m 45 #[iv p1, iv p2, iv 3, iv 3, iv 0, rv b1380, u_, u_, u_, u_, u_] [.null, (.ref b1418), .null, (.ref sl1408), (.ref sl1398), .null, (.ref b1380)])) rfl (by rw [hml]; rfl) (argsL := [.null, (.ref sl1398), (.ref sl1408), .null, (.ref b1418), .null]) (rest := []) rfl (lenOf own_pd12 rfl) rfl (by show 2 * 0 + _ ≤ _; exact Nat.le_of_eq rfl) (hb hby at_45) e1418 (by decide) (by decide)
      obtain ⟨zx1428, rfl, Nq1428, Kq1428, g_zx1428, sq_zx1428, q1428_0, q1428_1, q1428_2, q1428_3, q1428_4, q1428_5, q1428_6⟩ := hQ1428
      have N1428 := Fr.app N1391 Nq1428
      have ne_oN_zx1428 : oN ≠ zx1428 := Nat.ne_of_lt (Nat.lt_of_lt_of_le f1421.lt sq_zx1428)
      have ne_oE_zx1428 : oE ≠ zx1428 := Nat.ne_of_lt (Nat.lt_of_lt_of_le f1423.lt sq_zx1428)
      have ne_b1380_zx1428 : b1380 ≠ zx1428 := Nat.ne_of_lt (Nat.lt_of_lt_of_le f1424.lt sq_zx1428)
      have ne_b1418_zx1428 : b1418 ≠ zx1428 := Nat.ne_of_lt (Nat.lt_of_lt_of_le f1418.lt sq_zx1428)
      have sz_zx1428 : h0.size ≤ zx1428 := Nat.le_trans K1418.1 sq_zx1428
      have f1429 := own_staKeepW f1419 Kq1428 (allS f1424.nostat all0)
      have f1430 := own_staKeepW f1420 Kq1428 (allS f1424.nostat all0)
      have f1431 := f1421.keep Kq1428
      have f1432 := f1422.keep Kq1428 (ninS ne_oN_b1380 nin0)
      have f1433 := f1423.keep Kq1428 (ninS ne_oE_b1380 nin0)
      have f1434 := f1424.keep Kq1428
      have f1435 := f1418.keep Kq1428 (ninS (Ne.symm ne_b1380_b1418) nin0)
      have K1428 : Keep h0 T1428.heap [] := K1418.trans Kq1428 (allS (Or.inr sz_b1380) all0)
      have Z1428 := Nat.le_trans Z1418 Kq1428.1
      have hk1428 := Nat.le_trans hk1418 Kq1428.1
      refine own_s T1428 (mkF m 48 #[iv p1, iv p2, iv 3, iv 3, iv 0, rv b1380, u_, u_, u_, u_, u_] []) st1428 ?_
      refine own_s T1428 (mkF m 56 #[iv p1, iv p2, iv 3, iv 3, iv 0, rv b1380, u_, u_, u_, u_, u_] [.null, (.ref b1380)]) (fun _ k => XS.iloadN X1428.here hx rfl (hb hby at_48) rfl  (XS.iconst X1428.here hx rfl (hb hby at_49) (XS.icmpNo X1428.here hx rfl (hb hby at_50) rfl (flt (by decide : ¬ ((3 : Int32) < (2 : Int32)))).1 (XS.aload X1428.here hx rfl (hb hby at_53) rfl rfl (XS.aconstNull X1428.here hx rfl (hb hby at_55) k))))) ?_
      obtain ⟨sl1436, T1436, h1436, kk1436, X1436, e1436, E1436, hS, hk1436, hZ, hown, st1436⟩ := ldcS (s := s) X1428 hx hZ hown (own_h hw 110 rfl) (own_wS hw) rfl hS hk1428 (g := (mkF m 56 #[iv p1, iv p2, iv 3, iv 3, iv 0, rv b1380, u_, u_, u_, u_, u_] [.null, (.ref b1380)])) rfl (hb hby at_56) (n := 4) (by decide) (by decide) (by decide) (by decide)
      have f1437 := Sta.ext E1436 f1429
      have f1438 := Sta.ext E1436 f1430
      have f1439 := Exa.ext E1436 f1431
      have f1440 := Fld.ext E1436 f1432
      have f1441 := f1433.ext E1436
      have f1442 := Exa.ext E1436 q1428_0
      have f1443 := f1435.ext E1436
      have f1444 := Fld.ext E1436 q1428_1
      have f1445 := Fld.ext E1436 q1428_2
      have f1446 := Fld.ext E1436 q1428_3
      have f1447 := Exa.ext E1436 q1428_4
      have f1448 := Fld.ext E1436 q1428_5
      have f1449 := Fld.ext E1436 q1428_6
      have K1436 : Keep h0 h1436 [] := K1428.ext E1436
      have Z1436 := Nat.le_trans Z1428 E1436.1
      refine own_s T1436 (mkF m 58 #[iv p1, iv p2, iv 3, iv 3, iv 0, rv b1380, u_, u_, u_, u_, u_] [(.ref sl1436), .null, (.ref b1380)]) st1436 ?_
      obtain ⟨sl1450, T1450, h1450, kk1450, X1450, e1450, E1450, hS, hk1450, hZ, hown, st1450⟩ := ldcS (s := s) X1436 hx hZ hown (own_h hw 110 rfl) (own_wS hw) e1436 hS hk1436 (g := (mkF m 58 #[iv p1, iv p2, iv 3, iv 3, iv 0, rv b1380, u_, u_, u_, u_, u_] [(.ref sl1436), .null, (.ref b1380)])) rfl (hb hby at_58) (n := 4) (by decide) (by decide) (by decide) (by decide)
      have f1451 := Sta.ext E1450 f1437
      have f1452 := Sta.ext E1450 f1438
      have f1453 := Exa.ext E1450 f1439
      have f1454 := Fld.ext E1450 f1440
      have f1455 := f1441.ext E1450
      have f1456 := Exa.ext E1450 f1442
      have f1457 := f1443.ext E1450
      have f1458 := Fld.ext E1450 f1444
      have f1459 := Fld.ext E1450 f1445
      have f1460 := Fld.ext E1450 f1446
      have f1461 := Exa.ext E1450 f1447
      have f1462 := Fld.ext E1450 f1448
      have f1463 := Fld.ext E1450 f1449
      have K1450 : Keep h0 h1450 [] := K1436.ext E1450
      have Z1450 := Nat.le_trans Z1436 E1450.1
      refine own_s T1450 (mkF m 60 #[iv p1, iv p2, iv 3, iv 3, iv 0, rv b1380, u_, u_, u_, u_, u_] [(.ref sl1450), (.ref sl1436), .null, (.ref b1380)]) st1450 ?_
      refine own_s T1450 (mkF m 62 #[iv p1, iv p2, iv 3, iv 3, iv 0, rv b1380, u_, u_, u_, u_, u_] [(.int 0), .null, (.ref sl1450), (.ref sl1436), .null, (.ref b1380)]) (fun _ k => XS.aconstNull X1450.here hx rfl (hb hby at_60) (XS.iconst X1450.here hx rfl (hb hby at_61) k)) ?_
      obtain ⟨T1464, h1464, k1464, X1464, e1464, E1464, A1464, O1464, st1464⟩ := newR X1450 hx hZ hown (own_h hw 26 rfl) (own_h hw 11 rfl) e1450 (g := (mkF m 62 #[iv p1, iv p2, iv 3, iv 3, iv 0, rv b1380, u_, u_, u_, u_, u_] [(.int 0), .null, (.ref sl1450), (.ref sl1436), .null, (.ref b1380)])) rfl (hb hby at_62) rfl (by decide) (cap := 0) (by decide) (by decide) (by decide) (by decide)
      obtain ⟨b1464, g1464⟩ : ∃ z, z = h1450.size := ⟨_, rfl⟩
      have ne_oN_b1464 : oN ≠ b1464 := Nat.ne_of_lt (Nat.lt_of_lt_of_le f1453.lt (Nat.le_of_eq g1464.symm))
      have ne_oE_b1464 : oE ≠ b1464 := Nat.ne_of_lt (Nat.lt_of_lt_of_le f1455.lt (Nat.le_of_eq g1464.symm))
      have ne_b1380_b1464 : b1380 ≠ b1464 := Nat.ne_of_lt (Nat.lt_of_lt_of_le f1456.lt (Nat.le_of_eq g1464.symm))
      have ne_b1418_b1464 : b1418 ≠ b1464 := Nat.ne_of_lt (Nat.lt_of_lt_of_le f1457.lt (Nat.le_of_eq g1464.symm))
      have ne_zx1428_b1464 : zx1428 ≠ b1464 := Nat.ne_of_lt (Nat.lt_of_lt_of_le f1461.lt (Nat.le_of_eq g1464.symm))
      have g_b1464 : n0 ≤ b1464 := Nat.le_trans Z1450 (Nat.le_of_eq g1464.symm)
      have sz_b1464 : h0.size ≤ b1464 := Nat.le_trans K1450.1 (Nat.le_of_eq g1464.symm)
      rw [← g1464] at A1464 st1464
      have f1465 := Sta.ext E1464 f1451
      have f1466 := Sta.ext E1464 f1452
      have f1467 := Exa.ext E1464 f1453
      have f1468 := Fld.ext E1464 f1454
      have f1469 := f1455.ext E1464
      have f1470 := Exa.ext E1464 f1456
      have f1471 := f1457.ext E1464
      have f1472 := Fld.ext E1464 f1458
      have f1473 := Fld.ext E1464 f1459
      have f1474 := Fld.ext E1464 f1460
      have f1475 := Exa.ext E1464 f1461
      have f1476 := Fld.ext E1464 f1462
      have f1477 := Fld.ext E1464 f1463
      have K1464 : Keep h0 h1464 [] := K1450.ext E1464
      have Z1464 := Nat.le_trans Z1450 E1464.1
      have hk1464 := Nat.le_trans hk1450 E1464.1
      have f1464 : Arv Z h1464 b1464 k1464 (.object "java/lang/String") 0 [] .null := (Arv.new A1464 (by decide)).pad (pad_rep [] .null 0)
      refine own_s T1464 (mkF m 65 #[iv p1, iv p2, iv 3, iv 3, iv 0, rv b1380, u_, u_, u_, u_, u_] [(.ref b1464), .null, (.ref sl1450), (.ref sl1436), .null, (.ref b1380)]) st1464 ?_
      refine own_s T1464 (mkF m 66 #[iv p1, iv p2, iv 3, iv 3, iv 0, rv b1380, u_, u_, u_, u_, u_] [.null, (.ref b1464), .null, (.ref sl1450), (.ref sl1436), .null, (.ref b1380)]) (fun _ k => XS.aconstNull X1464.here hx rfl (hb hby at_65) k) ?_
      obtain ⟨v1478, T1478, L1478, X1478, hQ1478, st1478⟩ := own_callV X1464 hx hZ (y := own_y17) (z := own_y17) (W := 0) (a := b1380) hown (own_h hw 27 rfl) (own_h hw 28 rfl) (notFace_of_selects (args := #[]) (mvT hZ (own_h hw 30 rfl))) (own_h hw 30 rfl) (own_h hw 29 rfl) (own_h hw 3 rfl) (own_h hw 31 rfl) (by decide) (own_rmst1_1 l Z a0 hw [] b1380 sl1436 sl1450 b1464 zx1428 zx1428 oN oA k1464 .null h1464 n0 Z1464 g_b1380 f1470 f1472 f1473 f1474 f1465 f1466 f1464 ne_b1380_b1464 g_zx1428 f1475 f1476 f1477 ne_b1380_zx1428 ne_zx1428_b1464 rfl) (by decide) (by decide) f1470 (g := (mkF m 66 #[iv p1, iv p2, iv 3, iv 3, iv 0, rv b1380, u_, u_, u_, u_, u_] [.null, (.ref b1464), .null, (.ref sl1450), (.ref sl1436), .null, (.ref b1380)])) rfl (by rw [hml]; rfl) (argsL := [.null, (.ref sl1436), (.ref sl1450), .null, (.ref b1464), .null]) (rest := []) rfl (lenOf own_pd12 rfl) rfl (by show 2 * 0 + _ ≤ _; exact Nat.le_of_eq rfl) (hb hby at_66) e1464 (by decide) (by decide)
      obtain ⟨zx1478, zli1478, zd1478, zkd1478, rfl, Nq1478, Kq1478, g_zx1478, sq_zx1478, g_zli1478, sq_zli1478, g_zd1478, sq_zd1478, q1478_0, q1478_1, q1478_2, q1478_3, q1478_4, q1478_5, q1478_6, q1478_7, q1478_8, q1478_9, q1478_10, q1478_11, q1478_12, q1478_13, q1478_14, q1478_15, q1478_16, q1478_17, q1478_18⟩ := hQ1478
      have N1478 := Fr.app N1428 Nq1478
      have ne_oN_zx1478 : oN ≠ zx1478 := Nat.ne_of_lt (Nat.lt_of_lt_of_le f1467.lt sq_zx1478)
      have ne_oN_zli1478 : oN ≠ zli1478 := Nat.ne_of_lt (Nat.lt_of_lt_of_le f1467.lt sq_zli1478)
      have ne_oN_zd1478 : oN ≠ zd1478 := Nat.ne_of_lt (Nat.lt_of_lt_of_le f1467.lt sq_zd1478)
      have ne_oE_zx1478 : oE ≠ zx1478 := Nat.ne_of_lt (Nat.lt_of_lt_of_le f1469.lt sq_zx1478)
      have ne_oE_zli1478 : oE ≠ zli1478 := Nat.ne_of_lt (Nat.lt_of_lt_of_le f1469.lt sq_zli1478)
      have ne_oE_zd1478 : oE ≠ zd1478 := Nat.ne_of_lt (Nat.lt_of_lt_of_le f1469.lt sq_zd1478)
      have ne_b1380_zx1478 : b1380 ≠ zx1478 := Nat.ne_of_lt (Nat.lt_of_lt_of_le f1470.lt sq_zx1478)
      have ne_b1380_zli1478 : b1380 ≠ zli1478 := Nat.ne_of_lt (Nat.lt_of_lt_of_le f1470.lt sq_zli1478)
      have ne_b1380_zd1478 : b1380 ≠ zd1478 := Nat.ne_of_lt (Nat.lt_of_lt_of_le f1470.lt sq_zd1478)
      have ne_b1418_zx1478 : b1418 ≠ zx1478 := Nat.ne_of_lt (Nat.lt_of_lt_of_le f1471.lt sq_zx1478)
      have ne_b1418_zli1478 : b1418 ≠ zli1478 := Nat.ne_of_lt (Nat.lt_of_lt_of_le f1471.lt sq_zli1478)
      have ne_b1418_zd1478 : b1418 ≠ zd1478 := Nat.ne_of_lt (Nat.lt_of_lt_of_le f1471.lt sq_zd1478)
      have ne_zx1428_zx1478 : zx1428 ≠ zx1478 := Nat.ne_of_lt (Nat.lt_of_lt_of_le f1475.lt sq_zx1478)
      have ne_zx1428_zli1478 : zx1428 ≠ zli1478 := Nat.ne_of_lt (Nat.lt_of_lt_of_le f1475.lt sq_zli1478)
      have ne_zx1428_zd1478 : zx1428 ≠ zd1478 := Nat.ne_of_lt (Nat.lt_of_lt_of_le f1475.lt sq_zd1478)
      have ne_b1464_zx1478 : b1464 ≠ zx1478 := Nat.ne_of_lt (Nat.lt_of_lt_of_le f1464.lt sq_zx1478)
      have ne_b1464_zli1478 : b1464 ≠ zli1478 := Nat.ne_of_lt (Nat.lt_of_lt_of_le f1464.lt sq_zli1478)
      have ne_b1464_zd1478 : b1464 ≠ zd1478 := Nat.ne_of_lt (Nat.lt_of_lt_of_le f1464.lt sq_zd1478)
      have sz_zx1478 : h0.size ≤ zx1478 := Nat.le_trans K1464.1 sq_zx1478
      have sz_zli1478 : h0.size ≤ zli1478 := Nat.le_trans K1464.1 sq_zli1478
      have sz_zd1478 : h0.size ≤ zd1478 := Nat.le_trans K1464.1 sq_zd1478
      have f1479 := own_staKeepW f1465 Kq1478 (allS f1470.nostat (allS f1475.nostat all0))
      have f1480 := own_staKeepW f1466 Kq1478 (allS f1470.nostat (allS f1475.nostat all0))
      have f1481 := f1467.keep Kq1478
      have f1482 := f1468.keep Kq1478 (ninS ne_oN_b1380 (ninS ne_oN_zx1428 nin0))
      have f1483 := f1469.keep Kq1478 (ninS ne_oE_b1380 (ninS ne_oE_zx1428 nin0))
      have f1484 := f1470.keep Kq1478
      have f1485 := f1471.keep Kq1478 (ninS (Ne.symm ne_b1380_b1418) (ninS ne_b1418_zx1428 nin0))
      have f1486 := f1475.keep Kq1478
      have f1487 := f1464.keep Kq1478 (ninS (Ne.symm ne_b1380_b1464) (ninS (Ne.symm ne_zx1428_b1464) nin0))
      have K1478 : Keep h0 T1478.heap [] := K1464.trans Kq1478 (allS (Or.inr sz_b1380) (allS (Or.inr sz_zx1428) all0))
      have Z1478 := Nat.le_trans Z1464 Kq1478.1
      have hk1478 := Nat.le_trans hk1464 Kq1478.1
      refine own_s T1478 (mkF m 69 #[iv p1, iv p2, iv 3, iv 3, iv 0, rv b1380, u_, u_, u_, u_, u_] []) st1478 ?_
      refine own_s T1478 (mkF m 77 #[iv p1, iv p2, iv 3, iv 3, iv 0, rv b1380, u_, u_, u_, u_, u_] [.null, (.ref b1380)]) (fun _ k => XS.iloadN X1478.here hx rfl (hb hby at_69) rfl  (XS.iconst X1478.here hx rfl (hb hby at_70) (XS.icmpNo X1478.here hx rfl (hb hby at_71) rfl (flt (by decide : ¬ ((3 : Int32) < (3 : Int32)))).1 (XS.aload X1478.here hx rfl (hb hby at_74) rfl rfl (XS.aconstNull X1478.here hx rfl (hb hby at_76) k))))) ?_
      obtain ⟨sl1488, T1488, h1488, kk1488, X1488, e1488, E1488, hS, hk1488, hZ, hown, st1488⟩ := ldcS (s := s) X1478 hx hZ hown (own_h hw 165 rfl) (own_wS hw) rfl hS hk1478 (g := (mkF m 77 #[iv p1, iv p2, iv 3, iv 3, iv 0, rv b1380, u_, u_, u_, u_, u_] [.null, (.ref b1380)])) rfl (hb hby at_77) (n := 4) (by decide) (by decide) (by decide) (by decide)
      have f1489 := Sta.ext E1488 f1479
      have f1490 := Sta.ext E1488 f1480
      have f1491 := Exa.ext E1488 f1481
      have f1492 := Fld.ext E1488 f1482
      have f1493 := f1483.ext E1488
      have f1494 := Exa.ext E1488 q1478_0
      have f1495 := f1485.ext E1488
      have f1496 := Exa.ext E1488 q1478_7
      have f1497 := f1487.ext E1488
      have f1498 := Fld.ext E1488 q1478_1
      have f1499 := Fld.ext E1488 q1478_2
      have f1500 := Fld.ext E1488 q1478_3
      have f1501 := Exa.ext E1488 q1478_4
      have f1502 := Fld.ext E1488 q1478_5
      have f1503 := Fld.ext E1488 q1478_6
      have f1504 := Fld.ext E1488 q1478_8
      have f1505 := Fld.ext E1488 q1478_9
      have f1506 := Exa.ext E1488 q1478_10
      have f1507 := Fld.ext E1488 q1478_11
      have f1508 := Fld.ext E1488 q1478_12
      have f1509 := Fld.ext E1488 q1478_13
      have f1510 := q1478_14.ext E1488
      have K1488 : Keep h0 h1488 [] := K1478.ext E1488
      have Z1488 := Nat.le_trans Z1478 E1488.1
      refine own_s T1488 (mkF m 79 #[iv p1, iv p2, iv 3, iv 3, iv 0, rv b1380, u_, u_, u_, u_, u_] [(.ref sl1488), .null, (.ref b1380)]) st1488 ?_
      obtain ⟨sl1511, T1511, h1511, kk1511, X1511, e1511, E1511, hS, hk1511, hZ, hown, st1511⟩ := ldcS (s := s) X1488 hx hZ hown (own_h hw 165 rfl) (own_wS hw) e1488 hS hk1488 (g := (mkF m 79 #[iv p1, iv p2, iv 3, iv 3, iv 0, rv b1380, u_, u_, u_, u_, u_] [(.ref sl1488), .null, (.ref b1380)])) rfl (hb hby at_79) (n := 4) (by decide) (by decide) (by decide) (by decide)
      have f1512 := Sta.ext E1511 f1489
      have f1513 := Sta.ext E1511 f1490
      have f1514 := Exa.ext E1511 f1491
      have f1515 := Fld.ext E1511 f1492
      have f1516 := f1493.ext E1511
      have f1517 := Exa.ext E1511 f1494
      have f1518 := f1495.ext E1511
      have f1519 := Exa.ext E1511 f1496
      have f1520 := f1497.ext E1511
      have f1521 := Fld.ext E1511 f1498
      have f1522 := Fld.ext E1511 f1499
      have f1523 := Fld.ext E1511 f1500
      have f1524 := Exa.ext E1511 f1501
      have f1525 := Fld.ext E1511 f1502
      have f1526 := Fld.ext E1511 f1503
      have f1527 := Fld.ext E1511 f1504
      have f1528 := Fld.ext E1511 f1505
      have f1529 := Exa.ext E1511 f1506
      have f1530 := Fld.ext E1511 f1507
      have f1531 := Fld.ext E1511 f1508
      have f1532 := Fld.ext E1511 f1509
      have f1533 := f1510.ext E1511
      have K1511 : Keep h0 h1511 [] := K1488.ext E1511
      have Z1511 := Nat.le_trans Z1488 E1511.1
      refine own_s T1511 (mkF m 81 #[iv p1, iv p2, iv 3, iv 3, iv 0, rv b1380, u_, u_, u_, u_, u_] [(.ref sl1511), (.ref sl1488), .null, (.ref b1380)]) st1511 ?_
      refine own_s T1511 (mkF m 83 #[iv p1, iv p2, iv 3, iv 3, iv 0, rv b1380, u_, u_, u_, u_, u_] [(.int 0), .null, (.ref sl1511), (.ref sl1488), .null, (.ref b1380)]) (fun _ k => XS.aconstNull X1511.here hx rfl (hb hby at_81) (XS.iconst X1511.here hx rfl (hb hby at_82) k)) ?_
      obtain ⟨T1534, h1534, k1534, X1534, e1534, E1534, A1534, O1534, st1534⟩ := newR X1511 hx hZ hown (own_h hw 26 rfl) (own_h hw 11 rfl) e1511 (g := (mkF m 83 #[iv p1, iv p2, iv 3, iv 3, iv 0, rv b1380, u_, u_, u_, u_, u_] [(.int 0), .null, (.ref sl1511), (.ref sl1488), .null, (.ref b1380)])) rfl (hb hby at_83) rfl (by decide) (cap := 0) (by decide) (by decide) (by decide) (by decide)
      obtain ⟨b1534, g1534⟩ : ∃ z, z = h1511.size := ⟨_, rfl⟩
      have ne_oN_b1534 : oN ≠ b1534 := Nat.ne_of_lt (Nat.lt_of_lt_of_le f1514.lt (Nat.le_of_eq g1534.symm))
      have ne_oE_b1534 : oE ≠ b1534 := Nat.ne_of_lt (Nat.lt_of_lt_of_le f1516.lt (Nat.le_of_eq g1534.symm))
      have ne_b1380_b1534 : b1380 ≠ b1534 := Nat.ne_of_lt (Nat.lt_of_lt_of_le f1517.lt (Nat.le_of_eq g1534.symm))
      have ne_b1418_b1534 : b1418 ≠ b1534 := Nat.ne_of_lt (Nat.lt_of_lt_of_le f1518.lt (Nat.le_of_eq g1534.symm))
      have ne_zx1428_b1534 : zx1428 ≠ b1534 := Nat.ne_of_lt (Nat.lt_of_lt_of_le f1519.lt (Nat.le_of_eq g1534.symm))
      have ne_b1464_b1534 : b1464 ≠ b1534 := Nat.ne_of_lt (Nat.lt_of_lt_of_le f1520.lt (Nat.le_of_eq g1534.symm))
      have ne_zx1478_b1534 : zx1478 ≠ b1534 := Nat.ne_of_lt (Nat.lt_of_lt_of_le f1524.lt (Nat.le_of_eq g1534.symm))
      have ne_zli1478_b1534 : zli1478 ≠ b1534 := Nat.ne_of_lt (Nat.lt_of_lt_of_le f1529.lt (Nat.le_of_eq g1534.symm))
      have ne_zd1478_b1534 : zd1478 ≠ b1534 := Nat.ne_of_lt (Nat.lt_of_lt_of_le f1533.lt (Nat.le_of_eq g1534.symm))
      have g_b1534 : n0 ≤ b1534 := Nat.le_trans Z1511 (Nat.le_of_eq g1534.symm)
      have sz_b1534 : h0.size ≤ b1534 := Nat.le_trans K1511.1 (Nat.le_of_eq g1534.symm)
      rw [← g1534] at A1534 st1534
      have f1535 := Sta.ext E1534 f1512
      have f1536 := Sta.ext E1534 f1513
      have f1537 := Exa.ext E1534 f1514
      have f1538 := Fld.ext E1534 f1515
      have f1539 := f1516.ext E1534
      have f1540 := Exa.ext E1534 f1517
      have f1541 := f1518.ext E1534
      have f1542 := Exa.ext E1534 f1519
      have f1543 := f1520.ext E1534
      have f1544 := Fld.ext E1534 f1521
      have f1545 := Fld.ext E1534 f1522
      have f1546 := Fld.ext E1534 f1523
      have f1547 := Exa.ext E1534 f1524
      have f1548 := Fld.ext E1534 f1525
      have f1549 := Fld.ext E1534 f1526
      have f1550 := Fld.ext E1534 f1527
      have f1551 := Fld.ext E1534 f1528
      have f1552 := Exa.ext E1534 f1529
      have f1553 := Fld.ext E1534 f1530
      have f1554 := Fld.ext E1534 f1531
      have f1555 := Fld.ext E1534 f1532
      have f1556 := f1533.ext E1534
      have K1534 : Keep h0 h1534 [] := K1511.ext E1534
      have Z1534 := Nat.le_trans Z1511 E1534.1
      have hk1534 := Nat.le_trans hk1511 E1534.1
      have f1534 : Arv Z h1534 b1534 k1534 (.object "java/lang/String") 0 [] .null := (Arv.new A1534 (by decide)).pad (pad_rep [] .null 0)
      refine own_s T1534 (mkF m 86 #[iv p1, iv p2, iv 3, iv 3, iv 0, rv b1380, u_, u_, u_, u_, u_] [(.ref b1534), .null, (.ref sl1511), (.ref sl1488), .null, (.ref b1380)]) st1534 ?_
      refine own_s T1534 (mkF m 87 #[iv p1, iv p2, iv 3, iv 3, iv 0, rv b1380, u_, u_, u_, u_, u_] [.null, (.ref b1534), .null, (.ref sl1511), (.ref sl1488), .null, (.ref b1380)]) (fun _ k => XS.aconstNull X1534.here hx rfl (hb hby at_86) k) ?_
      obtain ⟨v1557, T1557, L1557, X1557, hQ1557, st1557⟩ := own_callV X1534 hx hZ (y := own_y17) (z := own_y17) (W := 0) (a := b1380) hown (own_h hw 27 rfl) (own_h hw 28 rfl) (notFace_of_selects (args := #[]) (mvT hZ (own_h hw 30 rfl))) (own_h hw 30 rfl) (own_h hw 29 rfl) (own_h hw 3 rfl) (own_h hw 31 rfl) (by decide) (own_rmst1_2 l Z a0 hw [] b1380 sl1488 sl1511 b1534 zx1478 zx1428 oN oA k1534 (.ref zx1428) h1534 n0 Z1534 g_b1380 f1540 f1544 f1545 f1546 f1535 f1536 f1534 ne_b1380_b1534 g_zx1478 f1547 f1548 f1549 ne_b1380_zx1478 ne_zx1478_b1534 rfl) (by decide) (by decide) f1540 (g := (mkF m 87 #[iv p1, iv p2, iv 3, iv 3, iv 0, rv b1380, u_, u_, u_, u_, u_] [.null, (.ref b1534), .null, (.ref sl1511), (.ref sl1488), .null, (.ref b1380)])) rfl (by rw [hml]; rfl) (argsL := [.null, (.ref sl1488), (.ref sl1511), .null, (.ref b1534), .null]) (rest := []) rfl (lenOf own_pd12 rfl) rfl (by show 2 * 0 + _ ≤ _; exact Nat.le_of_eq rfl) (hb hby at_87) e1534 (by decide) (by decide)
      obtain ⟨zx1557, zli1557, zd1557, zkd1557, rfl, Nq1557, Kq1557, g_zx1557, sq_zx1557, g_zli1557, sq_zli1557, g_zd1557, sq_zd1557, q1557_0, q1557_1, q1557_2, q1557_3, q1557_4, q1557_5, q1557_6, q1557_7, q1557_8, q1557_9, q1557_10, q1557_11, q1557_12, q1557_13, q1557_14, q1557_15, q1557_16, q1557_17, q1557_18⟩ := hQ1557
      have N1557 := Fr.app N1478 Nq1557
      have ne_oN_zx1557 : oN ≠ zx1557 := Nat.ne_of_lt (Nat.lt_of_lt_of_le f1537.lt sq_zx1557)
      have ne_oN_zli1557 : oN ≠ zli1557 := Nat.ne_of_lt (Nat.lt_of_lt_of_le f1537.lt sq_zli1557)
      have ne_oN_zd1557 : oN ≠ zd1557 := Nat.ne_of_lt (Nat.lt_of_lt_of_le f1537.lt sq_zd1557)
      have ne_oE_zx1557 : oE ≠ zx1557 := Nat.ne_of_lt (Nat.lt_of_lt_of_le f1539.lt sq_zx1557)
      have ne_oE_zli1557 : oE ≠ zli1557 := Nat.ne_of_lt (Nat.lt_of_lt_of_le f1539.lt sq_zli1557)
      have ne_oE_zd1557 : oE ≠ zd1557 := Nat.ne_of_lt (Nat.lt_of_lt_of_le f1539.lt sq_zd1557)
      have ne_b1380_zx1557 : b1380 ≠ zx1557 := Nat.ne_of_lt (Nat.lt_of_lt_of_le f1540.lt sq_zx1557)
      have ne_b1380_zli1557 : b1380 ≠ zli1557 := Nat.ne_of_lt (Nat.lt_of_lt_of_le f1540.lt sq_zli1557)
      have ne_b1380_zd1557 : b1380 ≠ zd1557 := Nat.ne_of_lt (Nat.lt_of_lt_of_le f1540.lt sq_zd1557)
      have ne_b1418_zx1557 : b1418 ≠ zx1557 := Nat.ne_of_lt (Nat.lt_of_lt_of_le f1541.lt sq_zx1557)
      have ne_b1418_zli1557 : b1418 ≠ zli1557 := Nat.ne_of_lt (Nat.lt_of_lt_of_le f1541.lt sq_zli1557)
      have ne_b1418_zd1557 : b1418 ≠ zd1557 := Nat.ne_of_lt (Nat.lt_of_lt_of_le f1541.lt sq_zd1557)
      have ne_zx1428_zx1557 : zx1428 ≠ zx1557 := Nat.ne_of_lt (Nat.lt_of_lt_of_le f1542.lt sq_zx1557)
      have ne_zx1428_zli1557 : zx1428 ≠ zli1557 := Nat.ne_of_lt (Nat.lt_of_lt_of_le f1542.lt sq_zli1557)
      have ne_zx1428_zd1557 : zx1428 ≠ zd1557 := Nat.ne_of_lt (Nat.lt_of_lt_of_le f1542.lt sq_zd1557)
      have ne_b1464_zx1557 : b1464 ≠ zx1557 := Nat.ne_of_lt (Nat.lt_of_lt_of_le f1543.lt sq_zx1557)
      have ne_b1464_zli1557 : b1464 ≠ zli1557 := Nat.ne_of_lt (Nat.lt_of_lt_of_le f1543.lt sq_zli1557)
      have ne_b1464_zd1557 : b1464 ≠ zd1557 := Nat.ne_of_lt (Nat.lt_of_lt_of_le f1543.lt sq_zd1557)
      have ne_zx1478_zx1557 : zx1478 ≠ zx1557 := Nat.ne_of_lt (Nat.lt_of_lt_of_le f1547.lt sq_zx1557)
      have ne_zx1478_zli1557 : zx1478 ≠ zli1557 := Nat.ne_of_lt (Nat.lt_of_lt_of_le f1547.lt sq_zli1557)
      have ne_zx1478_zd1557 : zx1478 ≠ zd1557 := Nat.ne_of_lt (Nat.lt_of_lt_of_le f1547.lt sq_zd1557)
      have ne_zli1478_zx1557 : zli1478 ≠ zx1557 := Nat.ne_of_lt (Nat.lt_of_lt_of_le f1552.lt sq_zx1557)
      have ne_zli1478_zli1557 : zli1478 ≠ zli1557 := Nat.ne_of_lt (Nat.lt_of_lt_of_le f1552.lt sq_zli1557)
      have ne_zli1478_zd1557 : zli1478 ≠ zd1557 := Nat.ne_of_lt (Nat.lt_of_lt_of_le f1552.lt sq_zd1557)
      have ne_zd1478_zx1557 : zd1478 ≠ zx1557 := Nat.ne_of_lt (Nat.lt_of_lt_of_le f1556.lt sq_zx1557)
      have ne_zd1478_zli1557 : zd1478 ≠ zli1557 := Nat.ne_of_lt (Nat.lt_of_lt_of_le f1556.lt sq_zli1557)
      have ne_zd1478_zd1557 : zd1478 ≠ zd1557 := Nat.ne_of_lt (Nat.lt_of_lt_of_le f1556.lt sq_zd1557)
      have ne_b1534_zx1557 : b1534 ≠ zx1557 := Nat.ne_of_lt (Nat.lt_of_lt_of_le f1534.lt sq_zx1557)
      have ne_b1534_zli1557 : b1534 ≠ zli1557 := Nat.ne_of_lt (Nat.lt_of_lt_of_le f1534.lt sq_zli1557)
      have ne_b1534_zd1557 : b1534 ≠ zd1557 := Nat.ne_of_lt (Nat.lt_of_lt_of_le f1534.lt sq_zd1557)
      have sz_zx1557 : h0.size ≤ zx1557 := Nat.le_trans K1534.1 sq_zx1557
      have sz_zli1557 : h0.size ≤ zli1557 := Nat.le_trans K1534.1 sq_zli1557
      have sz_zd1557 : h0.size ≤ zd1557 := Nat.le_trans K1534.1 sq_zd1557
      have f1558 := own_staKeepW f1535 Kq1557 (allS f1540.nostat (allS f1547.nostat all0))
      have f1559 := own_staKeepW f1536 Kq1557 (allS f1540.nostat (allS f1547.nostat all0))
      have f1560 := f1537.keep Kq1557
      have f1561 := f1538.keep Kq1557 (ninS ne_oN_b1380 (ninS ne_oN_zx1478 nin0))
      have f1562 := f1539.keep Kq1557 (ninS ne_oE_b1380 (ninS ne_oE_zx1478 nin0))
      have f1563 := f1540.keep Kq1557
      have f1564 := f1541.keep Kq1557 (ninS (Ne.symm ne_b1380_b1418) (ninS ne_b1418_zx1478 nin0))
      have f1565 := f1542.keep Kq1557
      have f1566 := f1543.keep Kq1557 (ninS (Ne.symm ne_b1380_b1464) (ninS ne_b1464_zx1478 nin0))
      have f1567 := f1547.keep Kq1557
      have f1568 := f1550.keep Kq1557 (ninS (Ne.symm ne_b1380_zx1428) (ninS ne_zx1428_zx1478 nin0))
      have f1569 := f1551.keep Kq1557 (ninS (Ne.symm ne_b1380_zx1428) (ninS ne_zx1428_zx1478 nin0))
      have f1570 := f1552.keep Kq1557
      have f1571 := f1553.keep Kq1557 (ninS (Ne.symm ne_b1380_zli1478) (ninS (Ne.symm q1478_17) nin0))
      have f1572 := f1554.keep Kq1557 (ninS (Ne.symm ne_b1380_zli1478) (ninS (Ne.symm q1478_17) nin0))
      have f1573 := f1555.keep Kq1557 (ninS (Ne.symm ne_b1380_zli1478) (ninS (Ne.symm q1478_17) nin0))
      have f1574 := f1556.keep Kq1557 (ninS (Ne.symm ne_b1380_zd1478) (ninS (Ne.symm q1478_18) nin0))
      have f1575 := f1534.keep Kq1557 (ninS (Ne.symm ne_b1380_b1534) (ninS (Ne.symm ne_zx1478_b1534) nin0))
      have K1557 : Keep h0 T1557.heap [] := K1534.trans Kq1557 (allS (Or.inr sz_b1380) (allS (Or.inr sz_zx1478) all0))
      have Z1557 := Nat.le_trans Z1534 Kq1557.1
      have hk1557 := Nat.le_trans hk1534 Kq1557.1
      refine own_s T1557 (mkF m 90 #[iv p1, iv p2, iv 3, iv 3, iv 0, rv b1380, u_, u_, u_, u_, u_] []) st1557 ?_
      refine own_s T1557 (mkF m 92 #[iv p1, iv p2, iv 3, iv 3, iv 0, rv b1380, u_, u_, u_, u_, u_] [(.ref b1380)]) (fun _ k => XS.aload X1557.here hx rfl (hb hby at_90) rfl rfl k) ?_
      obtain ⟨v1576, T1576, L1576, X1576, hQ1576, st1576⟩ := own_callV X1557 hx hZ (y := own_y22) (z := own_y22) (W := 0) (a := b1380) hown (own_h hw 72 rfl) (own_h hw 73 rfl) (notFace_of_selects (args := #[]) (mvT hZ (own_h hw 75 rfl))) (own_h hw 75 rfl) (own_h hw 74 rfl) (own_h hw 3 rfl) (own_h hw 76 rfl) (by decide) (own_rmend3 l Z a0 hw [] b1380 zx1557 zx1428 (.ref zx1478) T1557.heap n0 Z1557 g_b1380 q1557_0 q1557_1 q1557_2 q1557_3 q1557_4 q1557_6 ne_b1380_zx1557 rfl) (by decide) (by decide) q1557_0 (g := (mkF m 92 #[iv p1, iv p2, iv 3, iv 3, iv 0, rv b1380, u_, u_, u_, u_, u_] [(.ref b1380)])) rfl (by rw [hml]; rfl) (argsL := []) (rest := []) rfl (lenOf own_pd0 rfl) rfl (by show 2 * 0 + _ ≤ _; exact Nat.le_of_eq rfl) (hb hby at_92) rfl (by decide) (by decide)
      obtain ⟨rfl, Nq1576, Kq1576, q1576_0, q1576_1, q1576_2, q1576_3⟩ := hQ1576
      have N1576 := Fr.app N1557 Nq1576
      have f1577 := own_staKeepW f1558 Kq1576 (allS q1557_0.nostat all0)
      have f1578 := own_staKeepW f1559 Kq1576 (allS q1557_0.nostat all0)
      have f1579 := f1560.keep Kq1576
      have f1580 := f1561.keep Kq1576 (ninS ne_oN_b1380 nin0)
      have f1581 := f1562.keep Kq1576 (ninS ne_oE_b1380 nin0)
      have f1582 := q1557_0.keep Kq1576
      have f1583 := f1564.keep Kq1576 (ninS (Ne.symm ne_b1380_b1418) nin0)
      have f1584 := f1565.keep Kq1576
      have f1585 := f1566.keep Kq1576 (ninS (Ne.symm ne_b1380_b1464) nin0)
      have f1586 := q1557_7.keep Kq1576
      have f1587 := f1568.keep Kq1576 (ninS (Ne.symm ne_b1380_zx1428) nin0)
      have f1588 := f1569.keep Kq1576 (ninS (Ne.symm ne_b1380_zx1428) nin0)
      have f1589 := f1570.keep Kq1576
      have f1590 := f1571.keep Kq1576 (ninS (Ne.symm ne_b1380_zli1478) nin0)
      have f1591 := f1572.keep Kq1576 (ninS (Ne.symm ne_b1380_zli1478) nin0)
      have f1592 := f1573.keep Kq1576 (ninS (Ne.symm ne_b1380_zli1478) nin0)
      have f1593 := f1574.keep Kq1576 (ninS (Ne.symm ne_b1380_zd1478) nin0)
      have f1594 := f1575.keep Kq1576 (ninS (Ne.symm ne_b1380_b1534) nin0)
      have f1595 := q1557_4.keep Kq1576
      have f1596 := q1557_5.keep Kq1576 (ninS (Ne.symm ne_b1380_zx1557) nin0)
      have f1597 := q1557_6.keep Kq1576 (ninS (Ne.symm ne_b1380_zx1557) nin0)
      have f1598 := q1557_8.keep Kq1576 (ninS (Ne.symm ne_b1380_zx1478) nin0)
      have f1599 := q1557_9.keep Kq1576 (ninS (Ne.symm ne_b1380_zx1478) nin0)
      have f1600 := q1557_10.keep Kq1576
      have f1601 := q1557_11.keep Kq1576 (ninS (Ne.symm ne_b1380_zli1557) nin0)
      have f1602 := q1557_12.keep Kq1576 (ninS (Ne.symm ne_b1380_zli1557) nin0)
      have f1603 := q1557_13.keep Kq1576 (ninS (Ne.symm ne_b1380_zli1557) nin0)
      have f1604 := q1557_14.keep Kq1576 (ninS (Ne.symm ne_b1380_zd1557) nin0)
      have K1576 : Keep h0 T1576.heap [] := K1557.trans Kq1576 (allS (Or.inr sz_b1380) all0)
      have Z1576 := Nat.le_trans Z1557 Kq1576.1
      have hk1576 := Nat.le_trans hk1557 Kq1576.1
      refine own_s T1576 (mkF m 95 #[iv p1, iv p2, iv 3, iv 3, iv 0, rv b1380, u_, u_, u_, u_, u_] []) st1576 ?_
      refine own_s T1576 (mkF m 102 #[iv p1, iv p2, iv 3, iv 3, iv 0, rv b1380, u_, u_, u_, u_, u_] [(.ref b1380)]) (fun _ k => XS.iloadN X1576.here hx rfl (hb hby at_95) rfl  (XS.iconst X1576.here hx rfl (hb hby at_96) (XS.icmpNo X1576.here hx rfl (hb hby at_97) rfl (flt (by decide : ¬ ((3 : Int32) < (2 : Int32)))).1 (XS.aload X1576.here hx rfl (hb hby at_100) rfl rfl k)))) ?_
      obtain ⟨v1605, T1605, L1605, X1605, hQ1605, st1605⟩ := own_callV X1576 hx hZ (y := own_y22) (z := own_y22) (W := 0) (a := b1380) hown (own_h hw 72 rfl) (own_h hw 73 rfl) (notFace_of_selects (args := #[]) (mvT hZ (own_h hw 75 rfl))) (own_h hw 75 rfl) (own_h hw 74 rfl) (own_h hw 3 rfl) (own_h hw 76 rfl) (by decide) (own_rmend2 l Z a0 hw [] b1380 zx1478 zx1428 (.ref zx1428) T1576.heap n0 Z1576 g_b1380 q1576_0 q1576_1 q1576_2 q1576_3 f1586 f1599 ne_b1380_zx1478 rfl) (by decide) (by decide) q1576_0 (g := (mkF m 102 #[iv p1, iv p2, iv 3, iv 3, iv 0, rv b1380, u_, u_, u_, u_, u_] [(.ref b1380)])) rfl (by rw [hml]; rfl) (argsL := []) (rest := []) rfl (lenOf own_pd0 rfl) rfl (by show 2 * 0 + _ ≤ _; exact Nat.le_of_eq rfl) (hb hby at_102) rfl (by decide) (by decide)
      obtain ⟨rfl, Nq1605, Kq1605, q1605_0, q1605_1, q1605_2, q1605_3⟩ := hQ1605
      have N1605 := Fr.app N1576 Nq1605
      have f1606 := own_staKeepW f1577 Kq1605 (allS q1576_0.nostat all0)
      have f1607 := own_staKeepW f1578 Kq1605 (allS q1576_0.nostat all0)
      have f1608 := f1579.keep Kq1605
      have f1609 := f1580.keep Kq1605 (ninS ne_oN_b1380 nin0)
      have f1610 := f1581.keep Kq1605 (ninS ne_oE_b1380 nin0)
      have f1611 := q1576_0.keep Kq1605
      have f1612 := f1583.keep Kq1605 (ninS (Ne.symm ne_b1380_b1418) nin0)
      have f1613 := f1584.keep Kq1605
      have f1614 := f1585.keep Kq1605 (ninS (Ne.symm ne_b1380_b1464) nin0)
      have f1615 := f1586.keep Kq1605
      have f1616 := f1587.keep Kq1605 (ninS (Ne.symm ne_b1380_zx1428) nin0)
      have f1617 := f1588.keep Kq1605 (ninS (Ne.symm ne_b1380_zx1428) nin0)
      have f1618 := f1589.keep Kq1605
      have f1619 := f1590.keep Kq1605 (ninS (Ne.symm ne_b1380_zli1478) nin0)
      have f1620 := f1591.keep Kq1605 (ninS (Ne.symm ne_b1380_zli1478) nin0)
      have f1621 := f1592.keep Kq1605 (ninS (Ne.symm ne_b1380_zli1478) nin0)
      have f1622 := f1593.keep Kq1605 (ninS (Ne.symm ne_b1380_zd1478) nin0)
      have f1623 := f1594.keep Kq1605 (ninS (Ne.symm ne_b1380_b1534) nin0)
      have f1624 := f1595.keep Kq1605
      have f1625 := f1596.keep Kq1605 (ninS (Ne.symm ne_b1380_zx1557) nin0)
      have f1626 := f1597.keep Kq1605 (ninS (Ne.symm ne_b1380_zx1557) nin0)
      have f1627 := f1598.keep Kq1605 (ninS (Ne.symm ne_b1380_zx1478) nin0)
      have f1628 := f1599.keep Kq1605 (ninS (Ne.symm ne_b1380_zx1478) nin0)
      have f1629 := f1600.keep Kq1605
      have f1630 := f1601.keep Kq1605 (ninS (Ne.symm ne_b1380_zli1557) nin0)
      have f1631 := f1602.keep Kq1605 (ninS (Ne.symm ne_b1380_zli1557) nin0)
      have f1632 := f1603.keep Kq1605 (ninS (Ne.symm ne_b1380_zli1557) nin0)
      have f1633 := f1604.keep Kq1605 (ninS (Ne.symm ne_b1380_zd1557) nin0)
      have K1605 : Keep h0 T1605.heap [] := K1576.trans Kq1605 (allS (Or.inr sz_b1380) all0)
      have Z1605 := Nat.le_trans Z1576 Kq1605.1
      have hk1605 := Nat.le_trans hk1576 Kq1605.1
      refine own_s T1605 (mkF m 105 #[iv p1, iv p2, iv 3, iv 3, iv 0, rv b1380, u_, u_, u_, u_, u_] []) st1605 ?_
      refine own_s T1605 (mkF m 112 #[iv p1, iv p2, iv 3, iv 3, iv 0, rv b1380, u_, u_, u_, u_, u_] [(.ref b1380)]) (fun _ k => XS.iloadN X1605.here hx rfl (hb hby at_105) rfl  (XS.iconst X1605.here hx rfl (hb hby at_106) (XS.icmpNo X1605.here hx rfl (hb hby at_107) rfl (flt (by decide : ¬ ((3 : Int32) < (3 : Int32)))).1 (XS.aload X1605.here hx rfl (hb hby at_110) rfl rfl k)))) ?_
      obtain ⟨v1634, T1634, L1634, X1634, hQ1634, st1634⟩ := own_callV X1605 hx hZ (y := own_y22) (z := own_y22) (W := 0) (a := b1380) hown (own_h hw 72 rfl) (own_h hw 73 rfl) (notFace_of_selects (args := #[]) (mvT hZ (own_h hw 75 rfl))) (own_h hw 75 rfl) (own_h hw 74 rfl) (own_h hw 3 rfl) (own_h hw 76 rfl) (by decide) (own_rmend1 l Z a0 hw [] b1380 zx1428 zx1428 .null T1605.heap n0 Z1605 g_b1380 q1605_0 q1605_1 q1605_2 q1605_3 f1613 f1617 ne_b1380_zx1428 rfl) (by decide) (by decide) q1605_0 (g := (mkF m 112 #[iv p1, iv p2, iv 3, iv 3, iv 0, rv b1380, u_, u_, u_, u_, u_] [(.ref b1380)])) rfl (by rw [hml]; rfl) (argsL := []) (rest := []) rfl (lenOf own_pd0 rfl) rfl (by show 2 * 0 + _ ≤ _; exact Nat.le_of_eq rfl) (hb hby at_112) rfl (by decide) (by decide)
      obtain ⟨rfl, Nq1634, Kq1634, q1634_0, q1634_1, q1634_2, q1634_3⟩ := hQ1634
      have N1634 := Fr.app N1605 Nq1634
      have f1635 := own_staKeepW f1606 Kq1634 (allS q1605_0.nostat all0)
      have f1636 := own_staKeepW f1607 Kq1634 (allS q1605_0.nostat all0)
      have f1637 := f1608.keep Kq1634
      have f1638 := f1609.keep Kq1634 (ninS ne_oN_b1380 nin0)
      have f1639 := f1610.keep Kq1634 (ninS ne_oE_b1380 nin0)
      have f1640 := q1605_0.keep Kq1634
      have f1641 := f1612.keep Kq1634 (ninS (Ne.symm ne_b1380_b1418) nin0)
      have f1642 := f1613.keep Kq1634
      have f1643 := f1614.keep Kq1634 (ninS (Ne.symm ne_b1380_b1464) nin0)
      have f1644 := f1615.keep Kq1634
      have f1645 := f1616.keep Kq1634 (ninS (Ne.symm ne_b1380_zx1428) nin0)
      have f1646 := f1617.keep Kq1634 (ninS (Ne.symm ne_b1380_zx1428) nin0)
      have f1647 := f1618.keep Kq1634
      have f1648 := f1619.keep Kq1634 (ninS (Ne.symm ne_b1380_zli1478) nin0)
      have f1649 := f1620.keep Kq1634 (ninS (Ne.symm ne_b1380_zli1478) nin0)
      have f1650 := f1621.keep Kq1634 (ninS (Ne.symm ne_b1380_zli1478) nin0)
      have f1651 := f1622.keep Kq1634 (ninS (Ne.symm ne_b1380_zd1478) nin0)
      have f1652 := f1623.keep Kq1634 (ninS (Ne.symm ne_b1380_b1534) nin0)
      have f1653 := f1624.keep Kq1634
      have f1654 := f1625.keep Kq1634 (ninS (Ne.symm ne_b1380_zx1557) nin0)
      have f1655 := f1626.keep Kq1634 (ninS (Ne.symm ne_b1380_zx1557) nin0)
      have f1656 := f1627.keep Kq1634 (ninS (Ne.symm ne_b1380_zx1478) nin0)
      have f1657 := f1628.keep Kq1634 (ninS (Ne.symm ne_b1380_zx1478) nin0)
      have f1658 := f1629.keep Kq1634
      have f1659 := f1630.keep Kq1634 (ninS (Ne.symm ne_b1380_zli1557) nin0)
      have f1660 := f1631.keep Kq1634 (ninS (Ne.symm ne_b1380_zli1557) nin0)
      have f1661 := f1632.keep Kq1634 (ninS (Ne.symm ne_b1380_zli1557) nin0)
      have f1662 := f1633.keep Kq1634 (ninS (Ne.symm ne_b1380_zd1557) nin0)
      have K1634 : Keep h0 T1634.heap [] := K1605.trans Kq1634 (allS (Or.inr sz_b1380) all0)
      have Z1634 := Nat.le_trans Z1605 Kq1634.1
      have hk1634 := Nat.le_trans hk1605 Kq1634.1
      refine own_s T1634 (mkF m 115 #[iv p1, iv p2, iv 3, iv 3, iv 0, rv b1380, u_, u_, u_, u_, u_] []) st1634 ?_
      refine own_s T1634 (mkF m 117 #[iv p1, iv p2, iv 3, iv 3, iv 0, rv b1380, u_, u_, u_, u_, u_] [(.ref b1380)]) (fun _ k => XS.aload X1634.here hx rfl (hb hby at_115) rfl rfl k) ?_
      obtain ⟨v1663, T1663, L1663, X1663, hQ1663, st1663⟩ := own_callV X1634 hx hZ (y := own_y20) (z := own_y20) (W := 0) (a := b1380) hown (own_h hw 82 rfl) (own_h hw 83 rfl) (notFace_of_selects (args := #[]) (mvT hZ (own_h hw 85 rfl))) (own_h hw 85 rfl) (own_h hw 84 rfl) (own_h hw 3 rfl) (own_h hw 86 rfl) (by decide) (own_rmgdp l Z a0 hw [] b1380 (0 : Int32) T1634.heap n0 Z1634 q1634_3) (by decide) (by decide) q1634_0 (g := (mkF m 117 #[iv p1, iv p2, iv 3, iv 3, iv 0, rv b1380, u_, u_, u_, u_, u_] [(.ref b1380)])) rfl (by rw [hml]; rfl) (argsL := []) (rest := []) rfl (lenOf own_pd7 rfl) rfl (by show 2 * 0 + _ ≤ _; exact Nat.le_of_eq rfl) (hb hby at_117) rfl (by decide) (by decide)
      obtain ⟨rfl, Nq1663, e1663⟩ := hQ1663
      have N1663 := Fr.app N1634 Nq1663
      refine own_s T1663 (mkF m 120 #[iv p1, iv p2, iv 3, iv 3, iv 0, rv b1380, u_, u_, u_, u_, u_] [(.int 0)]) st1663 ?_
      refine own_s T1663 (mkF m 132 #[iv p1, iv p2, iv 3, iv 3, iv 0, rv b1380, iv 1, u_, u_, u_, u_] []) (fun _ k => XS.iload X1663.here hx rfl (hb hby at_120) rfl  (XS.icmpNo X1663.here hx rfl (hb hby at_122) rfl (teq (by decide : ((0 : Int32) = (0 : Int32)))).2 (XS.iconst X1663.here hx rfl (hb hby at_125) (XS.goto X1663.here hx rfl (pc0 := 126) (pc' := 130) rfl (hb hby at_126) (by decide) (by decide) (XS.istore X1663.here hx rfl (hb hby at_130) rfl (l' := #[iv p1, iv p2, iv 3, iv 3, iv 0, rv b1380, iv 1, u_, u_, u_, u_]) rfl k))))) ?_
      refine own_s T1663 (mkF m 179 #[iv p1, iv p2, iv 3, iv 3, iv 0, rv b1380, iv 1, u_, u_, u_, u_] [(.ref b1380)]) (fun _ k => XS.iload X1663.here hx rfl (hb hby at_132) rfl  (XS.ifYes X1663.here hx rfl (pc0 := 134) (pc' := 177) rfl (hb hby at_134) rfl ((if0 _ _).trans (flt (by decide : ¬ ((0 : Int32) < (0 : Int32)))).2.2.2) (by decide) (by decide) (XS.aload X1663.here hx rfl (hb hby at_177) rfl rfl k))) ?_
      obtain ⟨v1664, T1664, L1664, X1664, hQ1664, st1664⟩ := own_callV X1663 hx hZ (y := own_y21) (z := own_y21) (W := 0) (a := b1380) hown (own_h hw 87 rfl) (own_h hw 88 rfl) (notFace_of_selects (args := #[]) (mvT hZ (own_h hw 90 rfl))) (own_h hw 90 rfl) (own_h hw 89 rfl) (own_h hw 3 rfl) (own_h hw 91 rfl) (by decide) (own_rmgrt l Z a0 hw [] b1380 zx1428 T1634.heap n0 Z1634 q1634_2) (by decide) (by decide) q1634_0 (g := (mkF m 179 #[iv p1, iv p2, iv 3, iv 3, iv 0, rv b1380, iv 1, u_, u_, u_, u_] [(.ref b1380)])) rfl (by rw [hml]; rfl) (argsL := []) (rest := []) rfl (lenOf own_pd11 rfl) rfl (by show 2 * 0 + _ ≤ _; exact Nat.le_of_eq rfl) (hb hby at_179) e1663 (by decide) (by decide)
      obtain ⟨rfl, Nq1664, e1664⟩ := hQ1664
      have N1664 := Fr.app N1663 Nq1664
      refine own_s T1664 (mkF m 182 #[iv p1, iv p2, iv 3, iv 3, iv 0, rv b1380, iv 1, u_, u_, u_, u_] [(.ref zx1428)]) st1664 ?_
      refine own_s T1664 (mkF m 191 #[iv p1, iv p2, iv 3, iv 3, iv 0, rv b1380, iv 1, rv zx1428, u_, u_, u_] [(.ref zx1428)]) (fun _ k => XS.astore X1664.here hx rfl (hb hby at_182) rfl rfl (l' := #[iv p1, iv p2, iv 3, iv 3, iv 0, rv b1380, iv 1, rv zx1428, u_, u_, u_]) rfl (XS.aload X1664.here hx rfl (hb hby at_184) rfl rfl (XS.ifnullNo X1664.here hx rfl (hb hby at_186) rfl (XS.aload X1664.here hx rfl (hb hby at_189) rfl rfl k)))) ?_
      obtain ⟨v1665, T1665, L1665, X1665, hQ1665, st1665⟩ := own_callV X1664 hx hZ (y := own_y18) (z := own_y18) (W := 0) (a := zx1428) hown (own_h hw 92 rfl) (own_h hw 78 rfl) (notFace_of_selects (args := #[]) (mvT hZ (own_h hw 80 rfl))) (own_h hw 80 rfl) (own_h hw 79 rfl) (own_h hw 34 rfl) (own_h hw 81 rfl) (by decide) (own_rmgpar l Z a0 hw [] zx1428 .null T1634.heap n0 Z1634 f1646 rfl) (by decide) (by decide) f1642 (g := (mkF m 191 #[iv p1, iv p2, iv 3, iv 3, iv 0, rv b1380, iv 1, rv zx1428, u_, u_, u_] [(.ref zx1428)])) rfl (by rw [hml]; rfl) (argsL := []) (rest := []) rfl (lenOf own_pd11 rfl) rfl (by show 2 * 0 + _ ≤ _; exact Nat.le_of_eq rfl) (hb hby at_191) e1664 (by decide) (by decide)
      obtain ⟨rfl, Nq1665, e1665⟩ := hQ1665
      have N1665 := Fr.app N1664 Nq1665
      refine own_s T1665 (mkF m 194 #[iv p1, iv p2, iv 3, iv 3, iv 0, rv b1380, iv 1, rv zx1428, u_, u_, u_] [.null]) st1665 ?_
      refine own_s T1665 (mkF m 205 #[iv p1, iv p2, iv 3, iv 3, iv 0, rv b1380, iv 1, rv zx1428, u_, u_, u_] [(.int 1)]) (fun _ k => XS.ifnullYes X1665.here hx rfl (pc0 := 194) (pc' := 199) rfl (hb hby at_194) rfl (by decide) (by decide) (XS.iloadN X1665.here hx rfl (hb hby at_199) rfl  (XS.iconst X1665.here hx rfl (hb hby at_200) (XS.icmpNo X1665.here hx rfl (hb hby at_201) rfl (flt (by decide : ¬ ((3 : Int32) < (2 : Int32)))).1 (XS.iconst X1665.here hx rfl (hb hby at_204) k))))) ?_
      refine own_s T1665 (mkF m 220 #[iv p1, iv p2, iv 3, iv 3, iv 0, rv b1380, iv 1, rv zx1428, u_, u_, u_] [(.int 0), (.int 1)]) (fun _ k => XS.goto X1665.here hx rfl (pc0 := 205) (pc' := 209) rfl (hb hby at_205) (by decide) (by decide) (XS.iload X1665.here hx rfl (hb hby at_209) rfl  (XS.iconst X1665.here hx rfl (hb hby at_211) (XS.icmpYes X1665.here hx rfl (pc0 := 212) (pc' := 219) rfl (hb hby at_212) rfl (feq (by decide : ¬ ((0 : Int32) = (1 : Int32)))).2 (by decide) (by decide) (XS.iconst X1665.here hx rfl (hb hby at_219) k))))) ?_
      refine own_s T1665 (mkF m 230 #[iv p1, iv p2, iv 3, iv 3, iv 0, rv b1380, iv 1, rv zx1428, iv 1, u_, u_] [(.ref zx1428)]) (fun _ k => XS.iadd X1665.here hx rfl (hb hby at_220) rfl (XS.istore X1665.here hx rfl (hb hby at_221) rfl (l' := #[iv p1, iv p2, iv 3, iv 3, iv 0, rv b1380, iv 1, rv zx1428, iv 1, u_, u_]) rfl (XS.iload X1665.here hx rfl (hb hby at_223) rfl  (XS.ifNo X1665.here hx rfl (hb hby at_225) rfl ((if0 _ _).trans (feq (by decide : ¬ ((1 : Int32) = (0 : Int32)))).1) (XS.aload X1665.here hx rfl (hb hby at_228) rfl rfl k))))) ?_
      obtain ⟨v1666, T1666, L1666, X1666, hQ1666, st1666⟩ := own_callV X1665 hx hZ (y := own_y19) (z := own_y19) (W := 0) (a := zx1428) hown (own_h hw 93 rfl) (own_h hw 94 rfl) (notFace_of_selects (args := #[]) (mvT hZ (own_h hw 96 rfl))) (own_h hw 96 rfl) (own_h hw 95 rfl) (own_h hw 34 rfl) (own_h hw 97 rfl) (by decide) (own_rmgch l Z a0 hw [] zx1428 zli1478 T1634.heap n0 Z1634 f1645) (by decide) (by decide) f1642 (g := (mkF m 230 #[iv p1, iv p2, iv 3, iv 3, iv 0, rv b1380, iv 1, rv zx1428, iv 1, u_, u_] [(.ref zx1428)])) rfl (by rw [hml]; rfl) (argsL := []) (rest := []) rfl (lenOf own_pd13 rfl) rfl (by show 2 * 0 + _ ≤ _; exact Nat.le_of_eq rfl) (hb hby at_230) e1665 (by decide) (by decide)
      obtain ⟨rfl, Nq1666, e1666⟩ := hQ1666
      have N1666 := Fr.app N1665 Nq1666
      refine own_s T1666 (mkF m 233 #[iv p1, iv p2, iv 3, iv 3, iv 0, rv b1380, iv 1, rv zx1428, iv 1, u_, u_] [(.ref zli1478)]) st1666 ?_
      obtain ⟨v1667, T1667, L1667, X1667, hQ1667, st1667⟩ := own_callF X1666 hx hZ (y := own_y12) (z := own_y5) (W := 0) (a := zli1478) hown (own_h hw 98 rfl) (own_h hw 99 rfl) (mvT hZ (own_h hw 100 rfl)) (own_h hw 160 rfl) (own_h hw 161 rfl) (own_h hw 162 rfl) (own_h hw 163 rfl) (own_h hw 147 rfl) (own_h hw 117 rfl) (own_h hw 164 rfl) (by decide) (own_rmalsz l Z a0 hw [] zli1478 (1 : Int32) T1634.heap n0 Z1634 f1650) (by decide) (by decide) f1647 (g := (mkF m 233 #[iv p1, iv p2, iv 3, iv 3, iv 0, rv b1380, iv 1, rv zx1428, iv 1, u_, u_] [(.ref zli1478)])) rfl (by rw [hml]; rfl) (argsL := []) (rest := []) rfl (lenOf own_pd7 rfl) rfl (by show 2 * 0 + _ ≤ _; exact Nat.le_of_eq rfl) (hb hby at_233) e1666 (by decide) (by decide)
      obtain ⟨rfl, Nq1667, e1667⟩ := hQ1667
      have N1667 := Fr.app N1666 Nq1667
      refine own_s T1667 (mkF m 238 #[iv p1, iv p2, iv 3, iv 3, iv 0, rv b1380, iv 1, rv zx1428, iv 1, u_, u_] [(.int 1)]) st1667 ?_
      refine own_s T1667 (mkF m 250 #[iv p1, iv p2, iv 3, iv 3, iv 0, rv b1380, iv 1, rv zx1428, iv 1, u_, u_] []) (fun _ k => XS.iload X1667.here hx rfl (hb hby at_238) rfl  (XS.icmpNo X1667.here hx rfl (hb hby at_240) rfl (teq (by decide : ((1 : Int32) = (1 : Int32)))).2 (XS.iconst X1667.here hx rfl (hb hby at_243) (XS.goto X1667.here hx rfl (pc0 := 244) (pc' := 248) rfl (hb hby at_244) (by decide) (by decide) (XS.istore X1667.here hx rfl (hb hby at_248) rfl (l' := #[iv p1, iv p2, iv 3, iv 3, iv 0, rv b1380, iv 1, rv zx1428, iv 1, u_, u_]) rfl k))))) ?_
      refine own_s T1667 (mkF m 257 #[iv p1, iv p2, iv 3, iv 3, iv 0, rv b1380, iv 1, rv zx1428, iv 1, u_, u_] [(.ref zx1428)]) (fun _ k => XS.iloadN X1667.here hx rfl (hb hby at_250) rfl  (XS.iconst X1667.here hx rfl (hb hby at_251) (XS.icmpNo X1667.here hx rfl (hb hby at_252) rfl (flt (by decide : ¬ ((3 : Int32) < (2 : Int32)))).1 (XS.aload X1667.here hx rfl (hb hby at_255) rfl rfl k)))) ?_
      obtain ⟨v1668, T1668, L1668, X1668, hQ1668, st1668⟩ := own_callV X1667 hx hZ (y := own_y19) (z := own_y19) (W := 0) (a := zx1428) hown (own_h hw 93 rfl) (own_h hw 94 rfl) (notFace_of_selects (args := #[]) (mvT hZ (own_h hw 96 rfl))) (own_h hw 96 rfl) (own_h hw 95 rfl) (own_h hw 34 rfl) (own_h hw 97 rfl) (by decide) (own_rmgch l Z a0 hw [] zx1428 zli1478 T1634.heap n0 Z1634 f1645) (by decide) (by decide) f1642 (g := (mkF m 257 #[iv p1, iv p2, iv 3, iv 3, iv 0, rv b1380, iv 1, rv zx1428, iv 1, u_, u_] [(.ref zx1428)])) rfl (by rw [hml]; rfl) (argsL := []) (rest := []) rfl (lenOf own_pd13 rfl) rfl (by show 2 * 0 + _ ≤ _; exact Nat.le_of_eq rfl) (hb hby at_257) e1667 (by decide) (by decide)
      obtain ⟨rfl, Nq1668, e1668⟩ := hQ1668
      have N1668 := Fr.app N1667 Nq1668
      refine own_s T1668 (mkF m 260 #[iv p1, iv p2, iv 3, iv 3, iv 0, rv b1380, iv 1, rv zx1428, iv 1, u_, u_] [(.ref zli1478)]) st1668 ?_
      refine own_s T1668 (mkF m 261 #[iv p1, iv p2, iv 3, iv 3, iv 0, rv b1380, iv 1, rv zx1428, iv 1, u_, u_] [(.int 0), (.ref zli1478)]) (fun _ k => XS.iconst X1668.here hx rfl (hb hby at_260) k) ?_
      obtain ⟨v1669, T1669, L1669, X1669, hQ1669, st1669⟩ := own_callF X1668 hx hZ (y := own_y23) (z := own_y9) (W := 0) (a := zli1478) hown (own_h hw 167 rfl) (own_h hw 168 rfl) (mvT hZ (own_h hw 169 rfl)) (own_h hw 170 rfl) (own_h hw 171 rfl) (own_h hw 172 rfl) (own_h hw 173 rfl) (own_h hw 147 rfl) (own_h hw 117 rfl) (own_h hw 174 rfl) (by decide) (own_rmget_1 l Z a0 hw [] zli1478 zd1478 zkd1478 zx1478 T1634.heap n0 Z1634 f1647 f1650 f1649 f1651) (by decide) (by decide) f1647 (g := (mkF m 261 #[iv p1, iv p2, iv 3, iv 3, iv 0, rv b1380, iv 1, rv zx1428, iv 1, u_, u_] [(.int 0), (.ref zli1478)])) rfl (by rw [hml]; rfl) (argsL := [(.int 0)]) (rest := []) rfl (lenOf own_pd4 rfl) rfl (by show 2 * 0 + _ ≤ _; exact Nat.le_of_eq rfl) (hb hby at_261) e1668 (by decide) (by decide)
      obtain ⟨rfl, Nq1669, Kq1669⟩ := hQ1669
      have N1669 := Fr.app N1668 Nq1669
      have f1670 := own_staKeep f1635 Kq1669
      have f1671 := own_staKeep f1636 Kq1669
      have f1672 := f1637.keep Kq1669
      have f1673 := f1638.keep Kq1669 nin0
      have f1674 := f1639.keep Kq1669 nin0
      have f1675 := q1634_0.keep Kq1669
      have f1676 := f1641.keep Kq1669 nin0
      have f1677 := f1642.keep Kq1669
      have f1678 := f1643.keep Kq1669 nin0
      have f1679 := f1644.keep Kq1669
      have f1680 := f1645.keep Kq1669 nin0
      have f1681 := f1646.keep Kq1669 nin0
      have f1682 := f1647.keep Kq1669
      have f1683 := f1648.keep Kq1669 nin0
      have f1684 := f1649.keep Kq1669 nin0
      have f1685 := f1650.keep Kq1669 nin0
      have f1686 := f1651.keep Kq1669 nin0
      have f1687 := f1652.keep Kq1669 nin0
      have f1688 := f1653.keep Kq1669
      have f1689 := f1654.keep Kq1669 nin0
      have f1690 := f1655.keep Kq1669 nin0
      have f1691 := f1656.keep Kq1669 nin0
      have f1692 := f1657.keep Kq1669 nin0
      have f1693 := f1658.keep Kq1669
      have f1694 := f1659.keep Kq1669 nin0
      have f1695 := f1660.keep Kq1669 nin0
      have f1696 := f1661.keep Kq1669 nin0
      have f1697 := f1662.keep Kq1669 nin0
      have f1698 := q1634_1.keep Kq1669 nin0
      have f1699 := q1634_2.keep Kq1669 nin0
      have f1700 := q1634_3.keep Kq1669 nin0
      have K1669 : Keep h0 T1669.heap [] := K1634.trans Kq1669 all0
      have Z1669 := Nat.le_trans Z1634 Kq1669.1
      have hk1669 := Nat.le_trans hk1634 Kq1669.1
      refine own_s T1669 (mkF m 266 #[iv p1, iv p2, iv 3, iv 3, iv 0, rv b1380, iv 1, rv zx1428, iv 1, u_, u_] [(.ref zx1478)]) st1669 ?_
      obtain ⟨T1701, X1701, e1701, st1701⟩ := castY X1669 hx hZ hown (own_h hw 188 rfl) rfl (Ins.self f1679) (g := (mkF m 266 #[iv p1, iv p2, iv 3, iv 3, iv 0, rv b1380, iv 1, rv zx1428, iv 1, u_, u_] [(.ref zx1478)])) rfl rfl (hb hby at_266)
      refine own_s T1701 (mkF m 269 #[iv p1, iv p2, iv 3, iv 3, iv 0, rv b1380, iv 1, rv zx1428, iv 1, u_, u_] [(.ref zx1478)]) st1701 ?_
      refine own_s T1701 (mkF m 277 #[iv p1, iv p2, iv 3, iv 3, iv 0, rv b1380, iv 1, rv zx1428, iv 1, rv zx1478, u_] [(.int 1)]) (fun _ k => XS.astore X1701.here hx rfl (hb hby at_269) rfl rfl (l' := #[iv p1, iv p2, iv 3, iv 3, iv 0, rv b1380, iv 1, rv zx1428, iv 1, rv zx1478, u_]) rfl (XS.iloadN X1701.here hx rfl (hb hby at_271) rfl  (XS.iconst X1701.here hx rfl (hb hby at_272) (XS.icmpNo X1701.here hx rfl (hb hby at_273) rfl (flt (by decide : ¬ ((3 : Int32) < (3 : Int32)))).1 (XS.iconst X1701.here hx rfl (hb hby at_276) k))))) ?_
      refine own_s T1701 (mkF m 292 #[iv p1, iv p2, iv 3, iv 3, iv 0, rv b1380, iv 1, rv zx1428, iv 1, rv zx1478, u_] [(.int 0), (.int 1)]) (fun _ k => XS.goto X1701.here hx rfl (pc0 := 277) (pc' := 281) rfl (hb hby at_277) (by decide) (by decide) (XS.iload X1701.here hx rfl (hb hby at_281) rfl  (XS.iconst X1701.here hx rfl (hb hby at_283) (XS.icmpYes X1701.here hx rfl (pc0 := 284) (pc' := 291) rfl (hb hby at_284) rfl (feq (by decide : ¬ ((0 : Int32) = (2 : Int32)))).2 (by decide) (by decide) (XS.iconst X1701.here hx rfl (hb hby at_291) k))))) ?_
      refine own_s T1701 (mkF m 302 #[iv p1, iv p2, iv 3, iv 3, iv 0, rv b1380, iv 1, rv zx1428, iv 1, rv zx1478, iv 1] [(.ref zx1478)]) (fun _ k => XS.iadd X1701.here hx rfl (hb hby at_292) rfl (XS.istore X1701.here hx rfl (hb hby at_293) rfl (l' := #[iv p1, iv p2, iv 3, iv 3, iv 0, rv b1380, iv 1, rv zx1428, iv 1, rv zx1478, iv 1]) rfl (XS.iload X1701.here hx rfl (hb hby at_295) rfl  (XS.ifNo X1701.here hx rfl (hb hby at_297) rfl ((if0 _ _).trans (feq (by decide : ¬ ((1 : Int32) = (0 : Int32)))).1) (XS.aload X1701.here hx rfl (hb hby at_300) rfl rfl k))))) ?_
      obtain ⟨v1702, T1702, L1702, X1702, hQ1702, st1702⟩ := own_callV X1701 hx hZ (y := own_y19) (z := own_y19) (W := 0) (a := zx1478) hown (own_h hw 93 rfl) (own_h hw 94 rfl) (notFace_of_selects (args := #[]) (mvT hZ (own_h hw 96 rfl))) (own_h hw 96 rfl) (own_h hw 95 rfl) (own_h hw 34 rfl) (own_h hw 97 rfl) (by decide) (own_rmgch l Z a0 hw [] zx1478 zli1557 T1669.heap n0 Z1669 f1691) (by decide) (by decide) f1679 (g := (mkF m 302 #[iv p1, iv p2, iv 3, iv 3, iv 0, rv b1380, iv 1, rv zx1428, iv 1, rv zx1478, iv 1] [(.ref zx1478)])) rfl (by rw [hml]; rfl) (argsL := []) (rest := []) rfl (lenOf own_pd13 rfl) rfl (by show 2 * 0 + _ ≤ _; exact Nat.le_of_eq rfl) (hb hby at_302) e1701 (by decide) (by decide)
      obtain ⟨rfl, Nq1702, e1702⟩ := hQ1702
      have N1702 := Fr.app N1669 Nq1702
      refine own_s T1702 (mkF m 305 #[iv p1, iv p2, iv 3, iv 3, iv 0, rv b1380, iv 1, rv zx1428, iv 1, rv zx1478, iv 1] [(.ref zli1557)]) st1702 ?_
      obtain ⟨v1703, T1703, L1703, X1703, hQ1703, st1703⟩ := own_callF X1702 hx hZ (y := own_y12) (z := own_y5) (W := 0) (a := zli1557) hown (own_h hw 98 rfl) (own_h hw 99 rfl) (mvT hZ (own_h hw 100 rfl)) (own_h hw 160 rfl) (own_h hw 161 rfl) (own_h hw 162 rfl) (own_h hw 163 rfl) (own_h hw 147 rfl) (own_h hw 117 rfl) (own_h hw 164 rfl) (by decide) (own_rmalsz l Z a0 hw [] zli1557 (1 : Int32) T1669.heap n0 Z1669 f1696) (by decide) (by decide) f1693 (g := (mkF m 305 #[iv p1, iv p2, iv 3, iv 3, iv 0, rv b1380, iv 1, rv zx1428, iv 1, rv zx1478, iv 1] [(.ref zli1557)])) rfl (by rw [hml]; rfl) (argsL := []) (rest := []) rfl (lenOf own_pd7 rfl) rfl (by show 2 * 0 + _ ≤ _; exact Nat.le_of_eq rfl) (hb hby at_305) e1702 (by decide) (by decide)
      obtain ⟨rfl, Nq1703, e1703⟩ := hQ1703
      have N1703 := Fr.app N1702 Nq1703
      refine own_s T1703 (mkF m 310 #[iv p1, iv p2, iv 3, iv 3, iv 0, rv b1380, iv 1, rv zx1428, iv 1, rv zx1478, iv 1] [(.int 1)]) st1703 ?_
      refine own_s T1703 (mkF m 322 #[iv p1, iv p2, iv 3, iv 3, iv 0, rv b1380, iv 1, rv zx1428, iv 1, rv zx1478, iv 1] []) (fun _ k => XS.iload X1703.here hx rfl (hb hby at_310) rfl  (XS.icmpNo X1703.here hx rfl (hb hby at_312) rfl (teq (by decide : ((1 : Int32) = (1 : Int32)))).2 (XS.iconst X1703.here hx rfl (hb hby at_315) (XS.goto X1703.here hx rfl (pc0 := 316) (pc' := 320) rfl (hb hby at_316) (by decide) (by decide) (XS.istore X1703.here hx rfl (hb hby at_320) rfl (l' := #[iv p1, iv p2, iv 3, iv 3, iv 0, rv b1380, iv 1, rv zx1428, iv 1, rv zx1478, iv 1]) rfl k))))) ?_
      refine own_s T1703 (mkF m 324 #[iv p1, iv p2, iv 3, iv 3, iv 0, rv b1380, iv 1, rv zx1428, iv 1, rv zx1478, iv 1] [(.int 1)]) (fun _ k => XS.iload X1703.here hx rfl (hb hby at_322) rfl  k) ?_
      exact own_finZ X1703 hx (t := .boolean) hret (by simp) (z' := (1 : Int32)) rfl (hb hby at_324) (own_endW (Qv := (own_Q0 Z p1 p2 oN oA oE kE h0 n0)) X1703 hS (own_some hret) hlk (by decide) (by decide) e1703 hk1669 (fun vm' hv' => ⟨rfl, N1703⟩))
set_option maxRecDepth 65536 in
set_option maxHeartbeats 40000000 in
theorem comes_1 {Post : Tables → Env → Array Value → State → Outcome → State → Prop} (hpost : ∀ tb e args s v u, (limb_1_1.after args s (.returned v) u = true ∧ limb_1_2.after args s (.returned v) u = true ∧ True) → ReturnedEndW s (.returned v) u (Jvm.fieldLocs frame_1_writes args s ++ Jvm.arrayLocs frame_1_arrays args s ++ Jvm.staticLocs frame_1_statics s) 48 4416 → Post tb e args s (.returned v) u) :
    ArmFor flags0 classFile x code maxLocals ret World_1 tables_1 room_1 Calls_1 rest_1 Pre_1 Post := by
  intro l hfl _ _ p e ha hc hk s m args below hf hA hF happ hP
  obtain ⟨hcalls, hrest, hpre⟩ := hP
  obtain ⟨-, -, -, hnamed, -, -, -, hat⟩ := (Spec.applies_iff hf).mp happ
  obtain ⟨hg, hn⟩ := and_e (Cond.before_iff.mp (show (Jvm.Cond.and given_1 narrow_1).before args s = true from hpre))
  obtain ⟨g1, g2⟩ := and_e hg
  obtain ⟨g3, g4⟩ := and_e g2
  obtain ⟨w0, w1, rfl⟩ : ∃ w0 w1 : Value, args = #[w0, w1] := by
    have hs : args.size = 2 := by simpa [Cond.value, given_1] using g1
    obtain ⟨L⟩ := args
    match L, hs with
    | [w0, w1], _ => exact ⟨w0, w1, rfl⟩
  have hw := fun d (hd : d ∈ tables_1) => atoms_spec (ws := Jvm.Cond.code x code maxLocals ret :: tables_1) hat d (List.mem_cons_of_mem _ hd)
  have hfit : Fit s := fun {y c} hc i hi => by
    obtain ⟨ha, rfl⟩ := Array.getElem?_eq_some_iff.mp hc
    have q := List.all_eq_true.mp ((Array.all_eq_true_iff_forall_mem.mp hF) _ (Array.getElem_mem ha)) i (List.mem_range.mpr hi)
    simpa [Array.getElem?_eq_getElem hi] using q
  obtain ⟨i0, ei0⟩ := is_v g3
  obtain rfl : w0 = (.int i0) := Option.some.inj ei0
  obtain ⟨i1, ei1⟩ := is_v g4
  obtain rfl : w1 = (.int i1) := Option.some.inj ei1
  obtain ⟨nE, hn⟩ := and_e hn
  obtain ⟨nA, hn⟩ := and_e hn
  obtain ⟨nL, hn⟩ := and_e hn
  obtain ⟨nF, nM⟩ := and_e hn
  obtain ⟨oN, evN⟩ := exa_v nE
  have EN := Exa.start evN nE
  have SN := Sta.start evN (Or.inr ⟨(own_h hw 34 rfl), (own_h hw 42 rfl)⟩)
  obtain ⟨oA, evA⟩ := arr_v nA
  have SA := Sta.start evA (Or.inr ⟨(own_h hw 34 rfl), (own_h hw 54 rfl)⟩)
  obtain ⟨oE, evE⟩ := arr_v nF
  have FE := own_fldR evN evE
  obtain ⟨cE, RE⟩ := Arr.start evE nF
  obtain ⟨lz, ls⟩ := own_lenAt nM evE RE
  have AE := Arv.start (vs := []) (dv := .null) hfit RE lz ls (by decide) rfl trivial
  obtain ⟨n, o, h1, h2, h3, _, L, rfl, ⟨rfl, N⟩, hq⟩ := own_rm0 l s _ hw tables_1 i0 i1 oN oA oE cE.cls s.heap s.heap.size (Nat.le_refl _) SN SA EN FE AE p e ha hc hk s m _ below hf ((Spec.applies_iff_loose hf).mp happ).1 ⟨rfl, State.Warmed39.refl s, rfl, trivial⟩ trivial
  refine ⟨n, _, h1, h2, h3, hpost _ _ _ _ _ _ ⟨Cond.after_iff.mpr rfl, Cond.after_iff.mpr (eq_i res_at (Term.int_eval (1)) rfl), trivial⟩ ⟨hq.1, hq.2.1, hq.2.2.1, (hq.2.2.2.sift fun y hy => Or.inr (N y hy)).mono (by decide) (by decide)⟩⟩
theorem main_1_1 : Claimed_1_1 := comes_1 fun _ _ _ _ _ _ h hF => ⟨h.1, hF⟩
theorem main_1_2 : Claimed_1_2 := comes_1 fun _ _ _ _ _ _ h hF => ⟨h.2.1, hF⟩
end Jvm.Pilot.@@N@@
namespace Jvm.Pilot.@@N@@
open Jvm Jvm.ClassFile Sem Op Lib Jvm.Free Jvm.Stand Jvm.Pilot.@@N@@.Jvm.D
/-! MADE BY PROGRAM (witnessworld.py) out of the Statement's table words and the real class files: 30 classes; the members and pool entries that the words name. The judged class is class 1, her method 1. -/
namespace start1
open Jvm.ClassFile
def u (s : String) : CpInfo := .utf8 (stringToUtf16 s)
/-- a pool by its gaps: so many unusable entries, then the entry; so many at the end -/
def gap : Nat → List CpInfo → List CpInfo
  | 0, r => r
  | n + 1, r => .unusable :: gap n r
def poolList (es : List (Nat × CpInfo)) (last : Nat) : List CpInfo := es.foldr (fun e r => gap e.1 (e.2 :: r)) (gap last [])
def pool (es : List (Nat × CpInfo)) (last : Nat) : Array CpInfo := ⟨poolList es last⟩
def fileOf (pool : Array CpInfo) (this : Nat) (attrs : Array Attribute := #[]) (ms : Array MethodInfo := #[]) (fl : Nat := 33) (sup : Nat := 0) (ifs : Array Nat := #[]) (fds : Array FieldInfo := #[]) : ClassFile where
  minorVersion := 0
  majorVersion := 65
  constantPool := pool
  accessFlags := fl
  thisClass := this
  superClass := sup
  interfaces := ifs
  fields := fds
  methods := ms
  attributes := attrs
def plain (name : String) (sup : Option ClassId) : Class where
  name := name
  kind := .ordinary
  loader := none
  accessFlags := 33
  super := sup
  interfaces := #[]
  cf := none
  fields := #[]
  methods := #[]
  instanceTypes := #[]
  staticTypes := #[]
  resolved := #[]
  callSites := []
  init := .initialized
  statics := none
  mirror := none

def pool0 : Array CpInfo := pool [(5, u "<init>"), (0, u "()V"), (1, .class_ 10), (1, u "java/lang/Object")] 113

def k0c0 : Code := { maxStack := 0, maxLocals := 1, code := object_method_1_code, exceptionTable := #[], attributes := #[] }
def k0m0 : Method := { name := "<init>", desc := "()V", sig := { parameters := [], returnType := none }, accessFlags := 1, code := some k0c0 }
/-- java/lang/Object -/
def k0 : Class := { plain "java/lang/Object" none with
  accessFlags := 33
  interfaces := #[]
  cf := some (fileOf pool0 8 #[] #[{ accessFlags := 1, nameIndex := 5, descriptorIndex := 6, attributes := #[] }] 33 0 #[] #[])
  fields := #[]
  methods := #[k0m0]
  instanceTypes := #[]
  staticTypes := #[]
  resolved := Array.replicate 124 none
  statics := none }

def pool1 : Array CpInfo := pool [(2, .class_ 4), (0, .nameAndType 5 6), (0, u "java/lang/Object"), (0, u "<init>"), (0, u "()V"), (0, .integer 2147483647), (0, .class_ 9), (0, u "com/example/tagwright/tagwright/XmlTree"), (0, .methodref 8 3), (0, .string 12), (0, u "r"), (0, .class_ 14), (0, u "java/lang/String"), (0, .methodref 8 16), (0, .nameAndType 17 18), (0, u "start"), (0, u "(Ljava/lang/String;Ljava/lang/String;Ljava/lang/String;Ljava/util/List;[Ljava/lang/String;Lcom/example/tagwright/tagwright/Location;)V"), (0, .string 20), (0, u "a"), (0, .string 22), (0, u "b"), (0, .methodref 8 24), (0, .nameAndType 25 6), (0, u "end"), (0, .methodref 8 27), (0, .nameAndType 28 29), (0, u "depth"), (0, u "()I"), (0, .string 31), (0, u "c"), (0, .methodref 8 33), (0, .nameAndType 34 35), (0, u "root"), (0, u "()Lcom/example/tagwright/tagwright/XmlElement;"), (0, .methodref 37 38), (0, .class_ 39), (0, .nameAndType 40 35), (0, u "com/example/tagwright/tagwright/XmlElement"), (0, u "parent"), (0, .methodref 37 42), (0, .nameAndType 43 44), (0, u "children"), (0, u "()Ljava/util/List;"), (0, .interfaceMethodref 46 47), (0, .class_ 48), (0, .nameAndType 49 29), (0, u "java/util/List"), (0, u "size"), (0, .interfaceMethodref 46 51), (0, .nameAndType 52 53), (0, u "get"), (0, u "(I)Ljava/lang/Object;"), (0, .class_ 55), (0, u "com/example/tagwright/tagwright/XmlTreeEndPinLaw"), (2, u "law"), (0, u "(II)Z")] 3

def k1m0 : Method := { name := "<init>", desc := "()V", sig := { parameters := [], returnType := none }, accessFlags := 1, code := none }
def k1c1 : Code := { maxStack := 7, maxLocals := 11, code := code, exceptionTable := #[], attributes := #[] }
def k1m1 : Method := { name := "law", desc := "(II)Z", sig := { parameters := [.int, .int], returnType := some .boolean }, accessFlags := 9, code := some k1c1 }
/-- com/example/tagwright/tagwright/XmlTreeEndPinLaw -/
def k1 : Class := { plain "com/example/tagwright/tagwright/XmlTreeEndPinLaw" (some 0) with
  accessFlags := 49
  interfaces := #[]
  cf := some (fileOf pool1 54 #[] #[{ accessFlags := 1, nameIndex := 5, descriptorIndex := 6, attributes := #[] }, { accessFlags := 9, nameIndex := 58, descriptorIndex := 59, attributes := #[] }] 49 2 #[] #[])
  fields := #[]
  methods := #[k1m0, k1m1]
  instanceTypes := #[]
  staticTypes := #[]
  resolved := Array.replicate 63 none
  statics := none }

def pool2 : Array CpInfo := pool [(1, .methodref 2 3), (0, .class_ 4), (0, .nameAndType 5 6), (0, u "java/lang/Object"), (0, u "<init>"), (0, u "()V"), (0, .class_ 8), (0, u "com/example/tagwright/tagwright/XmlTree"), (0, .class_ 10), (0, u "java/lang/String"), (0, .fieldref 7 12), (0, .nameAndType 13 14), (0, u "whiteSpaces"), (0, u "[Ljava/lang/String;"), (0, .class_ 16), (0, u "[B"), (0, .fieldref 7 18), (0, .nameAndType 19 20), (0, u "whiteSpaceBytes"), (0, u "[[B"), (0, .class_ 22), (0, u "com/example/tagwright/tagwright/XmlElement"), (0, .fieldref 7 24), (0, .nameAndType 25 26), (0, u "current"), (0, u "Lcom/example/tagwright/tagwright/XmlElement;"), (0, .methodref 21 28), (0, .nameAndType 5 29), (0, u "(Ljava/lang/String;Ljava/lang/String;Ljava/lang/String;Ljava/util/List;[Ljava/lang/String;Lcom/example/tagwright/tagwright/Location;Lcom/example/tagwright/tagwright/XmlElement;)V"), (0, .fieldref 7 31), (0, .nameAndType 32 26), (0, u "root"), (0, .fieldref 7 34), (0, .nameAndType 35 36), (0, u "depth"), (0, u "I"), (0, .methodref 21 38), (0, .nameAndType 39 40), (0, u "parent"), (0, u "()Lcom/example/tagwright/tagwright/XmlElement;"), (16, u "whiteSpacesKept"), (33, u "WHITE_SPACES_KEPT"), (4, u "start"), (0, u "(Ljava/lang/String;Ljava/lang/String;Ljava/lang/String;Ljava/util/List;[Ljava/lang/String;Lcom/example/tagwright/tagwright/Location;)V"), (3, u "end"), (4, u "()I")] 6

def k2c0 : Code := { maxStack := 2, maxLocals := 1, code := prog_111_method_1_code, exceptionTable := #[], attributes := #[] }
def k2m0 : Method := { name := "<init>", desc := "()V", sig := { parameters := [], returnType := none }, accessFlags := 0, code := some k2c0 }
def k2c1 : Code := { maxStack := 10, maxLocals := 7, code := prog_111_method_2_code, exceptionTable := #[], attributes := #[] }
def k2m1 : Method := { name := "start", desc := "(Ljava/lang/String;Ljava/lang/String;Ljava/lang/String;Ljava/util/List;[Ljava/lang/String;Lcom/example/tagwright/tagwright/Location;)V", sig := { parameters := [(.object "java/lang/String"), (.object "java/lang/String"), (.object "java/lang/String"), (.object "java/util/List"), (.array (.object "java/lang/String")), (.object "com/example/tagwright/tagwright/Location")], returnType := none }, accessFlags := 0, code := some k2c1 }
def k2c2 : Code := { maxStack := 3, maxLocals := 1, code := prog_111_method_3_code, exceptionTable := #[], attributes := #[] }
def k2m2 : Method := { name := "end", desc := "()V", sig := { parameters := [], returnType := none }, accessFlags := 0, code := some k2c2 }
def k2c3 : Code := { maxStack := 1, maxLocals := 1, code := prog_111_method_8_code, exceptionTable := #[], attributes := #[] }
def k2m3 : Method := { name := "depth", desc := "()I", sig := { parameters := [], returnType := some .int }, accessFlags := 0, code := some k2c3 }
def k2c4 : Code := { maxStack := 1, maxLocals := 1, code := prog_111_method_9_code, exceptionTable := #[], attributes := #[] }
def k2m4 : Method := { name := "root", desc := "()Lcom/example/tagwright/tagwright/XmlElement;", sig := { parameters := [], returnType := some (.object "com/example/tagwright/tagwright/XmlElement") }, accessFlags := 0, code := some k2c4 }
/-- com/example/tagwright/tagwright/XmlTree -/
def k2 : Class := { plain "com/example/tagwright/tagwright/XmlTree" (some 0) with
  accessFlags := 48
  interfaces := #[]
  cf := some (fileOf pool2 7 #[] #[{ accessFlags := 0, nameIndex := 5, descriptorIndex := 6, attributes := #[] }, { accessFlags := 0, nameIndex := 96, descriptorIndex := 97, attributes := #[] }, { accessFlags := 0, nameIndex := 101, descriptorIndex := 6, attributes := #[] }, { accessFlags := 0, nameIndex := 35, descriptorIndex := 106, attributes := #[] }, { accessFlags := 0, nameIndex := 32, descriptorIndex := 40, attributes := #[] }] 48 2 #[] #[{ accessFlags := 26, nameIndex := 91, descriptorIndex := 36, attributes := #[] }, { accessFlags := 18, nameIndex := 13, descriptorIndex := 14, attributes := #[] }, { accessFlags := 18, nameIndex := 19, descriptorIndex := 20, attributes := #[] }, { accessFlags := 2, nameIndex := 57, descriptorIndex := 36, attributes := #[] }, { accessFlags := 2, nameIndex := 32, descriptorIndex := 26, attributes := #[] }, { accessFlags := 2, nameIndex := 25, descriptorIndex := 26, attributes := #[] }, { accessFlags := 2, nameIndex := 35, descriptorIndex := 36, attributes := #[] }])
  fields := #[{ name := "WHITE_SPACES_KEPT", type := .int, accessFlags := 26, slot := 0, constantValue := 0 }, { name := "whiteSpaces", type := (.array (.object "java/lang/String")), accessFlags := 18, slot := 0, constantValue := 0 }, { name := "whiteSpaceBytes", type := (.array (.array .byte)), accessFlags := 18, slot := 1, constantValue := 0 }, { name := "whiteSpacesKept", type := .int, accessFlags := 2, slot := 2, constantValue := 0 }, { name := "root", type := (.object "com/example/tagwright/tagwright/XmlElement"), accessFlags := 2, slot := 3, constantValue := 0 }, { name := "current", type := (.object "com/example/tagwright/tagwright/XmlElement"), accessFlags := 2, slot := 4, constantValue := 0 }, { name := "depth", type := .int, accessFlags := 2, slot := 5, constantValue := 0 }]
  methods := #[k2m0, k2m1, k2m2, k2m3, k2m4]
  instanceTypes := #[(.array (.object "java/lang/String")), (.array (.array .byte)), .int, (.object "com/example/tagwright/tagwright/XmlElement"), (.object "com/example/tagwright/tagwright/XmlElement"), .int]
  staticTypes := #[.int]
  resolved := Array.replicate 113 none
  statics := none }

def pool3 : Array CpInfo := pool [(1, .class_ 2), (0, u "java/io/Serializable"), (0, .class_ 4), (0, u "java/lang/Object")] 2

/-- java/io/Serializable -/
def k3 : Class := { plain "java/io/Serializable" (some 0) with
  accessFlags := 1537
  interfaces := #[]
  cf := some (fileOf pool3 1 #[] #[] 1537 3 #[] #[])
  fields := #[]
  methods := #[]
  instanceTypes := #[]
  staticTypes := #[]
  resolved := Array.replicate 7 none
  statics := none }

def pool4 : Array CpInfo := pool [(1, .class_ 2), (0, u "java/lang/Comparable"), (0, .class_ 4), (0, u "java/lang/Object")] 7

/-- java/lang/Comparable -/
def k4 : Class := { plain "java/lang/Comparable" (some 0) with
  accessFlags := 1537
  interfaces := #[]
  cf := some (fileOf pool4 1 #[] #[] 1537 3 #[] #[])
  fields := #[]
  methods := #[]
  instanceTypes := #[]
  staticTypes := #[]
  resolved := Array.replicate 12 none
  statics := none }

def pool5 : Array CpInfo := pool [(2, .class_ 4), (1, u "java/lang/CharSequence"), (42, .class_ 48), (0, u "java/lang/CharSequence$1CodePointIterator"), (10, .class_ 60), (0, u "java/lang/CharSequence$1CharIterator"), (5, .class_ 67), (0, u "java/lang/Object")] 63

/-- java/lang/CharSequence -/
def k5 : Class := { plain "java/lang/CharSequence" (some 0) with
  accessFlags := 1537
  interfaces := #[]
  cf := some (fileOf pool5 2 #[.nestMembers #[47, 59]] #[] 1537 66 #[] #[])
  fields := #[]
  methods := #[]
  instanceTypes := #[]
  staticTypes := #[]
  resolved := Array.replicate 131 none
  statics := none }

def pool6 : Array CpInfo := pool [(1, .class_ 2), (0, u "java/lang/constant/Constable"), (0, .class_ 4), (0, u "java/lang/Object")] 6

/-- java/lang/constant/Constable -/
def k6 : Class := { plain "java/lang/constant/Constable" (some 0) with
  accessFlags := 1537
  interfaces := #[]
  cf := some (fileOf pool6 1 #[] #[] 1537 3 #[] #[])
  fields := #[]
  methods := #[]
  instanceTypes := #[]
  staticTypes := #[]
  resolved := Array.replicate 11 none
  statics := none }

def pool7 : Array CpInfo := pool [(1, .class_ 2), (0, u "java/lang/constant/ConstantDesc"), (0, .class_ 4), (0, u "java/lang/Object")] 32

/-- java/lang/constant/ConstantDesc -/
def k7 : Class := { plain "java/lang/constant/ConstantDesc" (some 0) with
  accessFlags := 1537
  interfaces := #[]
  cf := some (fileOf pool7 1 #[] #[] 1537 3 #[] #[])
  fields := #[]
  methods := #[]
  instanceTypes := #[]
  staticTypes := #[]
  resolved := Array.replicate 37 none
  statics := none }

def pool8 : Array CpInfo := pool [(2, .class_ 4), (1, u "java/lang/Object"), (0, u "<init>"), (0, u "()V"), (3, .class_ 12), (1, u "java/lang/String"), (0, u "value"), (0, u "[B"), (2, u "coder"), (0, u "B"), (2, u "hash"), (0, u "I"), (2, u "hashIsZero"), (0, u "Z"), (13, u "COMPACT_STRINGS"), (534, .class_ 576), (0, u "java/lang/CharSequence"), (22, u "CASE_INSENSITIVE_ORDER"), (0, u "Ljava/util/Comparator;"), (500, u "serialPersistentFields"), (0, u "[Ljava/io/ObjectStreamField;"), (0, .class_ 1104), (0, u "java/lang/String$CaseInsensitiveComparator"), (1, .class_ 1107), (0, u "java/io/Serializable"), (0, .class_ 1109), (0, u "java/lang/Comparable"), (0, .class_ 1111), (0, u "java/lang/constant/Constable"), (0, .class_ 1113), (0, u "java/lang/constant/ConstantDesc"), (2, u "serialVersionUID"), (0, u "J"), (3, u "REPL"), (0, u "C"), (2, u "LATIN1"), (1, u "UTF16")] 323

def k8m0 : Method := { name := "<init>", desc := "()V", sig := { parameters := [], returnType := none }, accessFlags := 1, code := none }
/-- java/lang/String -/
def k8 : Class := { plain "java/lang/String" (some 0) with
  accessFlags := 49
  interfaces := #[3, 4, 5, 6, 7]
  cf := some (fileOf pool8 10 #[.nestMembers #[1103]] #[{ accessFlags := 1, nameIndex := 5, descriptorIndex := 6, attributes := #[] }] 49 2 #[1106, 1108, 575, 1110, 1112] #[{ accessFlags := 18, nameIndex := 13, descriptorIndex := 14, attributes := #[] }, { accessFlags := 18, nameIndex := 17, descriptorIndex := 18, attributes := #[] }, { accessFlags := 2, nameIndex := 21, descriptorIndex := 22, attributes := #[] }, { accessFlags := 2, nameIndex := 25, descriptorIndex := 26, attributes := #[] }, { accessFlags := 26, nameIndex := 1116, descriptorIndex := 1117, attributes := #[] }, { accessFlags := 24, nameIndex := 40, descriptorIndex := 26, attributes := #[] }, { accessFlags := 26, nameIndex := 1101, descriptorIndex := 1102, attributes := #[] }, { accessFlags := 26, nameIndex := 1121, descriptorIndex := 1122, attributes := #[] }, { accessFlags := 25, nameIndex := 599, descriptorIndex := 600, attributes := #[] }, { accessFlags := 24, nameIndex := 1125, descriptorIndex := 18, attributes := #[] }, { accessFlags := 24, nameIndex := 1127, descriptorIndex := 18, attributes := #[] }])
  fields := #[{ name := "value", type := (.array .byte), accessFlags := 18, slot := 0, constantValue := 0 }, { name := "coder", type := .byte, accessFlags := 18, slot := 1, constantValue := 0 }, { name := "hash", type := .int, accessFlags := 2, slot := 2, constantValue := 0 }, { name := "hashIsZero", type := .boolean, accessFlags := 2, slot := 3, constantValue := 0 }, { name := "serialVersionUID", type := .long, accessFlags := 26, slot := 0, constantValue := 0 }, { name := "COMPACT_STRINGS", type := .boolean, accessFlags := 24, slot := 1, constantValue := 0 }, { name := "serialPersistentFields", type := (.array (.object "java/io/ObjectStreamField")), accessFlags := 26, slot := 2, constantValue := 0 }, { name := "REPL", type := .char, accessFlags := 26, slot := 3, constantValue := 0 }, { name := "CASE_INSENSITIVE_ORDER", type := (.object "java/util/Comparator"), accessFlags := 25, slot := 4, constantValue := 0 }, { name := "LATIN1", type := .byte, accessFlags := 24, slot := 5, constantValue := 0 }, { name := "UTF16", type := .byte, accessFlags := 24, slot := 6, constantValue := 0 }]
  methods := #[k8m0]
  instanceTypes := #[(.array .byte), .byte, .int, .boolean]
  staticTypes := #[.long, .boolean, (.array (.object "java/io/ObjectStreamField")), .char, (.object "java/util/Comparator"), .byte, .byte]
  resolved := Array.replicate 1451 none
  statics := none }

def pool9 : Array CpInfo := pool [(1, .methodref 2 3), (0, .class_ 4), (0, .nameAndType 5 6), (0, u "java/lang/Object"), (0, u "<init>"), (0, u "()V"), (0, .fieldref 8 9), (0, .class_ 10), (0, .nameAndType 11 12), (0, u "com/example/tagwright/tagwright/XmlElement"), (0, u "NO_CHILDREN"), (0, u "Ljava/util/List;"), (0, .fieldref 8 14), (0, .nameAndType 15 12), (0, u "children"), (0, .fieldref 8 17), (0, .nameAndType 18 19), (0, u "namespace"), (0, u "Ljava/lang/String;"), (0, .fieldref 8 21), (0, .nameAndType 22 19), (0, u "localName"), (0, .fieldref 8 24), (0, .nameAndType 25 19), (0, u "tagName"), (0, .fieldref 8 27), (0, .nameAndType 28 12), (0, u "declarations"), (0, .fieldref 8 30), (0, .nameAndType 31 32), (0, u "NO_ATTRIBUTES"), (0, u "[Ljava/lang/String;"), (0, .fieldref 8 34), (0, .nameAndType 35 32), (0, u "attributes"), (0, .methodref 8 37), (0, .nameAndType 38 39), (0, u "isNamespaced"), (0, u "([Ljava/lang/String;)Z"), (0, .fieldref 8 41), (0, .nameAndType 42 43), (0, u "stride"), (0, u "B"), (0, .fieldref 8 45), (0, .nameAndType 46 47), (0, u "location"), (0, u "Lcom/example/tagwright/tagwright/Location;"), (0, .fieldref 8 49), (0, .nameAndType 50 51), (0, u "parent"), (0, u "Lcom/example/tagwright/tagwright/XmlElement;"), (0, .methodref 8 53), (0, .nameAndType 54 55), (0, u "adopt"), (0, u "(Lcom/example/tagwright/tagwright/XmlElement;)I"), (0, .fieldref 8 57), (0, .nameAndType 58 59), (0, u "index"), (0, u "I"), (5, u "(Ljava/lang/Object;)Z"), (14, u "()I"), (4, .interfaceMethodref 86 87), (0, .class_ 88), (0, .nameAndType 89 80), (0, u "java/util/List"), (0, u "size"), (4, .class_ 95), (0, u "java/util/ArrayList"), (3, .methodref 94 100), (0, .nameAndType 5 101), (0, u "(I)V"), (0, .class_ 103), (0, u "com/example/tagwright/tagwright/XmlElement$Attribute"), (16, .interfaceMethodref 86 121), (0, .nameAndType 122 65), (0, u "add"), (7, u "texts"), (2, u "textBeyondWhiteSpace"), (0, u "Z"), (42, .class_ 178), (0, u "com/example/tagwright/tagwright/XmlElement$Declaration"), (11, u "()Ljava/util/List;"), (2, u "FIRST_TEXTS"), (2, u "NAME"), (1, u "VALUE"), (1, u "NAMESPACE"), (1, u "LOCAL_NAME"), (1, u "PLAIN"), (0, u "NAMESPACED"), (1, u "(Ljava/lang/String;Ljava/lang/String;Ljava/lang/String;Ljava/util/List;[Ljava/lang/String;Lcom/example/tagwright/tagwright/Location;Lcom/example/tagwright/tagwright/XmlElement;)V"), (13, u "()Lcom/example/tagwright/tagwright/XmlElement;")] 39

def k9c0 : Code := { maxStack := 3, maxLocals := 8, code := prog_100_method_1_code, exceptionTable := #[], attributes := #[] }
def k9m0 : Method := { name := "<init>", desc := "(Ljava/lang/String;Ljava/lang/String;Ljava/lang/String;Ljava/util/List;[Ljava/lang/String;Lcom/example/tagwright/tagwright/Location;Lcom/example/tagwright/tagwright/XmlElement;)V", sig := { parameters := [(.object "java/lang/String"), (.object "java/lang/String"), (.object "java/lang/String"), (.object "java/util/List"), (.array (.object "java/lang/String")), (.object "com/example/tagwright/tagwright/Location"), (.object "com/example/tagwright/tagwright/XmlElement")], returnType := none }, accessFlags := 0, code := some k9c0 }
def k9c1 : Code := { maxStack := 2, maxLocals := 1, code := prog_100_method_5_code, exceptionTable := #[], attributes := #[] }
def k9m1 : Method := { name := "isNamespaced", desc := "([Ljava/lang/String;)Z", sig := { parameters := [(.array (.object "java/lang/String"))], returnType := some .boolean }, accessFlags := 10, code := some k9c1 }
def k9c2 : Code := { maxStack := 1, maxLocals := 1, code := prog_100_method_11_code, exceptionTable := #[], attributes := #[] }
def k9m2 : Method := { name := "parent", desc := "()Lcom/example/tagwright/tagwright/XmlElement;", sig := { parameters := [], returnType := some (.object "com/example/tagwright/tagwright/XmlElement") }, accessFlags := 0, code := some k9c2 }
def k9c3 : Code := { maxStack := 1, maxLocals := 1, code := prog_100_method_24_code, exceptionTable := #[], attributes := #[] }
def k9m3 : Method := { name := "children", desc := "()Ljava/util/List;", sig := { parameters := [], returnType := some (.object "java/util/List") }, accessFlags := 0, code := some k9c3 }
def k9c4 : Code := { maxStack := 4, maxLocals := 2, code := prog_100_method_33_code, exceptionTable := #[], attributes := #[] }
def k9m4 : Method := { name := "adopt", desc := "(Lcom/example/tagwright/tagwright/XmlElement;)I", sig := { parameters := [(.object "com/example/tagwright/tagwright/XmlElement")], returnType := some .int }, accessFlags := 2, code := some k9c4 }
/-- com/example/tagwright/tagwright/XmlElement -/
def k9 : Class := { plain "com/example/tagwright/tagwright/XmlElement" (some 0) with
  accessFlags := 48
  interfaces := #[]
  cf := some (fileOf pool9 8 #[.nestMembers #[102, 177]] #[{ accessFlags := 0, nameIndex := 5, descriptorIndex := 207, attributes := #[] }, { accessFlags := 10, nameIndex := 38, descriptorIndex := 39, attributes := #[] }, { accessFlags := 0, nameIndex := 50, descriptorIndex := 221, attributes := #[] }, { accessFlags := 0, nameIndex := 15, descriptorIndex := 190, attributes := #[] }, { accessFlags := 2, nameIndex := 54, descriptorIndex := 55, attributes := #[] }] 48 2 #[] #[{ accessFlags := 26, nameIndex := 11, descriptorIndex := 12, attributes := #[] }, { accessFlags := 26, nameIndex := 31, descriptorIndex := 32, attributes := #[] }, { accessFlags := 26, nameIndex := 193, descriptorIndex := 59, attributes := #[] }, { accessFlags := 26, nameIndex := 196, descriptorIndex := 59, attributes := #[] }, { accessFlags := 26, nameIndex := 198, descriptorIndex := 59, attributes := #[] }, { accessFlags := 26, nameIndex := 200, descriptorIndex := 59, attributes := #[] }, { accessFlags := 26, nameIndex := 202, descriptorIndex := 59, attributes := #[] }, { accessFlags := 26, nameIndex := 204, descriptorIndex := 59, attributes := #[] }, { accessFlags := 26, nameIndex := 205, descriptorIndex := 59, attributes := #[] }, { accessFlags := 18, nameIndex := 18, descriptorIndex := 19, attributes := #[] }, { accessFlags := 18, nameIndex := 22, descriptorIndex := 19, attributes := #[] }, { accessFlags := 18, nameIndex := 25, descriptorIndex := 19, attributes := #[] }, { accessFlags := 18, nameIndex := 28, descriptorIndex := 12, attributes := #[] }, { accessFlags := 18, nameIndex := 35, descriptorIndex := 32, attributes := #[] }, { accessFlags := 18, nameIndex := 42, descriptorIndex := 43, attributes := #[] }, { accessFlags := 18, nameIndex := 46, descriptorIndex := 47, attributes := #[] }, { accessFlags := 18, nameIndex := 50, descriptorIndex := 51, attributes := #[] }, { accessFlags := 18, nameIndex := 58, descriptorIndex := 59, attributes := #[] }, { accessFlags := 2, nameIndex := 15, descriptorIndex := 12, attributes := #[] }, { accessFlags := 2, nameIndex := 130, descriptorIndex := 32, attributes := #[] }, { accessFlags := 2, nameIndex := 133, descriptorIndex := 134, attributes := #[] }])
  fields := #[{ name := "NO_CHILDREN", type := (.object "java/util/List"), accessFlags := 26, slot := 0, constantValue := 0 }, { name := "NO_ATTRIBUTES", type := (.array (.object "java/lang/String")), accessFlags := 26, slot := 1, constantValue := 0 }, { name := "FIRST_TEXTS", type := .int, accessFlags := 26, slot := 2, constantValue := 0 }, { name := "NAME", type := .int, accessFlags := 26, slot := 3, constantValue := 0 }, { name := "VALUE", type := .int, accessFlags := 26, slot := 4, constantValue := 0 }, { name := "NAMESPACE", type := .int, accessFlags := 26, slot := 5, constantValue := 0 }, { name := "LOCAL_NAME", type := .int, accessFlags := 26, slot := 6, constantValue := 0 }, { name := "PLAIN", type := .int, accessFlags := 26, slot := 7, constantValue := 0 }, { name := "NAMESPACED", type := .int, accessFlags := 26, slot := 8, constantValue := 0 }, { name := "namespace", type := (.object "java/lang/String"), accessFlags := 18, slot := 0, constantValue := 0 }, { name := "localName", type := (.object "java/lang/String"), accessFlags := 18, slot := 1, constantValue := 0 }, { name := "tagName", type := (.object "java/lang/String"), accessFlags := 18, slot := 2, constantValue := 0 }, { name := "declarations", type := (.object "java/util/List"), accessFlags := 18, slot := 3, constantValue := 0 }, { name := "attributes", type := (.array (.object "java/lang/String")), accessFlags := 18, slot := 4, constantValue := 0 }, { name := "stride", type := .byte, accessFlags := 18, slot := 5, constantValue := 0 }, { name := "location", type := (.object "com/example/tagwright/tagwright/Location"), accessFlags := 18, slot := 6, constantValue := 0 }, { name := "parent", type := (.object "com/example/tagwright/tagwright/XmlElement"), accessFlags := 18, slot := 7, constantValue := 0 }, { name := "index", type := .int, accessFlags := 18, slot := 8, constantValue := 0 }, { name := "children", type := (.object "java/util/List"), accessFlags := 2, slot := 9, constantValue := 0 }, { name := "texts", type := (.array (.object "java/lang/String")), accessFlags := 2, slot := 10, constantValue := 0 }, { name := "textBeyondWhiteSpace", type := .boolean, accessFlags := 2, slot := 11, constantValue := 0 }]
  methods := #[k9m0, k9m1, k9m2, k9m3, k9m4]
  instanceTypes := #[(.object "java/lang/String"), (.object "java/lang/String"), (.object "java/lang/String"), (.object "java/util/List"), (.array (.object "java/lang/String")), .byte, (.object "com/example/tagwright/tagwright/Location"), (.object "com/example/tagwright/tagwright/XmlElement"), .int, (.object "java/util/List"), (.array (.object "java/lang/String")), .boolean]
  staticTypes := #[(.object "java/util/List"), (.array (.object "java/lang/String")), .int, .int, .int, .int, .int, .int, .int]
  resolved := Array.replicate 261 none
  statics := some 0 }

def pool10 : Array CpInfo := pool [(8, .class_ 10), (1, u "java/lang/Iterable"), (24, .class_ 36), (0, u "java/lang/Object")] 25

/-- java/lang/Iterable -/
def k10 : Class := { plain "java/lang/Iterable" (some 0) with
  accessFlags := 1537
  interfaces := #[]
  cf := some (fileOf pool10 8 #[] #[] 1537 35 #[] #[])
  fields := #[]
  methods := #[]
  instanceTypes := #[]
  staticTypes := #[]
  resolved := Array.replicate 62 none
  statics := none }

def pool11 : Array CpInfo := pool [(10, .class_ 12), (1, u "java/util/Collection"), (47, .class_ 61), (0, u "java/lang/Object"), (0, .class_ 63), (0, u "java/lang/Iterable")] 51

/-- java/util/Collection -/
def k11 : Class := { plain "java/util/Collection" (some 0) with
  accessFlags := 1537
  interfaces := #[10]
  cf := some (fileOf pool11 10 #[] #[] 1537 60 #[62] #[])
  fields := #[]
  methods := #[]
  instanceTypes := #[]
  staticTypes := #[]
  resolved := Array.replicate 115 none
  statics := none }

def pool12 : Array CpInfo := pool [(8, .class_ 10), (1, u "java/util/SequencedCollection"), (15, .class_ 27), (0, u "java/lang/Object"), (0, .class_ 29), (0, u "java/util/Collection")] 27

/-- java/util/SequencedCollection -/
def k12 : Class := { plain "java/util/SequencedCollection" (some 0) with
  accessFlags := 1537
  interfaces := #[11]
  cf := some (fileOf pool12 8 #[] #[] 1537 26 #[28] #[])
  fields := #[]
  methods := #[]
  instanceTypes := #[]
  staticTypes := #[]
  resolved := Array.replicate 57 none
  statics := none }

def pool13 : Array CpInfo := pool [(8, .class_ 10), (1, u "java/util/List"), (49, u "add"), (3, u "(Ljava/lang/Object;)Z"), (10, u "get"), (0, u "(I)Ljava/lang/Object;"), (2, u "size"), (0, u "()I"), (22, .class_ 104), (0, u "java/lang/Object"), (15, .class_ 121), (0, u "java/util/SequencedCollection")] 129

def k13m0 : Method := { name := "size", desc := "()I", sig := { parameters := [], returnType := some .int }, accessFlags := 1025, code := none }
def k13m1 : Method := { name := "add", desc := "(Ljava/lang/Object;)Z", sig := { parameters := [(.object "java/lang/Object")], returnType := some .boolean }, accessFlags := 1025, code := none }
def k13m2 : Method := { name := "get", desc := "(I)Ljava/lang/Object;", sig := { parameters := [.int], returnType := some (.object "java/lang/Object") }, accessFlags := 1025, code := none }
/-- java/util/List -/
def k13 : Class := { plain "java/util/List" (some 0) with
  accessFlags := 1537
  interfaces := #[12]
  cf := some (fileOf pool13 8 #[] #[{ accessFlags := 1025, nameIndex := 79, descriptorIndex := 80, attributes := #[] }, { accessFlags := 1025, nameIndex := 60, descriptorIndex := 64, attributes := #[] }, { accessFlags := 1025, nameIndex := 75, descriptorIndex := 76, attributes := #[] }] 1537 103 #[120] #[])
  fields := #[]
  methods := #[k13m0, k13m1, k13m2]
  instanceTypes := #[]
  staticTypes := #[]
  resolved := Array.replicate 251 none
  statics := none }

def pool14 : Array CpInfo := pool [(1, .methodref 2 3), (0, .class_ 4), (0, .nameAndType 5 6), (0, u "java/lang/Object"), (0, u "<init>"), (0, u "()V"), (1, .class_ 10), (1, u "java/util/AbstractCollection"), (66, .class_ 78), (0, u "java/util/Collection")] 81

def k14c0 : Code := { maxStack := 1, maxLocals := 1, code := jdk_22_method_1_code, exceptionTable := #[], attributes := #[] }
def k14m0 : Method := { name := "<init>", desc := "()V", sig := { parameters := [], returnType := none }, accessFlags := 4, code := some k14c0 }
/-- java/util/AbstractCollection -/
def k14 : Class := { plain "java/util/AbstractCollection" (some 0) with
  accessFlags := 1057
  interfaces := #[11]
  cf := some (fileOf pool14 8 #[] #[{ accessFlags := 4, nameIndex := 5, descriptorIndex := 6, attributes := #[] }] 1057 2 #[77] #[])
  fields := #[]
  methods := #[k14m0]
  instanceTypes := #[]
  staticTypes := #[]
  resolved := Array.replicate 160 none
  statics := none }

def pool15 : Array CpInfo := pool [(2, .class_ 4), (1, u "java/util/AbstractCollection"), (0, u "<init>"), (0, u "()V"), (1, .class_ 10), (1, u "java/util/ImmutableCollections"), (2, .class_ 14), (0, u "java/util/ImmutableCollections$AbstractImmutableCollection")] 41

def k15m0 : Method := { name := "<init>", desc := "()V", sig := { parameters := [], returnType := none }, accessFlags := 0, code := none }
/-- java/util/ImmutableCollections$AbstractImmutableCollection -/
def k15 : Class := { plain "java/util/ImmutableCollections$AbstractImmutableCollection" (some 14) with
  accessFlags := 1056
  interfaces := #[]
  cf := some (fileOf pool15 13 #[.nestHost 8] #[{ accessFlags := 0, nameIndex := 5, descriptorIndex := 6, attributes := #[] }] 1056 2 #[] #[])
  fields := #[]
  methods := #[k15m0]
  instanceTypes := #[]
  staticTypes := #[]
  resolved := Array.replicate 56 none
  statics := none }

def pool16 : Array CpInfo := pool [(1, .class_ 2), (0, u "java/util/RandomAccess"), (0, .class_ 4), (0, u "java/lang/Object")] 2

/-- java/util/RandomAccess -/
def k16 : Class := { plain "java/util/RandomAccess" (some 0) with
  accessFlags := 1537
  interfaces := #[]
  cf := some (fileOf pool16 1 #[] #[] 1537 3 #[] #[])
  fields := #[]
  methods := #[]
  instanceTypes := #[]
  staticTypes := #[]
  resolved := Array.replicate 7 none
  statics := none }

def pool17 : Array CpInfo := pool [(2, .class_ 4), (1, u "java/util/ImmutableCollections$AbstractImmutableCollection"), (0, u "<init>"), (0, u "()V"), (1, .class_ 10), (1, u "java/util/ImmutableCollections"), (3, .class_ 16), (1, u "java/util/ImmutableCollections$AbstractImmutableList"), (60, .class_ 78), (0, u "java/util/List"), (45, .class_ 125), (0, u "java/util/RandomAccess")] 70

def k17m0 : Method := { name := "<init>", desc := "()V", sig := { parameters := [], returnType := none }, accessFlags := 0, code := none }
/-- java/util/ImmutableCollections$AbstractImmutableList -/
def k17 : Class := { plain "java/util/ImmutableCollections$AbstractImmutableList" (some 15) with
  accessFlags := 1056
  interfaces := #[13, 16]
  cf := some (fileOf pool17 14 #[.nestHost 8] #[{ accessFlags := 0, nameIndex := 5, descriptorIndex := 6, attributes := #[] }] 1056 2 #[77, 124] #[])
  fields := #[]
  methods := #[k17m0]
  instanceTypes := #[]
  staticTypes := #[]
  resolved := Array.replicate 196 none
  statics := none }

def pool18 : Array CpInfo := pool [(2, .class_ 4), (1, u "java/util/ImmutableCollections$AbstractImmutableList"), (2, .fieldref 8 9), (0, .class_ 10), (0, .nameAndType 11 12), (0, u "java/util/ImmutableCollections$ListN"), (0, u "elements"), (0, u "[Ljava/lang/Object;"), (2, u "allowNulls"), (0, u "Z"), (42, .class_ 60), (0, u "java/io/Serializable"), (16, u "size"), (0, u "()I"), (35, .class_ 115), (0, u "java/util/ImmutableCollections")] 3

def k18c0 : Code := { maxStack := 1, maxLocals := 1, code := jdk_45_method_3_code, exceptionTable := #[], attributes := #[] }
def k18m0 : Method := { name := "size", desc := "()I", sig := { parameters := [], returnType := some .int }, accessFlags := 1, code := some k18c0 }
/-- java/util/ImmutableCollections$ListN -/
def k18 : Class := { plain "java/util/ImmutableCollections$ListN" (some 17) with
  accessFlags := 48
  interfaces := #[3]
  cf := some (fileOf pool18 8 #[.nestHost 114] #[{ accessFlags := 1, nameIndex := 77, descriptorIndex := 78, attributes := #[] }] 48 2 #[59] #[{ accessFlags := 18, nameIndex := 11, descriptorIndex := 12, attributes := #[] }, { accessFlags := 18, nameIndex := 15, descriptorIndex := 16, attributes := #[] }])
  fields := #[{ name := "elements", type := (.array (.object "java/lang/Object")), accessFlags := 18, slot := 0, constantValue := 0 }, { name := "allowNulls", type := .boolean, accessFlags := 18, slot := 1, constantValue := 0 }]
  methods := #[k18m0]
  instanceTypes := #[(.array (.object "java/lang/Object")), .boolean]
  staticTypes := #[]
  resolved := Array.replicate 119 none
  statics := none }

def pool19 : Array CpInfo := pool [(1, .methodref 2 3), (0, .class_ 4), (0, .nameAndType 5 6), (0, u "java/util/AbstractCollection"), (0, u "<init>"), (0, u "()V"), (0, .fieldref 8 9), (0, .class_ 10), (0, .nameAndType 11 12), (0, u "java/util/AbstractList"), (0, u "modCount"), (0, u "I"), (64, .class_ 78), (0, u "java/util/AbstractList$Itr"), (3, .class_ 83), (0, u "java/util/AbstractList$ListItr"), (9, .class_ 94), (0, u "java/util/AbstractList$RandomAccessSubList"), (3, .class_ 99), (0, u "java/util/AbstractList$SubList"), (33, .class_ 134), (0, u "java/util/List"), (73, .class_ 209), (0, u "java/util/AbstractList$SubList$1"), (0, .class_ 211), (0, u "java/util/AbstractList$RandomAccessSpliterator")] 6

def k19c0 : Code := { maxStack := 2, maxLocals := 1, code := jdk_39_method_1_code, exceptionTable := #[], attributes := #[] }
def k19m0 : Method := { name := "<init>", desc := "()V", sig := { parameters := [], returnType := none }, accessFlags := 4, code := some k19c0 }
/-- java/util/AbstractList -/
def k19 : Class := { plain "java/util/AbstractList" (some 14) with
  accessFlags := 1057
  interfaces := #[13]
  cf := some (fileOf pool19 8 #[.nestMembers #[93, 98, 208, 210, 82, 77]] #[{ accessFlags := 4, nameIndex := 5, descriptorIndex := 6, attributes := #[] }] 1057 2 #[133] #[{ accessFlags := 132, nameIndex := 11, descriptorIndex := 12, attributes := #[] }])
  fields := #[{ name := "modCount", type := .int, accessFlags := 132, slot := 0, constantValue := 0 }]
  methods := #[k19m0]
  instanceTypes := #[.int]
  staticTypes := #[]
  resolved := Array.replicate 218 none
  statics := none }

def pool20 : Array CpInfo := pool [(1, .class_ 2), (0, u "java/lang/Cloneable"), (0, .class_ 4), (0, u "java/lang/Object")] 2

/-- java/lang/Cloneable -/
def k20 : Class := { plain "java/lang/Cloneable" (some 0) with
  accessFlags := 1537
  interfaces := #[]
  cf := some (fileOf pool20 1 #[] #[] 1537 3 #[] #[])
  fields := #[]
  methods := #[]
  instanceTypes := #[]
  staticTypes := #[]
  resolved := Array.replicate 7 none
  statics := none }

def pool21 : Array CpInfo := pool [(1, .methodref 2 3), (0, .class_ 4), (0, .nameAndType 5 6), (0, u "java/util/AbstractList"), (0, u "<init>"), (0, u "()V"), (0, .class_ 8), (0, u "java/lang/Object"), (0, .fieldref 10 11), (0, .class_ 12), (0, .nameAndType 13 14), (0, u "java/util/ArrayList"), (0, u "elementData"), (0, u "[Ljava/lang/Object;"), (2, u "EMPTY_ELEMENTDATA"), (23, u "DEFAULTCAPACITY_EMPTY_ELEMENTDATA"), (6, .fieldref 10 49), (0, .nameAndType 50 51), (0, u "size"), (0, u "I"), (11, .fieldref 10 64), (0, .nameAndType 65 51), (0, u "modCount"), (18, u "(II)I"), (11, u "(Ljava/lang/Object;)Z"), (21, .methodref 119 120), (0, .class_ 121), (0, .nameAndType 122 84), (0, u "java/util/Objects"), (0, u "checkIndex"), (0, .methodref 10 124), (0, .nameAndType 13 125), (0, u "(I)Ljava/lang/Object;"), (5, .methodref 10 132), (0, .nameAndType 133 134), (0, u "add"), (0, u "(Ljava/lang/Object;[Ljava/lang/Object;I)V"), (3, u "(I)V"), (9, .class_ 149), (0, u "java/util/List"), (36, u "()I"), (75, .class_ 263), (0, u "java/util/ArrayList$ListItr"), (3, .class_ 268), (0, u "java/util/ArrayList$Itr"), (7, .class_ 277), (0, u "java/util/ArrayList$SubList"), (12, .class_ 291), (0, u "java/util/ArrayList$ArrayListSpliterator"), (37, .class_ 330), (0, u "java/util/RandomAccess"), (0, .class_ 332), (0, u "java/lang/Cloneable"), (0, .class_ 334), (0, u "java/io/Serializable"), (0, u "serialVersionUID"), (0, u "J"), (3, u "DEFAULT_CAPACITY"), (40, u "get"), (118, .class_ 501), (0, u "java/util/ArrayList$SubList$2"), (0, .class_ 503), (0, u "java/util/ArrayList$SubList$1")] 5

def k21c0 : Code := { maxStack := 4, maxLocals := 2, code := jdk_38_method_1_code, exceptionTable := #[], attributes := #[] }
def k21m0 : Method := { name := "<init>", desc := "(I)V", sig := { parameters := [.int], returnType := none }, accessFlags := 1, code := some k21c0 }
def k21m1 : Method := { name := "<init>", desc := "()V", sig := { parameters := [], returnType := none }, accessFlags := 1, code := none }
def k21c2 : Code := { maxStack := 1, maxLocals := 1, code := jdk_38_method_8_code, exceptionTable := #[], attributes := #[] }
def k21m2 : Method := { name := "size", desc := "()I", sig := { parameters := [], returnType := some .int }, accessFlags := 1, code := some k21c2 }
def k21c3 : Code := { maxStack := 2, maxLocals := 2, code := jdk_38_method_18_code, exceptionTable := #[], attributes := #[] }
def k21m3 : Method := { name := "elementData", desc := "(I)Ljava/lang/Object;", sig := { parameters := [.int], returnType := some (.object "java/lang/Object") }, accessFlags := 0, code := some k21c3 }
def k21c4 : Code := { maxStack := 2, maxLocals := 2, code := jdk_38_method_20_code, exceptionTable := #[], attributes := #[] }
def k21m4 : Method := { name := "get", desc := "(I)Ljava/lang/Object;", sig := { parameters := [.int], returnType := some (.object "java/lang/Object") }, accessFlags := 1, code := some k21c4 }
def k21c5 : Code := { maxStack := 3, maxLocals := 4, code := jdk_38_method_24_code, exceptionTable := #[], attributes := #[] }
def k21m5 : Method := { name := "add", desc := "(Ljava/lang/Object;[Ljava/lang/Object;I)V", sig := { parameters := [(.object "java/lang/Object"), (.array (.object "java/lang/Object")), .int], returnType := none }, accessFlags := 2, code := some k21c5 }
def k21c6 : Code := { maxStack := 4, maxLocals := 2, code := jdk_38_method_25_code, exceptionTable := #[], attributes := #[] }
def k21m6 : Method := { name := "add", desc := "(Ljava/lang/Object;)Z", sig := { parameters := [(.object "java/lang/Object")], returnType := some .boolean }, accessFlags := 1, code := some k21c6 }
/-- java/util/ArrayList -/
def k21 : Class := { plain "java/util/ArrayList" (some 19) with
  accessFlags := 33
  interfaces := #[13, 16, 20, 3]
  cf := some (fileOf pool21 10 #[.nestMembers #[290, 276, 500, 502, 262, 267]] #[{ accessFlags := 1, nameIndex := 5, descriptorIndex := 138, attributes := #[] }, { accessFlags := 1, nameIndex := 5, descriptorIndex := 6, attributes := #[] }, { accessFlags := 1, nameIndex := 50, descriptorIndex := 186, attributes := #[] }, { accessFlags := 0, nameIndex := 13, descriptorIndex := 125, attributes := #[] }, { accessFlags := 1, nameIndex := 381, descriptorIndex := 125, attributes := #[] }, { accessFlags := 2, nameIndex := 133, descriptorIndex := 134, attributes := #[] }, { accessFlags := 1, nameIndex := 133, descriptorIndex := 96, attributes := #[] }] 33 2 #[148, 329, 331, 333] #[{ accessFlags := 26, nameIndex := 335, descriptorIndex := 336, attributes := #[] }, { accessFlags := 26, nameIndex := 340, descriptorIndex := 51, attributes := #[] }, { accessFlags := 26, nameIndex := 17, descriptorIndex := 14, attributes := #[] }, { accessFlags := 26, nameIndex := 41, descriptorIndex := 14, attributes := #[] }, { accessFlags := 128, nameIndex := 13, descriptorIndex := 14, attributes := #[] }, { accessFlags := 2, nameIndex := 50, descriptorIndex := 51, attributes := #[] }])
  fields := #[{ name := "serialVersionUID", type := .long, accessFlags := 26, slot := 0, constantValue := 0 }, { name := "DEFAULT_CAPACITY", type := .int, accessFlags := 26, slot := 1, constantValue := 0 }, { name := "EMPTY_ELEMENTDATA", type := (.array (.object "java/lang/Object")), accessFlags := 26, slot := 2, constantValue := 0 }, { name := "DEFAULTCAPACITY_EMPTY_ELEMENTDATA", type := (.array (.object "java/lang/Object")), accessFlags := 26, slot := 3, constantValue := 0 }, { name := "elementData", type := (.array (.object "java/lang/Object")), accessFlags := 128, slot := 1, constantValue := 0 }, { name := "size", type := .int, accessFlags := 2, slot := 2, constantValue := 0 }]
  methods := #[k21m0, k21m1, k21m2, k21m3, k21m4, k21m5, k21m6]
  instanceTypes := #[.int, (.array (.object "java/lang/Object")), .int]
  staticTypes := #[.long, .int, (.array (.object "java/lang/Object")), (.array (.object "java/lang/Object"))]
  resolved := Array.replicate 509 none
  statics := none }

def pool22 : Array CpInfo := pool [(2, .class_ 4), (1, u "java/lang/Object"), (0, u "<init>"), (0, u "()V"), (35, .class_ 44), (1, u "java/util/Objects"), (60, .methodref 106 107), (0, .class_ 108), (0, .nameAndType 109 110), (0, u "jdk/internal/util/Preconditions"), (0, u "checkIndex"), (0, u "(IILjava/util/function/BiFunction;)I"), (60, u "(II)I")] 12

def k22m0 : Method := { name := "<init>", desc := "()V", sig := { parameters := [], returnType := none }, accessFlags := 2, code := none }
def k22c1 : Code := { maxStack := 3, maxLocals := 2, code := jdk_31_method_17_code, exceptionTable := #[], attributes := #[] }
def k22m1 : Method := { name := "checkIndex", desc := "(II)I", sig := { parameters := [.int, .int], returnType := some .int }, accessFlags := 9, code := some k22c1 }
/-- java/util/Objects -/
def k22 : Class := { plain "java/util/Objects" (some 0) with
  accessFlags := 49
  interfaces := #[]
  cf := some (fileOf pool22 42 #[] #[{ accessFlags := 2, nameIndex := 5, descriptorIndex := 6, attributes := #[] }, { accessFlags := 9, nameIndex := 109, descriptorIndex := 171, attributes := #[] }] 49 2 #[] #[])
  fields := #[]
  methods := #[k22m0, k22m1]
  instanceTypes := #[]
  staticTypes := #[]
  resolved := Array.replicate 184 none
  statics := none }

def pool23 : Array CpInfo := pool [(2, .class_ 4), (1, u "java/lang/Object"), (0, u "<init>"), (0, u "()V"), (17, .class_ 26), (1, u "jdk/internal/util/Preconditions"), (6, u "checkIndex"), (21, .class_ 56), (0, u "jdk/internal/util/Preconditions$4"), (57, .class_ 115), (0, u "jdk/internal/util/Preconditions$1"), (7, u "SIOOBE_FORMATTER"), (0, u "Ljava/util/function/BiFunction;"), (0, .class_ 126), (0, u "jdk/internal/util/Preconditions$2"), (3, u "AIOOBE_FORMATTER"), (0, .class_ 132), (0, u "jdk/internal/util/Preconditions$3"), (3, u "IOOBE_FORMATTER"), (41, u "(IILjava/util/function/BiFunction;)I")] 15

def k23m0 : Method := { name := "<init>", desc := "()V", sig := { parameters := [], returnType := none }, accessFlags := 1, code := none }
def k23c1 : Code := { maxStack := 3, maxLocals := 3, code := jdk_41_method_11_code, exceptionTable := #[], attributes := #[] }
def k23m1 : Method := { name := "checkIndex", desc := "(IILjava/util/function/BiFunction;)I", sig := { parameters := [.int, .int, (.object "java/util/function/BiFunction")], returnType := some .int }, accessFlags := 9, code := some k23c1 }
/-- jdk/internal/util/Preconditions -/
def k23 : Class := { plain "jdk/internal/util/Preconditions" (some 0) with
  accessFlags := 33
  interfaces := #[]
  cf := some (fileOf pool23 24 #[.nestMembers #[55, 131, 125, 114]] #[{ accessFlags := 1, nameIndex := 5, descriptorIndex := 6, attributes := #[] }, { accessFlags := 9, nameIndex := 33, descriptorIndex := 178, attributes := #[] }] 33 2 #[] #[{ accessFlags := 25, nameIndex := 123, descriptorIndex := 124, attributes := #[] }, { accessFlags := 25, nameIndex := 130, descriptorIndex := 124, attributes := #[] }, { accessFlags := 25, nameIndex := 136, descriptorIndex := 124, attributes := #[] }])
  fields := #[{ name := "SIOOBE_FORMATTER", type := (.object "java/util/function/BiFunction"), accessFlags := 25, slot := 0, constantValue := 0 }, { name := "AIOOBE_FORMATTER", type := (.object "java/util/function/BiFunction"), accessFlags := 25, slot := 1, constantValue := 0 }, { name := "IOOBE_FORMATTER", type := (.object "java/util/function/BiFunction"), accessFlags := 25, slot := 2, constantValue := 0 }]
  methods := #[k23m0, k23m1]
  instanceTypes := #[]
  staticTypes := #[(.object "java/util/function/BiFunction"), (.object "java/util/function/BiFunction"), (.object "java/util/function/BiFunction")]
  resolved := Array.replicate 194 none
  statics := none }

/-- the primitive byte -/
def k24 : Class := { plain "byte" none with kind := .primitive 'B', accessFlags := 0x411 }
/-- [B -/
def k25 : Class := { plain "[B" (some 0) with kind := .array 24 .byte, interfaces := #[20, 3], accessFlags := 1041 }

/-- the primitive int -/
def k26 : Class := { plain "int" none with kind := .primitive 'I', accessFlags := 0x411 }
/-- [I -/
def k27 : Class := { plain "[I" (some 0) with kind := .array 26 .int, interfaces := #[20, 3], accessFlags := 1041 }

/-- [Ljava/lang/Object; -/
def k28 : Class := { plain "[Ljava/lang/Object;" (some 0) with kind := .array 0 (.object "java/lang/Object"), interfaces := #[20, 3], accessFlags := 1041 }

/-- [Ljava/lang/String; -/
def k29 : Class := { plain "[Ljava/lang/String;" (some 0) with kind := .array 8 (.object "java/lang/String"), interfaces := #[20, 3], accessFlags := 1041 }

/-- arrays of byte arrays -/
def k30 : Class := { plain "[[B" (some 0) with kind := .array 25 (.array .byte), interfaces := #[20, 3], accessFlags := 1041 }

def heap : Heap := #[{ cls := 9, slots := #[.ref 2, .ref 3, .int 0, .int 0, .int 0, .int 0, .int 0, .int 0, .int 0], vm := .statics 9 },
  { cls := 28, slots := #[], vm := .none },
  { cls := 18, slots := #[.ref 1, .int 0], vm := .none },
  { cls := 29, slots := #[], vm := .none }]
def classes : Array Class := #[k0, k1, k2, k3, k4, k5, k6, k7, k8, k9, k10, k11, k12, k13, k14, k15, k16, k17, k18, k19, k20, k21, k22, k23, k24, k25, k26, k27, k28, k29, k30]
def interned : List (Array UInt16 × Addr) := []
def slotsUsed : Nat := 11
def theMethod : MethodId := ⟨1, 1⟩
def args0 : Array Value := #[.int 5, .int 6]
def aboutOver (below : List Frame) : State where
  vm := { classes := classes, interned := interned.toArray }
  heap := heap
  slotsUsed := slotsUsed
  threads := #[{ frames := .invoking theMethod args0 :: below }]
def below0 : List Frame := [.native { method := ⟨0, 0⟩, args := #[] }]
def about1 : State := aboutOver below0
def p0 : Program := .bare "" "" ""
def e0 : Env := launch0.env 0 0 0
theorem w_frames : about1.frames = Frame.invoking theMethod args0 :: below0 := rfl
set_option maxRecDepth 65536 in
theorem w_args : argsFit about1.vm theMethod args0 = true := by decide +kernel
set_option maxRecDepth 65536 in
theorem w_heap : heapFits about1 = true := by decide +kernel
set_option maxRecDepth 65536 in
theorem w_runnable : about1.curStatus? = some .runnable := by decide +kernel
set_option maxRecDepth 65536 in
theorem w_alone : about1.alone = true := by decide +kernel
set_option maxRecDepth 65536 in
theorem w_named : about1.methodNamed? x = some theMethod := by decide +kernel
set_option maxRecDepth 65536 in
theorem w_hears : about1.hears theMethod below0 = true := by decide +kernel
set_option maxRecDepth 65536 in
theorem w_ripe : about1.ripe theMethod args0 below0 = true := by decide +kernel
theorem w_running : about1.status = .running := rfl
set_option maxRecDepth 65536 in
theorem w_room : about1.hasRoom e0.platform room_1 = true :=
  launch0.hasRoom_least _ room_1 (by decide +kernel) (by decide +kernel) (by decide +kernel) (by decide +kernel) (by decide +kernel) (by decide +kernel)
theorem allAtoms_all (ts : List Jvm.Cond) (a : Array Jvm.Value) (st : Jvm.State) : (allAtoms ts).before a st = ts.all (fun c => c.before a st) := by
  induction ts with
  | nil => rfl
  | cons c t ih =>
    show (Jvm.Cond.and c (allAtoms t)).before a st = _
    rw [Jvm.Cond.before_and, ih, List.all_cons]
def words1 : List Jvm.Cond := Jvm.Cond.code x code maxLocals ret :: tables_1
/-- a 'code' word, met by the world's own term for the bytes: nothing is compared byte by byte -/
theorem code_word {y : MethodName} {bytes : ByteArray} {mx : Nat} {rt : Option FieldType} {a : Array Value} {s : State} {m : MethodId} {meth : Method} {c : Code} (h1 : s.methodNamed? y = some m) (h2 : s.vm.method? m = some meth) (h3 : meth.code = some c) (h4 : c.code = bytes)
    (h5 : (c.maxLocals == mx && c.exceptionTable.isEmpty && decide (c.maxStack ≤ mostOperands) && decide (meth.sig.returnType = rt) && !meth.locks && decide (parseMethodDescriptor y.desc = some meth.sig)) = true) : (Jvm.Cond.code y bytes mx rt).before a s = true := by
  simp only [Bool.and_eq_true, beq_iff_eq, Bool.not_eq_true', decide_eq_true_eq] at h5
  obtain ⟨⟨⟨⟨⟨g1, g2⟩, g3⟩, g4⟩, g5⟩, g6⟩ := h5
  simp [Cond.before, Cond.holds, Cond.value, h1, h2, h3, h4, g1, g2, g3, g4, g5, g6]
def isCode : Jvm.Cond → Bool
  | .code _ _ _ _ => true
  | _ => false
theorem all_split {L : List Jvm.Cond} {P : Jvm.Cond → Bool} (h1 : L.all (fun c => isCode c || P c) = true) (h2 : ∀ c ∈ L.filter isCode, P c = true) : L.all P = true := by
  refine List.all_eq_true.mpr fun c hc => ?_
  have h := List.all_eq_true.mp h1 c hc
  rcases Bool.eq_false_or_eq_true (isCode c) with hi | hi
  · exact h2 c (List.mem_filter.mpr ⟨hc, hi⟩)
  · simpa [hi] using h
set_option maxRecDepth 65536 in
theorem w_c0 : (Jvm.Cond.code x code maxLocals ret).before args0 about1 = true := code_word (m := ⟨1, 1⟩) (meth := k1m1) (c := k1c1) (by decide +kernel) rfl rfl rfl (by decide +kernel)
set_option maxRecDepth 65536 in
theorem w_c1 : (Jvm.Cond.code ({ cls := "com/example/tagwright/tagwright/XmlTree", name := "<init>", desc := "()V" } : Jvm.MethodName) prog_111_method_1_code (1 : Nat) (Option.none : Option Jvm.ClassFile.FieldType)).before args0 about1 = true := code_word (m := ⟨2, 0⟩) (meth := k2m0) (c := k2c0) (by decide +kernel) rfl rfl rfl (by decide +kernel)
set_option maxRecDepth 65536 in
theorem w_c2 : (Jvm.Cond.code ({ cls := "java/lang/Object", name := "<init>", desc := "()V" } : Jvm.MethodName) object_method_1_code (1 : Nat) (Option.none : Option Jvm.ClassFile.FieldType)).before args0 about1 = true := code_word (m := ⟨0, 0⟩) (meth := k0m0) (c := k0c0) (by decide +kernel) rfl rfl rfl (by decide +kernel)
set_option maxRecDepth 65536 in
theorem w_c3 : (Jvm.Cond.code ({ cls := "com/example/tagwright/tagwright/XmlTree", name := "start", desc := "(Ljava/lang/String;Ljava/lang/String;Ljava/lang/String;Ljava/util/List;[Ljava/lang/String;Lcom/example/tagwright/tagwright/Location;)V" } : Jvm.MethodName) prog_111_method_2_code (7 : Nat) (Option.none : Option Jvm.ClassFile.FieldType)).before args0 about1 = true := code_word (m := ⟨2, 1⟩) (meth := k2m1) (c := k2c1) (by decide +kernel) rfl rfl rfl (by decide +kernel)
set_option maxRecDepth 65536 in
theorem w_c4 : (Jvm.Cond.code ({ cls := "com/example/tagwright/tagwright/XmlElement", name := "<init>", desc := "(Ljava/lang/String;Ljava/lang/String;Ljava/lang/String;Ljava/util/List;[Ljava/lang/String;Lcom/example/tagwright/tagwright/Location;Lcom/example/tagwright/tagwright/XmlElement;)V" } : Jvm.MethodName) prog_100_method_1_code (8 : Nat) (Option.none : Option Jvm.ClassFile.FieldType)).before args0 about1 = true := code_word (m := ⟨9, 0⟩) (meth := k9m0) (c := k9c0) (by decide +kernel) rfl rfl rfl (by decide +kernel)
set_option maxRecDepth 65536 in
theorem w_c5 : (Jvm.Cond.code ({ cls := "com/example/tagwright/tagwright/XmlElement", name := "isNamespaced", desc := "([Ljava/lang/String;)Z" } : Jvm.MethodName) prog_100_method_5_code (1 : Nat) (Option.some Jvm.ClassFile.FieldType.boolean)).before args0 about1 = true := code_word (m := ⟨9, 1⟩) (meth := k9m1) (c := k9c1) (by decide +kernel) rfl rfl rfl (by decide +kernel)
set_option maxRecDepth 65536 in
theorem w_c6 : (Jvm.Cond.code ({ cls := "com/example/tagwright/tagwright/XmlTree", name := "end", desc := "()V" } : Jvm.MethodName) prog_111_method_3_code (1 : Nat) (Option.none : Option Jvm.ClassFile.FieldType)).before args0 about1 = true := code_word (m := ⟨2, 2⟩) (meth := k2m2) (c := k2c2) (by decide +kernel) rfl rfl rfl (by decide +kernel)
set_option maxRecDepth 65536 in
theorem w_c7 : (Jvm.Cond.code ({ cls := "com/example/tagwright/tagwright/XmlElement", name := "parent", desc := "()Lcom/example/tagwright/tagwright/XmlElement;" } : Jvm.MethodName) prog_100_method_11_code (1 : Nat) (Option.some (Jvm.ClassFile.FieldType.object "com/example/tagwright/tagwright/XmlElement"))).before args0 about1 = true := code_word (m := ⟨9, 2⟩) (meth := k9m2) (c := k9c2) (by decide +kernel) rfl rfl rfl (by decide +kernel)
set_option maxRecDepth 65536 in
theorem w_c8 : (Jvm.Cond.code ({ cls := "com/example/tagwright/tagwright/XmlTree", name := "depth", desc := "()I" } : Jvm.MethodName) prog_111_method_8_code (1 : Nat) (Option.some Jvm.ClassFile.FieldType.int)).before args0 about1 = true := code_word (m := ⟨2, 3⟩) (meth := k2m3) (c := k2c3) (by decide +kernel) rfl rfl rfl (by decide +kernel)
set_option maxRecDepth 65536 in
theorem w_c9 : (Jvm.Cond.code ({ cls := "com/example/tagwright/tagwright/XmlTree", name := "root", desc := "()Lcom/example/tagwright/tagwright/XmlElement;" } : Jvm.MethodName) prog_111_method_9_code (1 : Nat) (Option.some (Jvm.ClassFile.FieldType.object "com/example/tagwright/tagwright/XmlElement"))).before args0 about1 = true := code_word (m := ⟨2, 4⟩) (meth := k2m4) (c := k2c4) (by decide +kernel) rfl rfl rfl (by decide +kernel)
set_option maxRecDepth 65536 in
theorem w_c10 : (Jvm.Cond.code ({ cls := "com/example/tagwright/tagwright/XmlElement", name := "children", desc := "()Ljava/util/List;" } : Jvm.MethodName) prog_100_method_24_code (1 : Nat) (Option.some (Jvm.ClassFile.FieldType.object "java/util/List"))).before args0 about1 = true := code_word (m := ⟨9, 3⟩) (meth := k9m3) (c := k9c3) (by decide +kernel) rfl rfl rfl (by decide +kernel)
set_option maxRecDepth 65536 in
theorem w_c11 : (Jvm.Cond.code ({ cls := "java/util/ImmutableCollections$ListN", name := "size", desc := "()I" } : Jvm.MethodName) jdk_45_method_3_code (1 : Nat) (Option.some Jvm.ClassFile.FieldType.int)).before args0 about1 = true := code_word (m := ⟨18, 0⟩) (meth := k18m0) (c := k18c0) (by decide +kernel) rfl rfl rfl (by decide +kernel)
set_option maxRecDepth 65536 in
theorem w_c12 : (Jvm.Cond.code ({ cls := "com/example/tagwright/tagwright/XmlElement", name := "adopt", desc := "(Lcom/example/tagwright/tagwright/XmlElement;)I" } : Jvm.MethodName) prog_100_method_33_code (2 : Nat) (Option.some Jvm.ClassFile.FieldType.int)).before args0 about1 = true := code_word (m := ⟨9, 4⟩) (meth := k9m4) (c := k9c4) (by decide +kernel) rfl rfl rfl (by decide +kernel)
set_option maxRecDepth 65536 in
theorem w_c13 : (Jvm.Cond.code ({ cls := "java/util/ArrayList", name := "<init>", desc := "(I)V" } : Jvm.MethodName) jdk_38_method_1_code (2 : Nat) (Option.none : Option Jvm.ClassFile.FieldType)).before args0 about1 = true := code_word (m := ⟨21, 0⟩) (meth := k21m0) (c := k21c0) (by decide +kernel) rfl rfl rfl (by decide +kernel)
set_option maxRecDepth 65536 in
theorem w_c14 : (Jvm.Cond.code ({ cls := "java/util/AbstractList", name := "<init>", desc := "()V" } : Jvm.MethodName) jdk_39_method_1_code (1 : Nat) (Option.none : Option Jvm.ClassFile.FieldType)).before args0 about1 = true := code_word (m := ⟨19, 0⟩) (meth := k19m0) (c := k19c0) (by decide +kernel) rfl rfl rfl (by decide +kernel)
set_option maxRecDepth 65536 in
theorem w_c15 : (Jvm.Cond.code ({ cls := "java/util/AbstractCollection", name := "<init>", desc := "()V" } : Jvm.MethodName) jdk_22_method_1_code (1 : Nat) (Option.none : Option Jvm.ClassFile.FieldType)).before args0 about1 = true := code_word (m := ⟨14, 0⟩) (meth := k14m0) (c := k14c0) (by decide +kernel) rfl rfl rfl (by decide +kernel)
set_option maxRecDepth 65536 in
theorem w_c16 : (Jvm.Cond.code ({ cls := "java/util/ArrayList", name := "add", desc := "(Ljava/lang/Object;)Z" } : Jvm.MethodName) jdk_38_method_25_code (2 : Nat) (Option.some Jvm.ClassFile.FieldType.boolean)).before args0 about1 = true := code_word (m := ⟨21, 6⟩) (meth := k21m6) (c := k21c6) (by decide +kernel) rfl rfl rfl (by decide +kernel)
set_option maxRecDepth 65536 in
theorem w_c17 : (Jvm.Cond.code ({ cls := "java/util/ArrayList", name := "add", desc := "(Ljava/lang/Object;[Ljava/lang/Object;I)V" } : Jvm.MethodName) jdk_38_method_24_code (4 : Nat) (Option.none : Option Jvm.ClassFile.FieldType)).before args0 about1 = true := code_word (m := ⟨21, 5⟩) (meth := k21m5) (c := k21c5) (by decide +kernel) rfl rfl rfl (by decide +kernel)
set_option maxRecDepth 65536 in
theorem w_c18 : (Jvm.Cond.code ({ cls := "java/util/ArrayList", name := "size", desc := "()I" } : Jvm.MethodName) jdk_38_method_8_code (1 : Nat) (Option.some Jvm.ClassFile.FieldType.int)).before args0 about1 = true := code_word (m := ⟨21, 2⟩) (meth := k21m2) (c := k21c2) (by decide +kernel) rfl rfl rfl (by decide +kernel)
set_option maxRecDepth 65536 in
theorem w_c19 : (Jvm.Cond.code ({ cls := "java/util/ArrayList", name := "get", desc := "(I)Ljava/lang/Object;" } : Jvm.MethodName) jdk_38_method_20_code (2 : Nat) (Option.some (Jvm.ClassFile.FieldType.object "java/lang/Object"))).before args0 about1 = true := code_word (m := ⟨21, 4⟩) (meth := k21m4) (c := k21c4) (by decide +kernel) rfl rfl rfl (by decide +kernel)
set_option maxRecDepth 65536 in
theorem w_c20 : (Jvm.Cond.code ({ cls := "java/util/Objects", name := "checkIndex", desc := "(II)I" } : Jvm.MethodName) jdk_31_method_17_code (2 : Nat) (Option.some Jvm.ClassFile.FieldType.int)).before args0 about1 = true := code_word (m := ⟨22, 1⟩) (meth := k22m1) (c := k22c1) (by decide +kernel) rfl rfl rfl (by decide +kernel)
set_option maxRecDepth 65536 in
theorem w_c21 : (Jvm.Cond.code ({ cls := "jdk/internal/util/Preconditions", name := "checkIndex", desc := "(IILjava/util/function/BiFunction;)I" } : Jvm.MethodName) jdk_41_method_11_code (3 : Nat) (Option.some Jvm.ClassFile.FieldType.int)).before args0 about1 = true := code_word (m := ⟨23, 1⟩) (meth := k23m1) (c := k23c1) (by decide +kernel) rfl rfl rfl (by decide +kernel)
set_option maxRecDepth 65536 in
theorem w_c22 : (Jvm.Cond.code ({ cls := "java/util/ArrayList", name := "elementData", desc := "(I)Ljava/lang/Object;" } : Jvm.MethodName) jdk_38_method_18_code (2 : Nat) (Option.some (Jvm.ClassFile.FieldType.object "java/lang/Object"))).before args0 about1 = true := code_word (m := ⟨21, 3⟩) (meth := k21m3) (c := k21c3) (by decide +kernel) rfl rfl rfl (by decide +kernel)
def codes1 : List Jvm.Cond := [Jvm.Cond.code x code maxLocals ret, Jvm.Cond.code ({ cls := "com/example/tagwright/tagwright/XmlTree", name := "<init>", desc := "()V" } : Jvm.MethodName) prog_111_method_1_code (1 : Nat) (Option.none : Option Jvm.ClassFile.FieldType), Jvm.Cond.code ({ cls := "java/lang/Object", name := "<init>", desc := "()V" } : Jvm.MethodName) object_method_1_code (1 : Nat) (Option.none : Option Jvm.ClassFile.FieldType), Jvm.Cond.code ({ cls := "com/example/tagwright/tagwright/XmlTree", name := "start", desc := "(Ljava/lang/String;Ljava/lang/String;Ljava/lang/String;Ljava/util/List;[Ljava/lang/String;Lcom/example/tagwright/tagwright/Location;)V" } : Jvm.MethodName) prog_111_method_2_code (7 : Nat) (Option.none : Option Jvm.ClassFile.FieldType), Jvm.Cond.code ({ cls := "com/example/tagwright/tagwright/XmlElement", name := "<init>", desc := "(Ljava/lang/String;Ljava/lang/String;Ljava/lang/String;Ljava/util/List;[Ljava/lang/String;Lcom/example/tagwright/tagwright/Location;Lcom/example/tagwright/tagwright/XmlElement;)V" } : Jvm.MethodName) prog_100_method_1_code (8 : Nat) (Option.none : Option Jvm.ClassFile.FieldType), Jvm.Cond.code ({ cls := "com/example/tagwright/tagwright/XmlElement", name := "isNamespaced", desc := "([Ljava/lang/String;)Z" } : Jvm.MethodName) prog_100_method_5_code (1 : Nat) (Option.some Jvm.ClassFile.FieldType.boolean), Jvm.Cond.code ({ cls := "com/example/tagwright/tagwright/XmlTree", name := "end", desc := "()V" } : Jvm.MethodName) prog_111_method_3_code (1 : Nat) (Option.none : Option Jvm.ClassFile.FieldType), Jvm.Cond.code ({ cls := "com/example/tagwright/tagwright/XmlElement", name := "parent", desc := "()Lcom/example/tagwright/tagwright/XmlElement;" } : Jvm.MethodName) prog_100_method_11_code (1 : Nat) (Option.some (Jvm.ClassFile.FieldType.object "com/example/tagwright/tagwright/XmlElement")), Jvm.Cond.code ({ cls := "com/example/tagwright/tagwright/XmlTree", name := "depth", desc := "()I" } : Jvm.MethodName) prog_111_method_8_code (1 : Nat) (Option.some Jvm.ClassFile.FieldType.int), Jvm.Cond.code ({ cls := "com/example/tagwright/tagwright/XmlTree", name := "root", desc := "()Lcom/example/tagwright/tagwright/XmlElement;" } : Jvm.MethodName) prog_111_method_9_code (1 : Nat) (Option.some (Jvm.ClassFile.FieldType.object "com/example/tagwright/tagwright/XmlElement")), Jvm.Cond.code ({ cls := "com/example/tagwright/tagwright/XmlElement", name := "children", desc := "()Ljava/util/List;" } : Jvm.MethodName) prog_100_method_24_code (1 : Nat) (Option.some (Jvm.ClassFile.FieldType.object "java/util/List")), Jvm.Cond.code ({ cls := "java/util/ImmutableCollections$ListN", name := "size", desc := "()I" } : Jvm.MethodName) jdk_45_method_3_code (1 : Nat) (Option.some Jvm.ClassFile.FieldType.int), Jvm.Cond.code ({ cls := "com/example/tagwright/tagwright/XmlElement", name := "adopt", desc := "(Lcom/example/tagwright/tagwright/XmlElement;)I" } : Jvm.MethodName) prog_100_method_33_code (2 : Nat) (Option.some Jvm.ClassFile.FieldType.int), Jvm.Cond.code ({ cls := "java/util/ArrayList", name := "<init>", desc := "(I)V" } : Jvm.MethodName) jdk_38_method_1_code (2 : Nat) (Option.none : Option Jvm.ClassFile.FieldType), Jvm.Cond.code ({ cls := "java/util/AbstractList", name := "<init>", desc := "()V" } : Jvm.MethodName) jdk_39_method_1_code (1 : Nat) (Option.none : Option Jvm.ClassFile.FieldType), Jvm.Cond.code ({ cls := "java/util/AbstractCollection", name := "<init>", desc := "()V" } : Jvm.MethodName) jdk_22_method_1_code (1 : Nat) (Option.none : Option Jvm.ClassFile.FieldType), Jvm.Cond.code ({ cls := "java/util/ArrayList", name := "add", desc := "(Ljava/lang/Object;)Z" } : Jvm.MethodName) jdk_38_method_25_code (2 : Nat) (Option.some Jvm.ClassFile.FieldType.boolean), Jvm.Cond.code ({ cls := "java/util/ArrayList", name := "add", desc := "(Ljava/lang/Object;[Ljava/lang/Object;I)V" } : Jvm.MethodName) jdk_38_method_24_code (4 : Nat) (Option.none : Option Jvm.ClassFile.FieldType), Jvm.Cond.code ({ cls := "java/util/ArrayList", name := "size", desc := "()I" } : Jvm.MethodName) jdk_38_method_8_code (1 : Nat) (Option.some Jvm.ClassFile.FieldType.int), Jvm.Cond.code ({ cls := "java/util/ArrayList", name := "get", desc := "(I)Ljava/lang/Object;" } : Jvm.MethodName) jdk_38_method_20_code (2 : Nat) (Option.some (Jvm.ClassFile.FieldType.object "java/lang/Object")), Jvm.Cond.code ({ cls := "java/util/Objects", name := "checkIndex", desc := "(II)I" } : Jvm.MethodName) jdk_31_method_17_code (2 : Nat) (Option.some Jvm.ClassFile.FieldType.int), Jvm.Cond.code ({ cls := "jdk/internal/util/Preconditions", name := "checkIndex", desc := "(IILjava/util/function/BiFunction;)I" } : Jvm.MethodName) jdk_41_method_11_code (3 : Nat) (Option.some Jvm.ClassFile.FieldType.int), Jvm.Cond.code ({ cls := "java/util/ArrayList", name := "elementData", desc := "(I)Ljava/lang/Object;" } : Jvm.MethodName) jdk_38_method_18_code (2 : Nat) (Option.some (Jvm.ClassFile.FieldType.object "java/lang/Object"))]
set_option maxRecDepth 65536 in
theorem codes_eq : words1.filter isCode = codes1 := rfl
theorem w_codes : ∀ c ∈ words1.filter isCode, c.before args0 about1 = true := by
  rw [codes_eq]
  intro c hc
  simp only [codes1, List.mem_cons, List.not_mem_nil, or_false] at hc
  rcases hc with rfl | rfl | rfl | rfl | rfl | rfl | rfl | rfl | rfl | rfl | rfl | rfl | rfl | rfl | rfl | rfl | rfl | rfl | rfl | rfl | rfl | rfl | rfl
  · exact w_c0
  · exact w_c1
  · exact w_c2
  · exact w_c3
  · exact w_c4
  · exact w_c5
  · exact w_c6
  · exact w_c7
  · exact w_c8
  · exact w_c9
  · exact w_c10
  · exact w_c11
  · exact w_c12
  · exact w_c13
  · exact w_c14
  · exact w_c15
  · exact w_c16
  · exact w_c17
  · exact w_c18
  · exact w_c19
  · exact w_c20
  · exact w_c21
  · exact w_c22
set_option maxRecDepth 65536 in
theorem w_t1 : (words1.take 24).all (fun c => isCode c || c.before args0 about1) = true := by decide +kernel
set_option maxRecDepth 65536 in
theorem w_t2 : ((words1.drop 24).take 24).all (fun c => isCode c || c.before args0 about1) = true := by decide +kernel
set_option maxRecDepth 65536 in
theorem w_t3 : (((words1.drop 24).drop 24).take 24).all (fun c => isCode c || c.before args0 about1) = true := by decide +kernel
set_option maxRecDepth 65536 in
theorem w_t4 : ((((words1.drop 24).drop 24).drop 24).take 24).all (fun c => isCode c || c.before args0 about1) = true := by decide +kernel
set_option maxRecDepth 65536 in
theorem w_t5 : (((((words1.drop 24).drop 24).drop 24).drop 24).take 24).all (fun c => isCode c || c.before args0 about1) = true := by decide +kernel
set_option maxRecDepth 65536 in
theorem w_t6 : ((((((words1.drop 24).drop 24).drop 24).drop 24).drop 24).take 24).all (fun c => isCode c || c.before args0 about1) = true := by decide +kernel
set_option maxRecDepth 65536 in
theorem w_t7 : (((((((words1.drop 24).drop 24).drop 24).drop 24).drop 24).drop 24).take 24).all (fun c => isCode c || c.before args0 about1) = true := by decide +kernel
set_option maxRecDepth 65536 in
theorem w_t8 : (((((((words1.drop 24).drop 24).drop 24).drop 24).drop 24).drop 24).drop 24).all (fun c => isCode c || c.before args0 about1) = true := by decide +kernel
theorem w_tables : (allAtoms (Jvm.Cond.code x code maxLocals ret :: tables_1)).before args0 about1 = true := by
  rw [allAtoms_all]
  show words1.all (fun c => c.before args0 about1) = true
  refine all_split ?_ w_codes
  rw [← List.take_append_drop 24 words1, List.all_append, w_t1, ← List.take_append_drop 24 (words1.drop 24), List.all_append, w_t2, ← List.take_append_drop 24 ((words1.drop 24).drop 24), List.all_append, w_t3, ← List.take_append_drop 24 (((words1.drop 24).drop 24).drop 24), List.all_append, w_t4, ← List.take_append_drop 24 ((((words1.drop 24).drop 24).drop 24).drop 24), List.all_append, w_t5, ← List.take_append_drop 24 (((((words1.drop 24).drop 24).drop 24).drop 24).drop 24), List.all_append, w_t6, ← List.take_append_drop 24 ((((((words1.drop 24).drop 24).drop 24).drop 24).drop 24).drop 24), List.all_append, w_t7, w_t8]
  rfl
set_option maxRecDepth 65536 in
theorem w_case : (Jvm.Cond.and given_1 narrow_1).before args0 about1 = true := by decide +kernel
theorem w_applies : (headSpec (Jvm.Cond.code x code maxLocals ret :: tables_1) room_1).applies x e0.platform about1 = true :=
  (Spec.applies_iff w_frames).mpr ⟨w_running, w_runnable, w_alone, w_named, w_hears, w_ripe, w_room, w_tables⟩
theorem atStart : AtStart classFile x code maxLocals ret World_1 tables_1 room_1 Calls_1 rest_1 Pre_1 launch0 p0 e0 about1 theMethod args0 below0 :=
  ⟨lists_1, trivial, launch0.admits_env _ _ _, launch0.least_env, fairChoices_fair.cas, fairChoices_fair.clock, w_frames, w_args, w_heap, w_applies, trivial, trivial, w_case⟩
end start1
theorem witness_1 : WitnessClaimed_1 := ⟨start1.p0, start1.e0, start1.about1, start1.theMethod, start1.args0, start1.below0, start1.atStart⟩
end Jvm.Pilot.@@N@@
