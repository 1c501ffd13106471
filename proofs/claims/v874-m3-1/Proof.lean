import JvmDerived
import JvmDerived.Pilot.@@N@@Statement
import JvmDerived.Pilot.@@N@@Code
set_option linter.unusedVariables false
set_option linter.unusedSimpArgs false
@@BLOCK:Masks.lean.txt@@
namespace Jvm.Pilot.@@N@@
open Jvm Jvm.ClassFile Sem Op Lib Jvm.Free Jvm.Stand Jvm.LawKit Jvm.RoadKit Bundle Jvm.Pilot.@@N@@.Jvm.D
section Own
variable {p : Program} {l : Launch} {e : Env} {R : Room} {s : State} {m : MethodId} {args : Array Value} {below : List Frame} {meth : Method} {c : Code} {T : State} {locs : List Loc} {cells slots : Nat} {Z : State} {a0 : Array Value} {h : Heap}
def own_Go (p : Program) (e : Env) (below : List Frame) (Q : Outcome → State → Prop) (T : State) (g : JFrame) : Prop := ∃ s₂ o, Steps p.tables e below (T.setTop g) s₂ ∧ s₂.status = .running ∧ Ended s₂ below o ∧ Q o s₂
theorem own_st {Q : Outcome → State → Prop} {T T' : State} {g g' : JFrame} (h : ∀ t, Steps p.tables e below (T'.setTop g') t → Steps p.tables e below (T.setTop g) t) (k : own_Go p e below Q T' g') : own_Go p e below Q T g := by
  obtain ⟨s₂, o, h1, h2⟩ := k
  exact ⟨s₂, o, h _ h1, h2⟩
theorem own_s {Q : Outcome → State → Prop} {T : State} {g : JFrame} (T' : State) (g' : JFrame) (h : ∀ t, Steps p.tables e below (T'.setTop g') t → Steps p.tables e below (T.setTop g) t) (k : own_Go p e below Q T' g') : own_Go p e below Q T g := own_st h k
abbrev u_ : Slot := .unset
abbrev v_ : Slot := .second
theorem own_cast {Q : Outcome → State → Prop} {T : State} {g g' : JFrame} (q : g = g') (k : own_Go p e below Q T g') : own_Go p e below Q T g := q ▸ k
def own_Post (Qv : Option Value → Heap → List Loc → Prop) (kc ks : Nat) (U : State) (o : Outcome) (U' : State) : Prop := ∃ v L, o = .returned v ∧ Qv v U'.heap L ∧ FrameEnd U o U' L kc ks
def own_Met (l : Launch) (Z : State) (y : MethodName) (bytes : ByteArray) (maxL : Nat) (ret : Option FieldType) (ws : List Jvm.Cond) (rm : Room) (h0 : Heap) (as' : Array Value) (Qv : Option Value → Heap → List Loc → Prop) (kc ks : Nat) : Prop :=
  MetFree l y (head1 (Jvm.Cond.code y bytes maxL ret :: ws) rm) (fun a U => a = as' ∧ Z.Warmed39 U.vm ∧ U.heap = h0) (fun _ _ _ _ _ => True) (fun _ U o U' => own_Post Qv kc ks U o U')
theorem own_start {y : MethodName} {bytes : ByteArray} {maxL : Nat} {ret : Option FieldType} {ws : List Jvm.Cond} {rm : Room} {h0 : Heap} {as' : Array Value} {Qv : Option Value → Heap → List Loc → Prop} {kc ks : Nat} (hpl : plainFor y = true)
    (body : ∀ (p : Program) (e : Env) (s : State) (m : MethodId) (below : List Frame) (meth : Method) (c : Code) (s₁ : State), Stand p l e rm s m as' below meth c s₁ [] 0 0 → p.tables.exec = Jvm.exec → Z.Warmed39 s.vm → c.code = bytes → c.maxLocals = maxL → meth.sig.returnType = ret → meth.locks = false → s.vm.findClass y.cls = some m.cls → meth.name = y.name → s₁.heap = h0 → own_Go p e below (own_Post Qv kc ks s) s₁ (entryFrame m as' maxL)) :
    own_Met l Z y bytes maxL ret ws rm h0 as' Qv kc ks := by
  refine MetFree.of_bodySF hpl hisR ?_
  intro p e s m args below meth c s₁ Bd hml0 hP hK
  obtain ⟨rfl, hZ, hh⟩ := hP
  exact body p e s m below meth c s₁ (Stand.of_body Bd) Bd.exec hZ Bd.bytes hml0 Bd.returns Bd.notSynchronized (findClass_of_methodNamed Bd.named) (name_of_methodNamed Bd.named Bd.method).1 (by rw [← hh, Bd.state]; rfl)
def own_PostW (Qv : Option Value → Heap → Vm → List Loc → Prop) (kc ks : Nat) (U : State) (o : Outcome) (U' : State) : Prop := ∃ v L, o = .returned v ∧ Qv v U'.heap U'.vm L ∧ ReturnedEndW U o U' L kc ks
def own_MetW (l : Launch) (Z : State) (y : MethodName) (bytes : ByteArray) (maxL : Nat) (ret : Option FieldType) (ws : List Jvm.Cond) (rm : Room) (h0 : Heap) (J : Vm → Prop) (as' : Array Value) (Qv : Option Value → Heap → Vm → List Loc → Prop) (kc ks : Nat) : Prop :=
  MetFree l y (head1 (Jvm.Cond.code y bytes maxL ret :: ws) rm) (fun a U => a = as' ∧ Z.Warmed39 U.vm ∧ U.heap = h0 ∧ J U.vm) (fun _ _ _ _ _ => True) (fun _ U o U' => own_PostW Qv kc ks U o U')
theorem own_startW {y : MethodName} {bytes : ByteArray} {maxL : Nat} {ret : Option FieldType} {ws : List Jvm.Cond} {rm : Room} {h0 : Heap} {J : Vm → Prop} {as' : Array Value} {Qv : Option Value → Heap → Vm → List Loc → Prop} {kc ks : Nat} (hpl : plainFor y = true)
    (body : ∀ (p : Program) (e : Env) (s : State) (m : MethodId) (below : List Frame) (meth : Method) (c : Code) (s₁ : State), Stand p l e rm (s.setVm s.vm) m as' below meth c s₁ [] 0 0 → p.tables.exec = Jvm.exec → Z.Warmed39 s.vm → c.code = bytes → c.maxLocals = maxL → meth.sig.returnType = ret → meth.locks = false → s.vm.findClass y.cls = some m.cls → meth.name = y.name → s₁.heap = h0 → s.Since s.vm 0 → s.heap = h0 → J s.vm → own_Go p e below (own_PostW Qv kc ks s) s₁ (entryFrame m as' maxL)) :
    own_MetW l Z y bytes maxL ret ws rm h0 J as' Qv kc ks := by
  refine MetFree.of_bodySF hpl hisR ?_
  intro p e s m args below meth c s₁ Bd hml0 hP hK
  obtain ⟨rfl, hZ, hh, hJ⟩ := hP
  exact body p e s m below meth c s₁ (Stand.of_body Bd) Bd.exec hZ Bd.bytes hml0 Bd.returns Bd.notSynchronized (findClass_of_methodNamed Bd.named) (name_of_methodNamed Bd.named Bd.method).1 (by rw [← hh, Bd.state]; rfl) ((State.WarmedH.refl s).since 0) hh hJ
def own_End (e : Env) (below : List Frame) (m : MethodId) (T : State) (v : Option Value) (P : Outcome → State → Prop) : Prop := ∃ fs, (∀ (f : JFrame) (acts : List Action), f.method = m → f.locked = none → f.entered = [] → (doReturn e (T.setTop f) acts v).1 = T.setFrames fs) ∧ (T.setFrames fs).status = .running ∧ Ended (T.setFrames fs) below (.returned v) ∧ P (.returned v) (T.setFrames fs)
theorem own_end {Qv : Option Value → Heap → List Loc → Prop} {kc ks : Nat} (X : Stand p l e R s m args below meth c T locs cells slots) {v : Option Value} (hv : meth.sig.returnType = none → v = none) (hlocks : meth.locks = false) (hc : cells ≤ kc) (hs : slots ≤ ks) (eT : T.heap = h) (q : Qv v h locs) : own_End e below m T v (own_Post Qv kc ks s) := by
  obtain ⟨fs, hr, hrun, hended, hW, hsame⟩ := X.leave hv hlocks
  exact ⟨fs, hr, hrun, hended, _, _, rfl, (by show Qv v T.heap locs; rw [eT]; exact q), ⟨_, rfl⟩, hW, hsame.mono hc hs⟩
theorem own_endW {Qv : Option Value → Heap → Vm → List Loc → Prop} {kc ks : Nat} {vm1 : Vm} (X : Stand p l e R (s.setVm vm1) m args below meth c T locs cells slots) {n : Nat} (hS : s.Since vm1 n) {v : Option Value} (hv : meth.sig.returnType = none → v = none) (hlocks : meth.locks = false) (hc : cells ≤ kc) (hs : slots ≤ ks) (eT : T.heap = h) (hk : n ≤ h.size) (q : ∀ vm', (s.setVm vm1).WarmedH vm' → Qv v h vm' locs) : own_End e below m T v (own_PostW Qv kc ks s) := by
  obtain ⟨fs, hr, hrun, hended, hE⟩ := X.leaveW hS (by rw [eT]; exact hk) hv hlocks
  exact ⟨fs, hr, hrun, hended, _, _, rfl, (by show Qv v T.heap T.vm locs; rw [eT]; exact q _ X.warmed), hE.1, hE.2.1, hE.2.2.1, hE.2.2.2.mono hc hs⟩
theorem own_fin {P : Outcome → State → Prop} {v : Option Value} {g : JFrame} (E : own_End e below m T v P) (st : ∀ fs, (∀ (f : JFrame) (acts : List Action), f.method = m → f.locked = none → f.entered = [] → (doReturn e (T.setTop f) acts v).1 = T.setFrames fs) → Steps p.tables e below (T.setTop g) (T.setFrames fs)) : own_Go p e below P T g := by
  obtain ⟨fs, hr, hrun, hended, q⟩ := E
  exact ⟨_, _, st fs hr, hrun, hended, q⟩
theorem own_some {t : FieldType} {v : Option Value} (hret : meth.sig.returnType = some t) : meth.sig.returnType = none → v = none := fun h => by rw [hret] at h; cases h
theorem own_finV {P : Outcome → State → Prop} (X : Stand p l e R s m args below meth c T locs cells slots) (hx : p.tables.exec = Jvm.exec) (hret : meth.sig.returnType = none) {pc : Nat} {Ls : Array Slot} (hd : decode c.code pc = .ok (.return_, 1)) (E : own_End e below m T none P) : own_Go p e below P T (mkF m pc Ls []) :=
  own_fin E (fun fs hr => X.returnOut hx hret hd hr)
theorem own_finX {P : Outcome → State → Prop} (X : Stand p l e R s m args below meth c T locs cells slots) (hx : p.tables.exec = Jvm.exec) {t : FieldType} (hret : meth.sig.returnType = some t) {pc : Nat} {Ls : Array Slot} {w : Value} {i : Instr} {rest : List Value} (hn : narrow t w = w)
    (hi : (i = .ireturn ∧ (t = .int ∨ t = .boolean ∨ t = .byte ∨ t = .char ∨ t = .short) ∧ ∃ z, w = .int z) ∨ (i = .lreturn ∧ t = .long ∧ ∃ z, w = .long z) ∨ (i = .dreturn ∧ t = .double ∧ ∃ z, w = .double z) ∨ (i = .freturn ∧ t = .float ∧ ∃ z, w = .float z) ∨ (i = .areturn ∧ t.isReference = true ∧ w.isRef = true))
    (hd : decode c.code pc = .ok (i, 1)) (E : own_End e below m T (some w) P) : own_Go p e below P T (mkF m pc Ls (w :: rest)) :=
  own_fin E (fun fs hr => retOut X hx hret hn hi hd hr)
theorem own_finI {P : Outcome → State → Prop} (X : Stand p l e R s m args below meth c T locs cells slots) (hx : p.tables.exec = Jvm.exec) (hret : meth.sig.returnType = some .int) {pc : Nat} {Ls : Array Slot} {z : Int32} {rest : List Value} (hd : decode c.code pc = .ok (.ireturn, 1)) (E : own_End e below m T (some (.int z)) P) : own_Go p e below P T (mkF m pc Ls (.int z :: rest)) :=
  own_finX X hx hret rfl (Or.inl ⟨rfl, Or.inl rfl, _, rfl⟩) hd E
theorem own_finL {P : Outcome → State → Prop} (X : Stand p l e R s m args below meth c T locs cells slots) (hx : p.tables.exec = Jvm.exec) (hret : meth.sig.returnType = some .long) {pc : Nat} {Ls : Array Slot} {z : Int64} {rest : List Value} (hd : decode c.code pc = .ok (.lreturn, 1)) (E : own_End e below m T (some (.long z)) P) : own_Go p e below P T (mkF m pc Ls (.long z :: rest)) :=
  own_finX X hx hret rfl (Or.inr (Or.inl ⟨rfl, rfl, _, rfl⟩)) hd E
theorem own_finD {P : Outcome → State → Prop} (X : Stand p l e R s m args below meth c T locs cells slots) (hx : p.tables.exec = Jvm.exec) (hret : meth.sig.returnType = some .double) {pc : Nat} {Ls : Array Slot} {z : UInt64} {rest : List Value} (hd : decode c.code pc = .ok (.dreturn, 1)) (E : own_End e below m T (some (.double z)) P) : own_Go p e below P T (mkF m pc Ls (.double z :: rest)) :=
  own_finX X hx hret rfl (Or.inr (Or.inr (Or.inl ⟨rfl, rfl, _, rfl⟩))) hd E
theorem own_finA {P : Outcome → State → Prop} (X : Stand p l e R s m args below meth c T locs cells slots) (hx : p.tables.exec = Jvm.exec) {t : FieldType} (hret : meth.sig.returnType = some t) (ht : t.isReference = true) {pc : Nat} {Ls : Array Slot} {w : Value} {rest : List Value} (hw : w.isRef = true) (hd : decode c.code pc = .ok (.areturn, 1)) (E : own_End e below m T (some w) P) : own_Go p e below P T (mkF m pc Ls (w :: rest)) :=
  own_finX X hx hret (by rcases ref_cases hw with rfl | ⟨z, rfl⟩ <;> cases t <;> first | rfl | cases ht) (Or.inr (Or.inr (Or.inr (Or.inr ⟨rfl, ht, hw⟩)))) hd E
theorem own_finZ {P : Outcome → State → Prop} (X : Stand p l e R s m args below meth c T locs cells slots) (hx : p.tables.exec = Jvm.exec) {t : FieldType} (hret : meth.sig.returnType = some t) (ht : t = .boolean ∨ t = .byte ∨ t = .char ∨ t = .short) {pc : Nat} {Ls : Array Slot} {z z' : Int32} {rest : List Value} (hz : nar t z = z') (hd : decode c.code pc = .ok (.ireturn, 1)) (E : own_End e below m T (some (.int z')) P) : own_Go p e below P T (mkF m pc Ls (.int z :: rest)) :=
  own_fin E (fun fs hr => by subst hz; exact retN X hx hret ht hd hr)
theorem own_callS (X : Stand p l e R s m args below meth c T locs cells slots) (hx : p.tables.exec = Jvm.exec) (hZ : Z.Warmed39 s.vm) {own : String} {index : Nat} {y : MethodName} {bytes : ByteArray} {maxL : Nat} {ret : Option FieldType} {rm : Room} {W : Nat} {Q : Option Value → Heap → List Loc → Prop} {argsL rest : List Value} {as' : Array Value}
    (hown : s.vm.findClass own = some m.cls) (w1 : (Cond.methodLink own index y).before a0 Z = true) (w2 : (Cond.static y).before a0 Z = true) (w3 : (Cond.initialized y.cls).before a0 Z = true) (w4 : (Cond.code y bytes maxL ret).before a0 Z = true) (hy : y.cls ≠ "java/lang/invoke/MethodHandle" ∧ y.cls ≠ "java/lang/invoke/VarHandle")
    (hM : own_Met l Z y bytes maxL ret [] rm h as' Q rm.cells rm.slots) (hf : rm.frames + 1 ≤ R.frames) (hl : W + (maxL + 11) + rm.locals ≤ R.locals) {g : JFrame} (hg : g.method = m) (hsz : g.locals.size = c.maxLocals) (has : argsL.toArray = as') (hlen : ∀ sig, parseMethodDescriptor y.desc = some sig → argsL.length = sig.parameters.length) (hstk : g.stack = argsL.reverse ++ rest) (hW : 2 * g.monitorRoom + (rest.map fun v => v.category).sum ≤ W)
    (hd : decode c.code g.pc = .ok (.invokestatic index, 3)) (eT : T.heap = h) (hc : cells + rm.cells ≤ R.cells) (hs : slots + rm.slots ≤ R.slots) :
    ∃ v T' L, Stand p l e R s m args below meth c T' (locs ++ L) (cells + rm.cells) (slots + rm.slots) ∧ Q v T'.heap L ∧ ∀ target, Steps p.tables e below (T'.setTop { g with pc := g.pc + 3, stack := v.toList ++ rest }) target → Steps p.tables e below (T.setTop g) target := by
  obtain ⟨v, _, ⟨T', L', k', n'⟩, -, X', ⟨Lc, hQ, l', y', z'⟩, st⟩ := Jvm.LawKit.callS X hx (y := y) hown (mvT hZ w1) (mvT hZ w2) (mvT hZ w3) (mvT hZ w4) hy (backOf (W := W) hM hZ w4 w3 hf hl) (g := g) hg hsz (argsL := argsL) (rest := rest) hlen hstk hW hd (fun _ _ => ⟨has, eT, hc, hs⟩)
  dsimp only [Pt.U, Pt.locs, Pt.cells, Pt.slots] at X' l' y' z' st hQ
  subst l' y' z'
  exact ⟨v, T', Lc, X', hQ, st⟩
theorem own_callI (X : Stand p l e R s m args below meth c T locs cells slots) (hx : p.tables.exec = Jvm.exec) (hZ : Z.Warmed39 s.vm) {own : String} {index : Nat} {y : MethodName} {bytes : ByteArray} {maxL : Nat} {rm : Room} {W : Nat} {Q : Option Value → Heap → List Loc → Prop} {a : Addr} {argsL rest : List Value} {as' : Array Value} (hyn : y.name = "<init>")
    (hown : s.vm.findClass own = some m.cls) (w1 : (Cond.methodLink own index y).before a0 Z = true) (w2 : (Cond.instanceMethod y).before a0 Z = true) (w3 : (Cond.initialized y.cls).before a0 Z = true) (w4 : (Cond.code y bytes maxL none).before a0 Z = true) (hy : y.cls ≠ "java/lang/invoke/MethodHandle" ∧ y.cls ≠ "java/lang/invoke/VarHandle")
    (hM : own_Met l Z y bytes maxL none [] rm h as' Q rm.cells rm.slots) (hf : rm.frames + 1 ≤ R.frames) (hl : W + (maxL + 11) + rm.locals ≤ R.locals) {g : JFrame} (hg : g.method = m) (hsz : g.locals.size = c.maxLocals) (has : (Value.ref a :: argsL).toArray = as') (hlen : ∀ sig, parseMethodDescriptor y.desc = some sig → argsL.length = sig.parameters.length) (hstk : g.stack = argsL.reverse ++ .ref a :: rest) (hW : 2 * g.monitorRoom + (rest.map fun v => v.category).sum ≤ W)
    (hd : decode c.code g.pc = .ok (.invokespecial index, 3)) (eT : T.heap = h) (hc : cells + rm.cells ≤ R.cells) (hs : slots + rm.slots ≤ R.slots) :
    ∃ v T' L, Stand p l e R s m args below meth c T' (locs ++ L) (cells + rm.cells) (slots + rm.slots) ∧ Q v T'.heap L ∧ ∀ target, Steps p.tables e below (T'.setTop { g with pc := g.pc + 3, stack := v.toList ++ rest }) target → Steps p.tables e below (T.setTop g) target := by
  obtain ⟨v, _, ⟨T', L', k', n'⟩, -, X', ⟨Lc, hQ, l', y', z'⟩, st⟩ := X.specialBack hx (y := y) hyn hown (mvT hZ w1) (mvT hZ w2) (mvT hZ w4) hy (backOf (W := W) hM hZ w4 w3 hf hl) (g := g) hg hsz (Steps.refl _) (a := a) (argsL := argsL) (rest := rest) hlen hstk hW hd (fun _ _ => ⟨has, eT, hc, hs⟩)
  dsimp only [Pt.U, Pt.locs, Pt.cells, Pt.slots] at X' l' y' z' st hQ
  subst l' y' z'
  exact ⟨v, T', Lc, X', hQ, fun t k => st.trans k⟩
theorem own_callV (X : Stand p l e R s m args below meth c T locs cells slots) (hx : p.tables.exec = Jvm.exec) (hZ : Z.Warmed39 s.vm) {own C : String} {index : Nat} {y z : MethodName} {bytes : ByteArray} {maxL : Nat} {ret : Option FieldType} {rm : Room} {W : Nat} {Q : Option Value → Heap → List Loc → Prop} {a : Addr} {argsL rest : List Value} {as' : Array Value}
    (hown : s.vm.findClass own = some m.cls) (w1 : (Cond.methodLink own index y).before a0 Z = true) (w2 : (Cond.declares y).before a0 Z = true) (hnf : NotFace s y) (wsel : (Cond.selects C y z).before a0 Z = true) (wi : (Cond.instanceMethod z).before a0 Z = true) (w3 : (Cond.initialized z.cls).before a0 Z = true) (w4 : (Cond.code z bytes maxL ret).before a0 Z = true) (hy : y.cls ≠ "java/lang/invoke/MethodHandle" ∧ y.cls ≠ "java/lang/invoke/VarHandle")
    (hM : own_Met l Z z bytes maxL ret [] rm h as' Q rm.cells rm.slots) (hf : rm.frames + 1 ≤ R.frames) (hl : W + (maxL + 11) + rm.locals ≤ R.locals) (E : Exa Z h a C) {g : JFrame} (hg : g.method = m) (hsz : g.locals.size = c.maxLocals) (has : (Value.ref a :: argsL).toArray = as') (hlen : ∀ sig, parseMethodDescriptor y.desc = some sig → argsL.length = sig.parameters.length) (hstk : g.stack = argsL.reverse ++ .ref a :: rest) (hW : 2 * g.monitorRoom + (rest.map fun v => v.category).sum ≤ W)
    (hd : decode c.code g.pc = .ok (.invokevirtual index, 3)) (eT : T.heap = h) (hc : cells + rm.cells ≤ R.cells) (hs : slots + rm.slots ≤ R.slots) :
    ∃ v T' L, Stand p l e R s m args below meth c T' (locs ++ L) (cells + rm.cells) (slots + rm.slots) ∧ Q v T'.heap L ∧ ∀ target, Steps p.tables e below (T'.setTop { g with pc := g.pc + 3, stack := v.toList ++ rest }) target → Steps p.tables e below (T.setTop g) target := by
  obtain ⟨cq, kq, qa, qb, qc⟩ := isOf hZ eT E
  obtain ⟨v, _, ⟨T', L', k', n'⟩, -, X', ⟨Lc, hQ, l', y', z'⟩, st⟩ := X.virtualBack hx (y := y) (z := z) hown (mvT hZ w1) (mvT hZ w2) hnf (mvT hZ wsel) (mvT hZ wi) hy (backOf (W := W) hM hZ w4 w3 hf hl) qa qc (g := g) hg hsz (Steps.refl _) (argsL := argsL) (rest := rest) hlen hstk hW hd (fun _ _ => ⟨has, eT, hc, hs⟩)
  dsimp only [Pt.U, Pt.locs, Pt.cells, Pt.slots] at X' l' y' z' st hQ
  subst l' y' z'
  exact ⟨v, T', Lc, X', hQ, fun t k => st.trans k⟩
theorem own_callP (X : Stand p l e R s m args below meth c T locs cells slots) (hx : p.tables.exec = Jvm.exec) (hZ : Z.Warmed39 s.vm) {own C : String} {index : Nat} {y : MethodName} {bytes : ByteArray} {maxL : Nat} {ret : Option FieldType} {rm : Room} {W : Nat} {Q : Option Value → Heap → List Loc → Prop} {a : Addr} {argsL rest : List Value} {as' : Array Value}
    (hown : s.vm.findClass own = some m.cls) (w1 : (Cond.methodLink own index y).before a0 Z = true) (wi : (Cond.instanceMethod y).before a0 Z = true) {kk : Nat} (wn : (Cond.instantiable y.cls kk).before a0 Z = true) (wp : (Cond.privateMethod y).before a0 Z = true) (w3 : (Cond.initialized y.cls).before a0 Z = true) (w4 : (Cond.code y bytes maxL ret).before a0 Z = true) (hy : y.cls ≠ "java/lang/invoke/MethodHandle" ∧ y.cls ≠ "java/lang/invoke/VarHandle")
    (hM : own_Met l Z y bytes maxL ret [] rm h as' Q rm.cells rm.slots) (hf : rm.frames + 1 ≤ R.frames) (hl : W + (maxL + 11) + rm.locals ≤ R.locals) (E : Exa Z h a C) {g : JFrame} (hg : g.method = m) (hsz : g.locals.size = c.maxLocals) (has : (Value.ref a :: argsL).toArray = as') (hlen : ∀ sig, parseMethodDescriptor y.desc = some sig → argsL.length = sig.parameters.length) (hstk : g.stack = argsL.reverse ++ .ref a :: rest) (hW : 2 * g.monitorRoom + (rest.map fun v => v.category).sum ≤ W)
    (hd : decode c.code g.pc = .ok (.invokevirtual index, 3)) (eT : T.heap = h) (hc : cells + rm.cells ≤ R.cells) (hs : slots + rm.slots ≤ R.slots) :
    ∃ v T' L, Stand p l e R s m args below meth c T' (locs ++ L) (cells + rm.cells) (slots + rm.slots) ∧ Q v T'.heap L ∧ ∀ target, Steps p.tables e below (T'.setTop { g with pc := g.pc + 3, stack := v.toList ++ rest }) target → Steps p.tables e below (T.setTop g) target := by
  obtain ⟨cq, q1, q2⟩ := E.cell
  obtain ⟨ci, ki, hi1, hi2, -, hi4, -⟩ := Cond.instantiable_spec (mvT (args := args) hZ wn)
  have hsel : (Cond.selects y.cls y y).before args s = true := selects_self_of_private hi1 hi2 (by simp only [Bool.or_eq_false_iff] at hi4; exact hi4.1) (Cond.privateMethod_at (mvP hZ wp (args := #[]))) (mvT hZ wi) hy
  obtain ⟨v, _, ⟨T', L', k', n'⟩, -, X', ⟨Lc, hQ, l', y', z'⟩, st⟩ := X.privateBack hx (y := y) hown (mvT hZ w1) (mvT hZ wi) hsel (Cond.privateMethod_at (mvP hZ wp (args := #[]))) (mvT hZ w4) hy (backOf (W := W) hM hZ w4 w3 hf hl) (g := g) hg hsz (Steps.refl _) (a := a) (by rw [eT]; exact q1) q2 (argsL := argsL) (rest := rest) hlen hstk hW hd (fun _ _ => ⟨has, eT, hc, hs⟩)
  dsimp only [Pt.U, Pt.locs, Pt.cells, Pt.slots] at X' l' y' z' st hQ
  subst l' y' z'
  exact ⟨v, T', Lc, X', hQ, fun t k => st.trans k⟩
end Own

theorem own_h {a0 : Array Value} {Z : State} (hw : ∀ d ∈ tables_1, d.before a0 Z = true) (i : Nat) {d : Jvm.Cond} (h : tables_1[i]? = some d) : d.before a0 Z = true := hw d (List.mem_of_getElem? h)
theorem own_at {T : State} {h : Heap} {a : Addr} {c : Cell} (eT : T.heap = h) (q : h[a]? = some c) : T.heap[a]? = some c := by rw [eT]; exact q
def own_b (b : Bool) : Int32 := cond b 1 0
theorem own_b0 {b : Bool} (h : b = false) : own_b b = 0 := by subst h; rfl
theorem own_b1 {b : Bool} (h : ¬ b = false) : ¬ own_b b = 0 := by cases b; exact absurd rfl h; decide
theorem own_narb (b : Bool) : nar .boolean (own_b b) = own_b b := by cases b <;> rfl
theorem own_lclt {a b : Int64} (h : a < b) : lcmpW a b < 0 := by rw [lcW]; exact (lc_lt a b).mpr h
theorem own_lcltN {a b : Int64} (h : ¬ a < b) : ¬ lcmpW a b < 0 := fun q => by rw [lcW] at q; exact h ((lc_lt a b).mp q)
theorem own_lcgt {a b : Int64} (h : b < a) : 0 < lcmpW a b := by rw [lcW]; exact (lc_gt a b).mpr h
theorem own_lcgtN {a b : Int64} (h : ¬ b < a) : ¬ 0 < lcmpW a b := fun q => by rw [lcW] at q; exact h ((lc_gt a b).mp q)
theorem own_lceq {a b : Int64} (h : a = b) : lcmpW a b = 0 := by rw [lcW]; exact (lc_eq a b).mpr h
theorem own_lceqN {a b : Int64} (h : ¬ a = b) : ¬ lcmpW a b = 0 := fun q => by rw [lcW] at q; exact h ((lc_eq a b).mp q)
theorem own_insKeep {Z : State} {h h' : Heap} {a : Addr} {C : String} {bo : Bool} {ws : List Addr} (F : Ins Z h a C bo) (K : Keep h h' ws) : Ins Z h' a C bo := by
  obtain ⟨cell, cT, h1, h2, h3⟩ := F
  obtain ⟨c', q1, q2, q3, -⟩ := K.2.2 _ _ h1
  exact ⟨c', cT, q1, h2, by rw [q2, q3]; exact h3⟩
theorem own_staKeep {Z : State} {h h' : Heap} {C n d : String} {v : Value} (F : Sta Z h C n d v) (K : Keep h h' []) : Sta Z h' C n d v := by
  obtain ⟨cf, i, k, f, st, cell, h1, h2, h3, h4, h5, r⟩ := F
  exact ⟨cf, i, k, f, st, cell, h1, h2, h3, h4, K.2.1 _ _ h5 nin0, r⟩
theorem own_staKeepW {Z : State} {h h' : Heap} {C n d : String} {v : Value} {ws : List Addr} (F : Sta Z h C n d v) (K : Keep h h' ws) (hw : ∀ x ∈ ws, ∀ cell : Cell, h[x]? = some cell → cell.vm.isStatics = false) : Sta Z h' C n d v := by
  obtain ⟨cf, i, k, f, st, cell, h1, h2, h3, h4, h5, h6, r⟩ := F
  exact ⟨cf, i, k, f, st, cell, h1, h2, h3, h4, K.2.1 _ _ h5 (fun q => by rw [hw _ q _ h5] at h6; cases h6), h6, r⟩
theorem own_narR {t : FieldType} {w : Value} (hw : w.isRef = true) : narrow t w = w := by rcases ref_cases hw with rfl | ⟨z, rfl⟩ <;> cases t <;> rfl
theorem own_fitR {t : FieldType} {w : Value} (hw : w.isRef = true) (ht : t.isReference = true := by rfl) : fits t w = true := by rcases ref_cases hw with rfl | ⟨z, rfl⟩ <;> cases t <;> first | rfl | cases ht
theorem own_catR {w : Value} (hw : w.isRef = true) : w.category = 1 := by rcases ref_cases hw with rfl | ⟨z, rfl⟩ <;> rfl
theorem own_stV {l l' : Array Slot} {i : Nat} {w : Value} {o : Slot} (hw : w.isRef = true) (hold : l[i]? = some o) (ho : o = .unset ∨ ∃ x, o = .val x ∧ x.category = 1) (e : l.setIfInBounds i (.val w) = l') : storeLocals l i w = some l' := (XS.store1 hold ho (own_catR hw)).trans (congrArg some e)
theorem own_len {p : Program} {l : Launch} {e : Env} {R : Room} {s : State} {m : MethodId} {args : Array Value} {below : List Frame} {meth : Method} {c : Code} {T : State} {locs : List Loc} {cells slots : Nat} {Z : State} {h : Heap} (X : Stand p l e R s m args below meth c T locs cells slots) (hx : p.tables.exec = Jvm.exec) (hZ : Z.Warmed39 s.vm) (eT : T.heap = h) {a : Addr} {cl : Cell} {ty : FieldType} {z : Int32} (A : Arr Z h a cl ty) (S : cl.slots.size = z.toNatClampNeg) (hz : ¬ z < 0)
    {g : JFrame} (hg : g.method = m) {rest : List Value} (hs : g.stack = .ref a :: rest) (hd : decode c.code g.pc = .ok (.arraylength, 1)) {target : State} (k : Steps p.tables e below (T.setTop { g with pc := g.pc + 1, stack := .int z :: rest }) target) : Steps p.tables e below (T.setTop g) target := by
  refine X.arraylength hx (by rw [eT]; exact A.1) (State.isArrayOf_alike hZ.alike A.2.1) (g := g) hg hs hd _ ?_
  rw [len_of S hz]
  exact k
section OwnW
variable {p : Program} {l : Launch} {e : Env} {R : Room} {s : State} {vm0 : Vm} {m : MethodId} {args : Array Value} {below : List Frame} {meth : Method} {c : Code} {T : State} {locs : List Loc} {cells slots : Nat} {Z : State} {a0 : Array Value} {h : Heap}
theorem own_backS {y : MethodName} {bytes : ByteArray} {maxL : Nat} {ret : Option FieldType} {rm : Room} {len W : Nat} {J : Vm → Prop} {as' : Array Value} {Q : Option Value → Heap → Vm → List Loc → Prop} (hM : own_MetW l Z y bytes maxL ret [] rm h J as' Q rm.cells rm.slots)
    (hZ : Z.Warmed39 s.vm) (wc : (Cond.code y bytes maxL ret).before a0 Z = true) (wz : (Cond.initialized y.cls).before a0 Z = true) (hf : rm.frames + 1 ≤ R.frames) (hl : W + (maxL + 11) + rm.locals ≤ R.locals) :
    BackS l R p e below s args y len W (fun A a => a = as' ∧ A.U.heap = h ∧ J A.U.vm ∧ A.cells + rm.cells ≤ R.cells ∧ A.slots + rm.slots ≤ R.slots)
      (fun A _ v B => ∃ L, Q v B.U.heap B.U.vm L ∧ B.locs = A.locs ++ L ∧ B.cells = A.cells + rm.cells ∧ B.slots = A.slots + rm.slots) :=
  BackS.of_freeW (bytes := bytes) (maxL := maxL) (ret := ret) (E := fun _ _ o t L k n => k = rm.cells ∧ n = rm.slots ∧ ∃ v, o = .returned v ∧ Q v t.heap t.vm L) hM hf hl
    (fun m meth c A a Y hp => have hU : Z.Warmed39 A.U.vm := wtrans hZ Y.warmed
      ⟨by show (Cond.and _ .tt).before a A.U = true; rw [Cond.before_and, mv hU wc]; rfl, mv hU wc, mv hU wz, hp.2.2.2.1, hp.2.2.2.2⟩)
    (fun m meth c A a g mk Y hp => ⟨hp.1, wtrans hZ Y.warmed, hp.2.1, hp.2.2.1⟩) (fun _ _ _ _ _ _ _ _ _ => trivial)
    (fun _ _ _ _ ⟨v, L, h1, h2, h3⟩ => ⟨L, _, _, h3, rfl, rfl, v, h1, h2⟩)
    (fun m meth c A a g mk v t L k n Y hp _ _ ⟨e1, e2, v', e3, e4⟩ => by cases e3; subst e1 e2; exact ⟨L, e4, rfl, rfl, rfl⟩)
theorem own_callSW (X : Stand p l e R (s.setVm vm0) m args below meth c T locs cells slots) (hx : p.tables.exec = Jvm.exec) (hZ : Z.Warmed39 vm0) {k0 : Nat} (hS : s.Since vm0 k0) (hk : k0 ≤ h.size) {own : String} {index : Nat} {y : MethodName} {bytes : ByteArray} {maxL : Nat} {ret : Option FieldType} {rm : Room} {W : Nat} {J : Vm → Prop} {Q : Option Value → Heap → Vm → List Loc → Prop} {argsL rest : List Value} {as' : Array Value}
    (hown : vm0.findClass own = some m.cls) (w1 : (Cond.methodLink own index y).before a0 Z = true) (w2 : (Cond.static y).before a0 Z = true) (w3 : (Cond.initialized y.cls).before a0 Z = true) (w4 : (Cond.code y bytes maxL ret).before a0 Z = true) (hy : y.cls ≠ "java/lang/invoke/MethodHandle" ∧ y.cls ≠ "java/lang/invoke/VarHandle")
    (hM : own_MetW l Z y bytes maxL ret [] rm h J as' Q rm.cells rm.slots) (hJ : ∀ vm', (s.setVm vm0).WarmedH vm' → J vm') (hf : rm.frames + 1 ≤ R.frames) (hl : W + (maxL + 11) + rm.locals ≤ R.locals) {g : JFrame} (hg : g.method = m) (hsz : g.locals.size = c.maxLocals) (has : argsL.toArray = as') (hlen : ∀ sig, parseMethodDescriptor y.desc = some sig → argsL.length = sig.parameters.length) (hstk : g.stack = argsL.reverse ++ rest) (hW : 2 * g.monitorRoom + (rest.map fun v => v.category).sum ≤ W)
    (hd : decode c.code g.pc = .ok (.invokestatic index, 3)) (eT : T.heap = h) (hc : cells + rm.cells ≤ R.cells) (hs : slots + rm.slots ≤ R.slots) :
    ∃ v T' L, Stand p l e R (s.setVm T'.vm) m args below meth c T' (locs ++ L) (cells + rm.cells) (slots + rm.slots) ∧ Q v T'.heap T'.vm L ∧ s.Since T'.vm T'.heap.size ∧ h.size ≤ T'.heap.size ∧ Z.Warmed39 (s.setVm T'.vm).vm ∧ (s.setVm T'.vm).vm.findClass own = some m.cls ∧ ∀ target, Steps p.tables e below (T'.setTop { g with pc := g.pc + 3, stack := v.toList ++ rest }) target → Steps p.tables e below (T.setTop g) target := by
  obtain ⟨v, _, ⟨T', L', k', n'⟩, -, X', hS', hg', ⟨Lc, hQ, l', y', z'⟩, st⟩ := callSS X hx (y := y) hown (mvT hZ w1) (mvT hZ w2) (mvT hZ w3) (mvT hZ w4) hy (own_backS (W := W) hM hZ w4 w3 hf hl) (g := g) hg hsz (argsL := argsL) (rest := rest) hlen hstk hW hd (fun vm' hv => ⟨has, eT, hJ vm' hv, hc, hs⟩)
  dsimp only [Pt.U, Pt.locs, Pt.cells, Pt.slots] at X' l' y' z' st hQ hS' hg'
  subst l' y' z'
  rw [eT] at hg'
  exact ⟨v, T', Lc, X', hQ, hS.trans hS' (Nat.le_trans hk hg'), hg', State.Warmed39.trans (t := s.setVm vm0) hZ hS'.1, by rw [show (s.setVm T'.vm).vm = T'.vm from rfl, hS'.1.alike.findClass]; exact hown, fun t k => st.trans k⟩
theorem own_callIW (X : Stand p l e R (s.setVm vm0) m args below meth c T locs cells slots) (hx : p.tables.exec = Jvm.exec) (hZ : Z.Warmed39 vm0) {k0 : Nat} (hS : s.Since vm0 k0) (hk : k0 ≤ h.size) {own : String} {index : Nat} {y : MethodName} {bytes : ByteArray} {maxL : Nat} {rm : Room} {W : Nat} {J : Vm → Prop} {Q : Option Value → Heap → Vm → List Loc → Prop} {a : Addr} {argsL rest : List Value} {as' : Array Value} (hyn : y.name = "<init>")
    (hown : vm0.findClass own = some m.cls) (w1 : (Cond.methodLink own index y).before a0 Z = true) (w2 : (Cond.instanceMethod y).before a0 Z = true) (w3 : (Cond.initialized y.cls).before a0 Z = true) (w4 : (Cond.code y bytes maxL none).before a0 Z = true) (hy : y.cls ≠ "java/lang/invoke/MethodHandle" ∧ y.cls ≠ "java/lang/invoke/VarHandle")
    (hM : own_MetW l Z y bytes maxL none [] rm h J as' Q rm.cells rm.slots) (hJ : ∀ vm', (s.setVm vm0).WarmedH vm' → J vm') (hf : rm.frames + 1 ≤ R.frames) (hl : W + (maxL + 11) + rm.locals ≤ R.locals) {g : JFrame} (hg : g.method = m) (hsz : g.locals.size = c.maxLocals) (has : (Value.ref a :: argsL).toArray = as') (hlen : ∀ sig, parseMethodDescriptor y.desc = some sig → argsL.length = sig.parameters.length) (hstk : g.stack = argsL.reverse ++ .ref a :: rest) (hW : 2 * g.monitorRoom + (rest.map fun v => v.category).sum ≤ W)
    (hd : decode c.code g.pc = .ok (.invokespecial index, 3)) (eT : T.heap = h) (hc : cells + rm.cells ≤ R.cells) (hs : slots + rm.slots ≤ R.slots) :
    ∃ v T' L, Stand p l e R (s.setVm T'.vm) m args below meth c T' (locs ++ L) (cells + rm.cells) (slots + rm.slots) ∧ Q v T'.heap T'.vm L ∧ s.Since T'.vm T'.heap.size ∧ h.size ≤ T'.heap.size ∧ Z.Warmed39 (s.setVm T'.vm).vm ∧ (s.setVm T'.vm).vm.findClass own = some m.cls ∧ ∀ target, Steps p.tables e below (T'.setTop { g with pc := g.pc + 3, stack := v.toList ++ rest }) target → Steps p.tables e below (T.setTop g) target := by
  obtain ⟨v, _, ⟨T', L', k', n'⟩, -, X', hS', hg', ⟨Lc, hQ, l', y', z'⟩, st⟩ := X.specialBackS hx (y := y) hyn hown (mvT hZ w1) (mvT hZ w2) (mvT hZ w4) hy (own_backS (W := W) hM hZ w4 w3 hf hl) (g := g) hg hsz (Steps.refl _) (a := a) (argsL := argsL) (rest := rest) hlen hstk hW hd (fun vm' hv => ⟨has, eT, hJ vm' hv, hc, hs⟩)
  dsimp only [Pt.U, Pt.locs, Pt.cells, Pt.slots] at X' l' y' z' st hQ hS' hg'
  subst l' y' z'
  rw [eT] at hg'
  exact ⟨v, T', Lc, X', hQ, hS.trans hS' (Nat.le_trans hk hg'), hg', State.Warmed39.trans (t := s.setVm vm0) hZ hS'.1, by rw [show (s.setVm T'.vm).vm = T'.vm from rfl, hS'.1.alike.findClass]; exact hown, fun t k => st.trans k⟩
theorem own_callVW (X : Stand p l e R (s.setVm vm0) m args below meth c T locs cells slots) (hx : p.tables.exec = Jvm.exec) (hZ : Z.Warmed39 vm0) {k0 : Nat} (hS : s.Since vm0 k0) (hk : k0 ≤ h.size) {own C : String} {index : Nat} {y z : MethodName} {bytes : ByteArray} {maxL : Nat} {ret : Option FieldType} {rm : Room} {W : Nat} {J : Vm → Prop} {Q : Option Value → Heap → Vm → List Loc → Prop} {a : Addr} {argsL rest : List Value} {as' : Array Value}
    (hown : vm0.findClass own = some m.cls) (w1 : (Cond.methodLink own index y).before a0 Z = true) (w2 : (Cond.declares y).before a0 Z = true) (hnf : NotFace (s.setVm vm0) y) (wsel : (Cond.selects C y z).before a0 Z = true) (wi : (Cond.instanceMethod z).before a0 Z = true) (w3 : (Cond.initialized z.cls).before a0 Z = true) (w4 : (Cond.code z bytes maxL ret).before a0 Z = true) (hy : y.cls ≠ "java/lang/invoke/MethodHandle" ∧ y.cls ≠ "java/lang/invoke/VarHandle")
    (hM : own_MetW l Z z bytes maxL ret [] rm h J as' Q rm.cells rm.slots) (hJ : ∀ vm', (s.setVm vm0).WarmedH vm' → J vm') (hf : rm.frames + 1 ≤ R.frames) (hl : W + (maxL + 11) + rm.locals ≤ R.locals) (E : Exa Z h a C) {g : JFrame} (hg : g.method = m) (hsz : g.locals.size = c.maxLocals) (has : (Value.ref a :: argsL).toArray = as') (hlen : ∀ sig, parseMethodDescriptor y.desc = some sig → argsL.length = sig.parameters.length) (hstk : g.stack = argsL.reverse ++ .ref a :: rest) (hW : 2 * g.monitorRoom + (rest.map fun v => v.category).sum ≤ W)
    (hd : decode c.code g.pc = .ok (.invokevirtual index, 3)) (eT : T.heap = h) (hc : cells + rm.cells ≤ R.cells) (hs : slots + rm.slots ≤ R.slots) :
    ∃ v T' L, Stand p l e R (s.setVm T'.vm) m args below meth c T' (locs ++ L) (cells + rm.cells) (slots + rm.slots) ∧ Q v T'.heap T'.vm L ∧ s.Since T'.vm T'.heap.size ∧ h.size ≤ T'.heap.size ∧ Z.Warmed39 (s.setVm T'.vm).vm ∧ (s.setVm T'.vm).vm.findClass own = some m.cls ∧ ∀ target, Steps p.tables e below (T'.setTop { g with pc := g.pc + 3, stack := v.toList ++ rest }) target → Steps p.tables e below (T.setTop g) target := by
  obtain ⟨cq, kq, qa, qb, qc⟩ := isOf (s := s.setVm vm0) hZ eT E
  obtain ⟨v, _, ⟨T', L', k', n'⟩, -, X', hS', hg', ⟨Lc, hQ, l', y', z'⟩, st⟩ := X.virtualBackS hx (y := y) (z := z) hown (mvT hZ w1) (mvT hZ w2) hnf (mvT hZ wsel) (mvT hZ wi) hy (own_backS (W := W) hM hZ w4 w3 hf hl) qa qc (g := g) hg hsz (Steps.refl _) (argsL := argsL) (rest := rest) hlen hstk hW hd (fun vm' hv => ⟨has, eT, hJ vm' hv, hc, hs⟩)
  dsimp only [Pt.U, Pt.locs, Pt.cells, Pt.slots] at X' l' y' z' st hQ hS' hg'
  subst l' y' z'
  rw [eT] at hg'
  exact ⟨v, T', Lc, X', hQ, hS.trans hS' (Nat.le_trans hk hg'), hg', State.Warmed39.trans (t := s.setVm vm0) hZ hS'.1, by rw [show (s.setVm T'.vm).vm = T'.vm from rfl, hS'.1.alike.findClass]; exact hown, fun t k => st.trans k⟩
theorem own_ibW {Ts : List String} {vm' : Vm} (I : IB Z vm0 Ts) (hv : (s.setVm vm0).WarmedH vm') : IB Z vm' Ts := by
  obtain ⟨more, h1, h2⟩ := I
  exact ⟨more, by rw [hv.interned_eq]; exact h1, h2⟩
theorem own_litW {own : String} {index : Nat} {a : Addr} {vm' : Vm} (L : Lit (s.setVm vm0) own index a) (hv : (s.setVm vm0).WarmedH vm') : Lit (s.setVm vm') own index a := Lit.stays L hv.wide
end OwnW
theorem own_wS {a0 : Array Value} {Z : State} (hw : ∀ d ∈ tables_1, d.before a0 Z = true) : ∀ a ∈ Bundle.stringAtoms, a.before a0 Z = true := fun d hd => by
  simp only [Bundle.stringAtoms, List.mem_cons, List.not_mem_nil, or_false] at hd
  rcases hd with rfl | rfl | rfl | rfl | rfl | rfl | rfl
  · exact own_h hw 6 rfl
  · exact own_h hw 5 rfl
  · exact own_h hw 19 rfl
  · exact own_h hw 20 rfl
  · exact own_h hw 21 rfl
  · exact own_h hw 22 rfl
  · exact own_h hw 23 rfl
theorem own_eqI {args : Array Value} {s : State} {a b : Term} {z k : Int32} (hx : a.eval args s none [] s = some (.int z)) (hy : b.eval args s none [] s = some (.int k)) (h : (Jvm.Cond.eq a b).value args s none s [] = some true) : z = k := by
  simpa [Cond.value, hx, hy] using h
theorem own_fldAt {args : Array Value} {s : State} {t : Term} {a : Addr} {Cc n d : String} {k : Int32} (h : (Jvm.Cond.eq (.field t Cc n d) (.int k)).value args s none s [] = some true) (ht : t.eval args s none [] s = some (.ref a)) : Fld s s.heap a Cc n d (.int k) := by
  obtain ⟨x, y, hx, hy, k1, k2⟩ := cmp_v (Or.inl h)
  have hy' : some (Value.int k) = some y := hy
  cases hy'
  obtain ⟨z, rfl⟩ := k2
  have e : z = k := own_eqI hx hy h
  subst e
  exact Fld.start ((fld_at ht).symm.trans hx)
theorem own_fldR {args : Array Value} {s : State} {t : Term} {a b : Addr} {Cc n d : String} (ht : t.eval args s none [] s = some (.ref a)) (hx : (Term.field t Cc n d).eval args s none [] s = some (.ref b)) : Fld s s.heap a Cc n d (.ref b) := Fld.start ((fld_at ht).symm.trans hx)
theorem own_elemAt {args : Array Value} {s : State} {t u : Term} {a o : Addr} {cl : Cell} {i : Int32} {j : Nat} (h : (Jvm.Cond.eq (.elem t (.int i)) u).value args s none s [] = some true) (ht : t.eval args s none [] s = some (.ref a)) (hu : u.eval args s none [] s = some (.ref o)) (hc : s.heap[a]? = some cl) (hij : i.toNatClampNeg = j) : cl.slots[j]? = some (.ref o) := by
  obtain ⟨x, y, hx, hy, k1, k2⟩ := cmp_v (Or.inl h)
  cases hu.symm.trans hy
  have q := gotT (eq_R hx hy k2.2 rfl) h
  subst q
  have := (elem_in hx ht rfl hc).2
  rw [hij] at this
  exact this
theorem own_elemI {args : Array Value} {s : State} {t : Term} {a : Addr} {cl : Cell} {i k : Int32} {j : Nat} (h : (Jvm.Cond.eq (.elem t (.int i)) (.int k)).value args s none s [] = some true) (ht : t.eval args s none [] s = some (.ref a)) (hc : s.heap[a]? = some cl) (hij : i.toNatClampNeg = j) : cl.slots[j]? = some (.int k) := by
  obtain ⟨x, y, hx, hy, k1, k2⟩ := cmp_v (Or.inl h)
  have hy' : some (Value.int k) = some y := hy
  cases hy'
  obtain ⟨z, rfl⟩ := k2
  have e : z = k := own_eqI hx hy h
  subst e
  have := (elem_in hx ht rfl hc).2
  rw [hij] at this
  exact this
theorem own_lenAt {args : Array Value} {s : State} {t : Term} {a : Addr} {cl : Cell} {ty : FieldType} {k : Int32} (h : (Jvm.Cond.eq (.length t) (.int k)).value args s none s [] = some true) (ht : t.eval args s none [] s = some (.ref a)) (A : Arr s s.heap a cl ty) : cl.slots.size < 2 ^ 31 ∧ cl.slots.size.toInt32 = k := by
  obtain ⟨x, y, hx, hy, k1, k2⟩ := cmp_v (Or.inl h)
  have hy' : some (Value.int k) = some y := hy
  cases hy'
  obtain ⟨z, rfl⟩ := k2
  have e : z = k := own_eqI hx hy h
  subst e
  have ha := Arr.fin (U := s) (Vm.Alike.refl _) A
  simp only [Term.eval, ht, ha, Option.bind_eq_bind, Option.bind_some] at hx
  split at hx
  · rename_i q; exact ⟨q, Value.int.inj (Option.some.inj hx)⟩
  · cases hx
theorem own_staI {args : Array Value} {s : State} {Cc n d : String} (h : (Jvm.Cond.isInt (.static Cc n d)).value args s none s [] = some true) (hi : (Jvm.Cond.initializedFor Cc n d).before args s = true) : ∃ z, Sta s s.heap Cc n d (.int z) ∧ (Term.static Cc n d).eval args s none [] s = some (.int z) := by
  obtain ⟨z, e⟩ := is_v h
  exact ⟨z, Sta.start e (Or.inl hi), e⟩
theorem own_not0 {args : Array Value} {s : State} {t : Term} {z k : Int32} (e : t.eval args s none [] s = some (.int z)) (h : (Jvm.Cond.not (.eq t (.int k))).value args s none s [] = some true) : ¬ z = k := fun q => by
  subst q
  have h2 := not_v h
  simp [Cond.value, e, Term.eval] at h2
theorem own_staR {args : Array Value} {s : State} {Cc n d : String} (h : (Jvm.Cond.isRef (.static Cc n d)).value args s none s [] = some true) (hi : (Jvm.Cond.initializedFor Cc n d).before args s = true) : ∃ z, Sta s s.heap Cc n d z ∧ z.isRef = true := by
  obtain ⟨z, e, r⟩ := isR_v h
  exact ⟨z, Sta.start e (Or.inl hi), r⟩
def own_Lit (vm : Vm) (a : Addr) : Prop := ∀ s : State, Lit (s.setVm vm) "java/lang/String" 7 a
/-- the literal "" of java/lang/String: nobody has loaded it in this walk, or it is booked, and what it holds -/
def own_EL (Z : State) (vm : Vm) (h : Heap) : Prop := IB Z vm [] ∨ ∃ (sl b : Addr) (k : ClassId), own_Lit vm sl ∧ Exa Z h sl "java/lang/String" ∧ Fld Z h sl "java/lang/String" "coder" "B" (.int 0) ∧ Fld Z h sl "java/lang/String" "value" "[B" (.ref b) ∧ Arv Z h b k .byte 0 [] (.int 0)
theorem own_litAll {s : State} {vm : Vm} {a : Addr} (L : Lit (s.setVm vm) "java/lang/String" 7 a) : own_Lit vm a := fun _ => L
theorem own_ELk {Z : State} {vm : Vm} {h h' : Heap} (F : own_EL Z vm h) (K : Keep h h' []) : own_EL Z vm h' := by
  rcases F with I | ⟨sl, b, k, L, E, C, V, A⟩
  · exact Or.inl I
  · exact Or.inr ⟨sl, b, k, L, E.keep K, C.keep K nin0, V.keep K nin0, A.keep K nin0⟩
theorem own_ELe {Z : State} {vm : Vm} {h h' : Heap} (F : own_EL Z vm h) (E : Ext h h') : own_EL Z vm h' := own_ELk F ((Keep.refl _ _).ext E)
theorem own_ELw {Z s : State} {vm0 vm' : Vm} {h : Heap} (F : own_EL Z vm0 h) (hv : (s.setVm vm0).WarmedH vm') : own_EL Z vm' h := by
  rcases F with I | ⟨sl, b, k, L, r⟩
  · exact Or.inl (own_ibW I hv)
  · exact Or.inr ⟨sl, b, k, own_litAll (own_litW (L s) hv), r⟩
theorem own_c255 (x : Int32) : ¬ (255 : Int32) < nar .char ((x &&& (255 : Int32)).toUInt32.toUInt16.toUInt32.toInt32) := by
  have e : nar .char ((x &&& (255 : Int32)).toUInt32.toUInt16.toUInt32.toInt32) = x &&& 255 := by
    show (((x &&& (255 : Int32)).toUInt32.toUInt16.toUInt32.toInt32).toUInt32.toUInt16.toUInt32.toInt32) = _
    rw [i2c_mask, i2c_mask]
  rw [e]
  exact Int32.not_lt.mpr (Jvm.Kit.i32_and_bounds x (m := 255) (by decide)).2
theorem own_d255 (x : Int32) : ¬ (255 : Int32) < (x &&& (255 : Int32)).toUInt32.toUInt16.toUInt32.toInt32 := by
  rw [i2c_mask]
  exact Int32.not_lt.mpr (Jvm.Kit.i32_and_bounds x (m := 255) (by decide)).2
def own_by (c : Int32) : Int32 := nar .byte (c.toInt8.toInt32)
abbrev own_y0 : MethodName := ⟨"java/lang/StringUTF16", "compress", "([CI[BII)I"⟩
theorem own_pn0 : plainName "java/lang/StringUTF16" = true := by first | (simp [plainName, overriddenIn]; done) | decide +kernel
theorem own_dz5_2_0 : decode jdk_52_method_21_code 0 = .ok (.iconst 0, 1) := by decide +kernel
theorem own_dz5_2_1 : decode jdk_52_method_21_code 1 = .ok (.istore 5, 2) := by decide +kernel
theorem own_dz5_2_3 : decode jdk_52_method_21_code 3 = .ok (.iload 5, 2) := by decide +kernel
theorem own_dz5_2_5 : decode jdk_52_method_21_code 5 = .ok (.iload 4, 2) := by decide +kernel
theorem own_dz5_2_7 : decode jdk_52_method_21_code 7 = .ok (.if_icmp .ge 37, 3) := by decide +kernel
theorem own_dz5_2_10 : decode jdk_52_method_21_code 10 = .ok (.aload_n 0, 1) := by decide +kernel
theorem own_dz5_2_11 : decode jdk_52_method_21_code 11 = .ok (.iload_n 1, 1) := by decide +kernel
theorem own_dz5_2_12 : decode jdk_52_method_21_code 12 = .ok (.caload, 1) := by decide +kernel
theorem own_dz5_2_13 : decode jdk_52_method_21_code 13 = .ok (.istore 6, 2) := by decide +kernel
theorem own_dz5_2_15 : decode jdk_52_method_21_code 15 = .ok (.iload 6, 2) := by decide +kernel
theorem own_dz5_2_17 : decode jdk_52_method_21_code 17 = .ok (.sipush 255, 3) := by decide +kernel
theorem own_dz5_2_20 : decode jdk_52_method_21_code 20 = .ok (.if_icmp .le 6, 3) := by decide +kernel
theorem own_dz5_2_26 : decode jdk_52_method_21_code 26 = .ok (.aload_n 2, 1) := by decide +kernel
theorem own_dz5_2_27 : decode jdk_52_method_21_code 27 = .ok (.iload_n 3, 1) := by decide +kernel
theorem own_dz5_2_28 : decode jdk_52_method_21_code 28 = .ok (.iload 6, 2) := by decide +kernel
theorem own_dz5_2_30 : decode jdk_52_method_21_code 30 = .ok (.i2b, 1) := by decide +kernel
theorem own_dz5_2_31 : decode jdk_52_method_21_code 31 = .ok (.bastore, 1) := by decide +kernel
theorem own_dz5_2_32 : decode jdk_52_method_21_code 32 = .ok (.iinc 1 1, 3) := by decide +kernel
theorem own_dz5_2_35 : decode jdk_52_method_21_code 35 = .ok (.iinc 3 1, 3) := by decide +kernel
theorem own_dz5_2_38 : decode jdk_52_method_21_code 38 = .ok (.iinc 5 1, 3) := by decide +kernel
theorem own_dz5_2_41 : decode jdk_52_method_21_code 41 = .ok (.goto (-38), 3) := by decide +kernel
theorem own_dz5_2_44 : decode jdk_52_method_21_code 44 = .ok (.iload 4, 2) := by decide +kernel
theorem own_dz5_2_46 : decode jdk_52_method_21_code 46 = .ok (.ireturn, 1) := by decide +kernel
theorem own_efz5_2 (m : MethodId) (x0 : Addr) (x1 : Int32) (x2 : Addr) (x3 : Int32) (x4 : Int32) : entryFrame m #[(.ref x0), (.int x1), (.ref x2), (.int x3), (.int x4)] 7 = mkF m 0 #[rv x0, iv x1, rv x2, iv x3, iv x4, u_, u_] [] := by first | (simp [entryFrame, mkF, argsToLocals, Value.category]; done) | rfl
def own_Qz5_2 (Z : State) (a1 : Addr) (a3 : Addr) (ka : ClassId) (kc : ClassId) (ch0 ch1 : Int32) (h0 : Heap) (n0 : Nat) : Option Value → Heap → List Loc → Prop := fun v h L => v = some (.int 2) ∧ Fr n0 L ∧ Keep h0 h [a3] ∧ Arv Z h a3 kc .byte (2 : Int32) [(.int (own_by ch0)), (.int (own_by ch1))] (.int 0)
def own_Rz5_2 : Room := { frames := 0, cells := 0, slots := 0, locals := 0 }
set_option maxRecDepth 65536 in
set_option maxHeartbeats 40000000 in
theorem own_rmz5_2 (l : Launch) (Z : State) (a0 : Array Value) (hw : ∀ d ∈ tables_1, d.before a0 Z = true) (ws : List Jvm.Cond) (a1 : Addr) (a3 : Addr) (ka : ClassId) (kc : ClassId) (ch0 ch1 : Int32) (h0 : Heap) (n0 : Nat) (Z0 : n0 ≤ h0.size) (V1 : Arv Z h0 a1 ka .char (2 : Int32) [(.int ch0), (.int ch1)] (.int 0)) (V3 : Arv Z h0 a3 kc .byte (2 : Int32) [(.int 0), (.int 0)] (.int 0)) (hne : a1 ≠ a3) (g_a3 : n0 ≤ a3) (hc0 : ¬ (255 : Int32) < ch0) (hc1 : ¬ (255 : Int32) < ch1) :
    own_Met l Z own_y0 jdk_52_method_21_code 7 (some .int) ws own_Rz5_2 h0 #[(.ref a1), (.int 0), (.ref a3), (.int 0), (.int 2)] (own_Qz5_2 Z a1 a3 ka kc ch0 ch1 h0 n0) own_Rz5_2.cells own_Rz5_2.slots := by
  refine own_start (plainFor_of_name own_pn0) ?_
  intro p e s m below meth c s₁ X0 hx hZ hby hml hret hlk hown hnm e0
  have hown : s.vm.findClass "java/lang/StringUTF16" = some m.cls := hown
  have hml : c.maxLocals = 7 := hml
  have N0 := Fr.nil n0
  refine own_cast (own_efz5_2 m a1 (0 : Int32) a3 (0 : Int32) (2 : Int32)) ?_
  refine own_s s₁ (mkF m 10 #[rv a1, iv 0, rv a3, iv 0, iv 2, iv 0, u_] []) (fun _ k => XS.iconst X0.here hx rfl (hb hby own_dz5_2_0) (XS.istore X0.here hx rfl (hb hby own_dz5_2_1) rfl (l' := #[rv a1, iv 0, rv a3, iv 0, iv 2, iv 0, u_]) rfl (XS.iload X0.here hx rfl (hb hby own_dz5_2_3) rfl  (XS.iload X0.here hx rfl (hb hby own_dz5_2_5) rfl  (XS.icmpNo X0.here hx rfl (hb hby own_dz5_2_7) rfl (tlt (by decide : ((0 : Int32) < (2 : Int32)))).2.1 k))))) ?_
  refine own_s s₁ (mkF m 12 #[rv a1, iv 0, rv a3, iv 0, iv 2, iv 0, u_] [(.int 0), (.ref a1)]) (fun _ k => XS.aloadN X0.here hx rfl (hb hby own_dz5_2_10) rfl rfl (XS.iloadN X0.here hx rfl (hb hby own_dz5_2_11) rfl  k)) ?_
  obtain ⟨cl1, Ar1, q1, S1, Nn1, H1, G1⟩ := id V1
  have hin1 : ¬ ((0 : Int32) < 0 ∨ cl1.slots.size ≤ ((0 : Int32)).toNatClampNeg) := (inb_of S1 ⟨by decide, by decide⟩)
  refine own_s s₁ (mkF m 26 #[rv a1, iv 0, rv a3, iv 0, iv 2, iv 0, iv ch0] []) (fun _ k => X0.caload hx (j := (0 : Int32)) (v := (.int ch0)) (own_at e0 Ar1.1) (State.isArrayOf_alike hZ.alike Ar1.2.1) Ar1.2.2 hin1 (Has.at H1 hin1 rfl) (g := (mkF m 12 #[rv a1, iv 0, rv a3, iv 0, iv 2, iv 0, u_] [(.int 0), (.ref a1)])) rfl rfl (hb hby own_dz5_2_12) _ (XS.istore X0.here hx rfl (hb hby own_dz5_2_13) rfl (l' := #[rv a1, iv 0, rv a3, iv 0, iv 2, iv 0, iv ch0]) rfl (XS.iload X0.here hx rfl (hb hby own_dz5_2_15) rfl  (XS.sipush X0.here hx rfl (hb hby own_dz5_2_17) (XS.icmpYes X0.here hx rfl (pc0 := 20) (pc' := 26) rfl (hb hby own_dz5_2_20) rfl (flt hc0).2.2.2 (by decide) (by decide) k))))) ?_
  refine own_s s₁ (mkF m 31 #[rv a1, iv 0, rv a3, iv 0, iv 2, iv 0, iv ch0] [(.int (ch0.toInt8.toInt32)), (.int 0), (.ref a3)]) (fun _ k => XS.aloadN X0.here hx rfl (hb hby own_dz5_2_26) rfl rfl (XS.iloadN X0.here hx rfl (hb hby own_dz5_2_27) rfl  (XS.iload X0.here hx rfl (hb hby own_dz5_2_28) rfl  (XS.i2b X0.here hx rfl (hb hby own_dz5_2_30) rfl k)))) ?_
  obtain ⟨cl2, Ar2, q2, S2, Nn2, H2, G2⟩ := id V3
  have hin2 : ¬ ((0 : Int32) < 0 ∨ cl2.slots.size ≤ ((0 : Int32)).toNatClampNeg) := (inb_of S2 ⟨by decide, by decide⟩)
  obtain ⟨T2, h2, X2, e2, W2, st2⟩ := stB X0 hx hZ e0 Ar2 (j := (0 : Int32)) hin2 (g := (mkF m 31 #[rv a1, iv 0, rv a3, iv 0, iv 2, iv 0, iv ch0] [(.int (ch0.toInt8.toInt32)), (.int 0), (.ref a3)])) rfl rfl (hb hby own_dz5_2_31)
  have f2 : Arv Z h2 a3 kc .byte (2 : Int32) [(.int (own_by ch0)), (.int 0)] (.int 0) := Arv.set Ar2 q2 S2 Nn2 H2 G2 (fits_nar_byte _) W2 0 rfl (Nat.le_of_ble_eq_true rfl)
  have f3 := V1.other W2 hne
  have K2 : Keep h0 h2 [a3] := (Keep.refl h0 [a3]).wr W2 (Or.inl (List.mem_of_getElem? (i := 0) rfl))
  have Z2 := Nat.le_trans Z0 (Nat.le_of_eq W2.size.symm)
  have N2 := Fr.snoc X2 N0 g_a3
  refine own_s T2 (mkF m 32 #[rv a1, iv 0, rv a3, iv 0, iv 2, iv 0, iv ch0] []) st2 ?_
  refine own_s T2 (mkF m 5 #[rv a1, iv 1, rv a3, iv 1, iv 2, iv 1, iv ch0] [(.int 1)]) (fun _ k => XS.iinc X2.here hx rfl (hb hby own_dz5_2_32) rfl (l' := #[rv a1, iv 1, rv a3, iv 0, iv 2, iv 0, iv ch0]) rfl (XS.iinc X2.here hx rfl (hb hby own_dz5_2_35) rfl (l' := #[rv a1, iv 1, rv a3, iv 1, iv 2, iv 0, iv ch0]) rfl (XS.iinc X2.here hx rfl (hb hby own_dz5_2_38) rfl (l' := #[rv a1, iv 1, rv a3, iv 1, iv 2, iv 1, iv ch0]) rfl (XS.goto X2.here hx rfl (pc0 := 41) (pc' := 3) rfl (hb hby own_dz5_2_41) (by decide) (by decide) (XS.iload X2.here hx rfl (hb hby own_dz5_2_3) rfl  k))))) ?_
  refine own_s T2 (mkF m 12 #[rv a1, iv 1, rv a3, iv 1, iv 2, iv 1, iv ch0] [(.int 1), (.ref a1)]) (fun _ k => XS.iload X2.here hx rfl (hb hby own_dz5_2_5) rfl  (XS.icmpNo X2.here hx rfl (hb hby own_dz5_2_7) rfl (tlt (by decide : ((1 : Int32) < (2 : Int32)))).2.1 (XS.aloadN X2.here hx rfl (hb hby own_dz5_2_10) rfl rfl (XS.iloadN X2.here hx rfl (hb hby own_dz5_2_11) rfl  k)))) ?_
  obtain ⟨cl4, Ar4, q4, S4, Nn4, H4, G4⟩ := id f3
  have hin4 : ¬ ((1 : Int32) < 0 ∨ cl4.slots.size ≤ ((1 : Int32)).toNatClampNeg) := (inb_of S4 ⟨by decide, by decide⟩)
  refine own_s T2 (mkF m 26 #[rv a1, iv 1, rv a3, iv 1, iv 2, iv 1, iv ch1] []) (fun _ k => X2.caload hx (j := (1 : Int32)) (v := (.int ch1)) (own_at e2 Ar4.1) (State.isArrayOf_alike hZ.alike Ar4.2.1) Ar4.2.2 hin4 (Has.at H4 hin4 rfl) (g := (mkF m 12 #[rv a1, iv 1, rv a3, iv 1, iv 2, iv 1, iv ch0] [(.int 1), (.ref a1)])) rfl rfl (hb hby own_dz5_2_12) _ (XS.istore X2.here hx rfl (hb hby own_dz5_2_13) rfl (l' := #[rv a1, iv 1, rv a3, iv 1, iv 2, iv 1, iv ch1]) rfl (XS.iload X2.here hx rfl (hb hby own_dz5_2_15) rfl  (XS.sipush X2.here hx rfl (hb hby own_dz5_2_17) (XS.icmpYes X2.here hx rfl (pc0 := 20) (pc' := 26) rfl (hb hby own_dz5_2_20) rfl (flt hc1).2.2.2 (by decide) (by decide) k))))) ?_
  refine own_s T2 (mkF m 31 #[rv a1, iv 1, rv a3, iv 1, iv 2, iv 1, iv ch1] [(.int (ch1.toInt8.toInt32)), (.int 1), (.ref a3)]) (fun _ k => XS.aloadN X2.here hx rfl (hb hby own_dz5_2_26) rfl rfl (XS.iloadN X2.here hx rfl (hb hby own_dz5_2_27) rfl  (XS.iload X2.here hx rfl (hb hby own_dz5_2_28) rfl  (XS.i2b X2.here hx rfl (hb hby own_dz5_2_30) rfl k)))) ?_
  obtain ⟨cl5, Ar5, q5, S5, Nn5, H5, G5⟩ := id f2
  have hin5 : ¬ ((1 : Int32) < 0 ∨ cl5.slots.size ≤ ((1 : Int32)).toNatClampNeg) := (inb_of S5 ⟨by decide, by decide⟩)
  obtain ⟨T5, h5, X5, e5, W5, st5⟩ := stB X2 hx hZ e2 Ar5 (j := (1 : Int32)) hin5 (g := (mkF m 31 #[rv a1, iv 1, rv a3, iv 1, iv 2, iv 1, iv ch1] [(.int (ch1.toInt8.toInt32)), (.int 1), (.ref a3)])) rfl rfl (hb hby own_dz5_2_31)
  have f5 : Arv Z h5 a3 kc .byte (2 : Int32) [(.int (own_by ch0)), (.int (own_by ch1))] (.int 0) := Arv.set Ar5 q5 S5 Nn5 H5 G5 (fits_nar_byte _) W5 1 rfl (Nat.le_of_ble_eq_true rfl)
  have f6 := f3.other W5 hne
  have K5 : Keep h0 h5 [a3] := K2.wr W5 (Or.inl (List.mem_of_getElem? (i := 0) rfl))
  have Z5 := Nat.le_trans Z2 (Nat.le_of_eq W5.size.symm)
  have N5 := Fr.snoc X5 N2 g_a3
  refine own_s T5 (mkF m 32 #[rv a1, iv 1, rv a3, iv 1, iv 2, iv 1, iv ch1] []) st5 ?_
  refine own_s T5 (mkF m 5 #[rv a1, iv 2, rv a3, iv 2, iv 2, iv 2, iv ch1] [(.int 2)]) (fun _ k => XS.iinc X5.here hx rfl (hb hby own_dz5_2_32) rfl (l' := #[rv a1, iv 2, rv a3, iv 1, iv 2, iv 1, iv ch1]) rfl (XS.iinc X5.here hx rfl (hb hby own_dz5_2_35) rfl (l' := #[rv a1, iv 2, rv a3, iv 2, iv 2, iv 1, iv ch1]) rfl (XS.iinc X5.here hx rfl (hb hby own_dz5_2_38) rfl (l' := #[rv a1, iv 2, rv a3, iv 2, iv 2, iv 2, iv ch1]) rfl (XS.goto X5.here hx rfl (pc0 := 41) (pc' := 3) rfl (hb hby own_dz5_2_41) (by decide) (by decide) (XS.iload X5.here hx rfl (hb hby own_dz5_2_3) rfl  k))))) ?_
  refine own_s T5 (mkF m 46 #[rv a1, iv 2, rv a3, iv 2, iv 2, iv 2, iv ch1] [(.int 2)]) (fun _ k => XS.iload X5.here hx rfl (hb hby own_dz5_2_5) rfl  (XS.icmpYes X5.here hx rfl (pc0 := 7) (pc' := 44) rfl (hb hby own_dz5_2_7) rfl (flt (by decide : ¬ ((2 : Int32) < (2 : Int32)))).2.1 (by decide) (by decide) (XS.iload X5.here hx rfl (hb hby own_dz5_2_44) rfl  k))) ?_
  exact own_finI X5 hx hret (hb hby own_dz5_2_46) (own_end (Qv := (own_Qz5_2 Z a1 a3 ka kc ch0 ch1 h0 n0)) X5 (own_some hret) hlk (by decide) (by decide) e5 ⟨rfl, N5, K5, f5⟩)
theorem own_pd0 : parseMethodDescriptor "([CI[BII)I" = some ⟨[(.array .char), .int, (.array .byte), .int, .int], some .int⟩ := by decide +kernel
abbrev own_y1 : MethodName := ⟨"java/lang/StringUTF16", "compress", "([CII)[B"⟩
theorem own_dz3_2_0 : decode jdk_52_method_16_code 0 = .ok (.iload_n 2, 1) := by decide +kernel
theorem own_dz3_2_1 : decode jdk_52_method_16_code 1 = .ok (.newarray .byte, 2) := by decide +kernel
theorem own_dz3_2_3 : decode jdk_52_method_16_code 3 = .ok (.astore_n 3, 1) := by decide +kernel
theorem own_dz3_2_4 : decode jdk_52_method_16_code 4 = .ok (.aload_n 0, 1) := by decide +kernel
theorem own_dz3_2_5 : decode jdk_52_method_16_code 5 = .ok (.iload_n 1, 1) := by decide +kernel
theorem own_dz3_2_6 : decode jdk_52_method_16_code 6 = .ok (.aload_n 3, 1) := by decide +kernel
theorem own_dz3_2_7 : decode jdk_52_method_16_code 7 = .ok (.iconst 0, 1) := by decide +kernel
theorem own_dz3_2_8 : decode jdk_52_method_16_code 8 = .ok (.iload_n 2, 1) := by decide +kernel
theorem own_dz3_2_9 : decode jdk_52_method_16_code 9 = .ok (.invokestatic 115, 3) := by decide +kernel
theorem own_dz3_2_12 : decode jdk_52_method_16_code 12 = .ok (.istore 4, 2) := by decide +kernel
theorem own_dz3_2_14 : decode jdk_52_method_16_code 14 = .ok (.iload 4, 2) := by decide +kernel
theorem own_dz3_2_16 : decode jdk_52_method_16_code 16 = .ok (.iload_n 2, 1) := by decide +kernel
theorem own_dz3_2_17 : decode jdk_52_method_16_code 17 = .ok (.if_icmp .eq 40, 3) := by decide +kernel
theorem own_dz3_2_57 : decode jdk_52_method_16_code 57 = .ok (.aload_n 3, 1) := by decide +kernel
theorem own_dz3_2_58 : decode jdk_52_method_16_code 58 = .ok (.areturn, 1) := by decide +kernel
theorem own_efz3_2 (m : MethodId) (x0 : Addr) (x1 : Int32) (x2 : Int32) : entryFrame m #[(.ref x0), (.int x1), (.int x2)] 6 = mkF m 0 #[rv x0, iv x1, iv x2, u_, u_, u_] [] := by first | (simp [entryFrame, mkF, argsToLocals, Value.category]; done) | rfl
def own_Qz3_2 (Z : State) (a1 : Addr) (ka : ClassId) (ch0 ch1 : Int32) (h0 : Heap) (n0 : Nat) : Option Value → Heap → List Loc → Prop := fun v h L => (∃ (b : Addr) (k : ClassId), v = some (.ref b) ∧ n0 ≤ b ∧ h0.size ≤ b ∧ Arv Z h b k .byte (2 : Int32) [(.int (own_by ch0)), (.int (own_by ch1))] (.int 0)) ∧ Fr n0 L ∧ Keep h0 h []
def own_Rz3_2 : Room := { frames := 1, cells := 1, slots := 2, locals := 18 }
set_option maxRecDepth 65536 in
set_option maxHeartbeats 40000000 in
theorem own_rmz3_2 (l : Launch) (Z : State) (a0 : Array Value) (hw : ∀ d ∈ tables_1, d.before a0 Z = true) (ws : List Jvm.Cond) (a1 : Addr) (ka : ClassId) (ch0 ch1 : Int32) (h0 : Heap) (n0 : Nat) (Z0 : n0 ≤ h0.size) (V1 : Arv Z h0 a1 ka .char (2 : Int32) [(.int ch0), (.int ch1)] (.int 0)) (hc0 : ¬ (255 : Int32) < ch0) (hc1 : ¬ (255 : Int32) < ch1) :
    own_Met l Z own_y1 jdk_52_method_16_code 6 (some (.array .byte)) ws own_Rz3_2 h0 #[(.ref a1), (.int 0), (.int 2)] (own_Qz3_2 Z a1 ka ch0 ch1 h0 n0) own_Rz3_2.cells own_Rz3_2.slots := by
  refine own_start (plainFor_of_name own_pn0) ?_
  intro p e s m below meth c s₁ X0 hx hZ hby hml hret hlk hown hnm e0
  have hown : s.vm.findClass "java/lang/StringUTF16" = some m.cls := hown
  have hml : c.maxLocals = 6 := hml
  have N0 := Fr.nil n0
  refine own_cast (own_efz3_2 m a1 (0 : Int32) (2 : Int32)) ?_
  refine own_s s₁ (mkF m 1 #[rv a1, iv 0, iv 2, u_, u_, u_] [(.int 2)]) (fun _ k => XS.iloadN X0.here hx rfl (hb hby own_dz3_2_0) rfl  k) ?_
  obtain ⟨T1, h1, k1, X1, e1, E1, A1, st1⟩ := newP X0 hx hZ (own_h hw 19 rfl) e0 (g := (mkF m 1 #[rv a1, iv 0, iv 2, u_, u_, u_] [(.int 2)])) rfl (hb hby own_dz3_2_1) rfl (by decide) (cap := 2) (by decide) (by decide) (by decide) (by decide)
  obtain ⟨b1, g1⟩ : ∃ z, z = h0.size := ⟨_, rfl⟩
  have ne_a1_b1 : a1 ≠ b1 := Nat.ne_of_lt (Nat.lt_of_lt_of_le V1.lt (Nat.le_of_eq g1.symm))
  have g_b1 : n0 ≤ b1 := Nat.le_trans Z0 (Nat.le_of_eq g1.symm)
  have sz_b1 : h0.size ≤ b1 := Nat.le_trans (Keep.refl h0 []).1 (Nat.le_of_eq g1.symm)
  rw [← g1] at A1 st1
  have f2 := V1.ext E1
  have K1 : Keep h0 h1 [] := (Keep.refl h0 []).ext E1
  have Z1 := Nat.le_trans Z0 E1.1
  have f1 : Arv Z h1 b1 k1 .byte 2 [(.int 0), (.int 0)] (.int 0) := (Arv.new A1 (by decide)).pad (pad_rep [] (.int 0) 2)
  refine own_s T1 (mkF m 3 #[rv a1, iv 0, iv 2, u_, u_, u_] [(.ref b1)]) st1 ?_
  refine own_s T1 (mkF m 8 #[rv a1, iv 0, iv 2, rv b1, u_, u_] [(.int 0), (.ref b1), (.int 0), (.ref a1)]) (fun _ k => XS.astoreN X1.here hx rfl (hb hby own_dz3_2_3) rfl rfl (l' := #[rv a1, iv 0, iv 2, rv b1, u_, u_]) rfl (XS.aloadN X1.here hx rfl (hb hby own_dz3_2_4) rfl rfl (XS.iloadN X1.here hx rfl (hb hby own_dz3_2_5) rfl  (XS.aloadN X1.here hx rfl (hb hby own_dz3_2_6) rfl rfl (XS.iconst X1.here hx rfl (hb hby own_dz3_2_7) k))))) ?_
  refine own_s T1 (mkF m 9 #[rv a1, iv 0, iv 2, rv b1, u_, u_] [(.int 2), (.int 0), (.ref b1), (.int 0), (.ref a1)]) (fun _ k => XS.iloadN X1.here hx rfl (hb hby own_dz3_2_8) rfl  k) ?_
  obtain ⟨v3, T3, L3, X3, hQ3, st3⟩ := own_callS X1 hx hZ (y := own_y0) (W := 0) hown (own_h hw 31 rfl) (own_h hw 32 rfl) (own_h hw 29 rfl) (own_h hw 33 rfl) (by decide) (own_rmz5_2 l Z a0 hw [] a1 b1 ka k1 ch0 ch1 h1 n0 Z1 f2 f1 ne_a1_b1 g_b1 hc0 hc1) (by decide) (by decide) (g := (mkF m 9 #[rv a1, iv 0, iv 2, rv b1, u_, u_] [(.int 2), (.int 0), (.ref b1), (.int 0), (.ref a1)])) rfl (by rw [hml]; rfl) (argsL := [(.ref a1), (.int 0), (.ref b1), (.int 0), (.int 2)]) (rest := []) rfl (lenOf own_pd0 rfl) rfl (by show 2 * 0 + _ ≤ _; exact Nat.le_of_eq rfl) (hb hby own_dz3_2_9) e1 (by decide) (by decide)
  obtain ⟨rfl, Nq3, Kq3, Vq3⟩ := hQ3
  have N3 := Fr.app N0 Nq3
  have f4 := f2.keep Kq3 (ninS ne_a1_b1 nin0)
  have K3 : Keep h0 T3.heap [] := K1.trans Kq3 (allS (Or.inr sz_b1) all0)
  have Z3 := Nat.le_trans Z1 Kq3.1
  refine own_s T3 (mkF m 12 #[rv a1, iv 0, iv 2, rv b1, u_, u_] [(.int 2)]) st3 ?_
  refine own_s T3 (mkF m 58 #[rv a1, iv 0, iv 2, rv b1, iv 2, u_] [(.ref b1)]) (fun _ k => XS.istore X3.here hx rfl (hb hby own_dz3_2_12) rfl (l' := #[rv a1, iv 0, iv 2, rv b1, iv 2, u_]) rfl (XS.iload X3.here hx rfl (hb hby own_dz3_2_14) rfl  (XS.iloadN X3.here hx rfl (hb hby own_dz3_2_16) rfl  (XS.icmpYes X3.here hx rfl (pc0 := 17) (pc' := 57) rfl (hb hby own_dz3_2_17) rfl (teq (by decide : ((2 : Int32) = (2 : Int32)))).1 (by decide) (by decide) (XS.aloadN X3.here hx rfl (hb hby own_dz3_2_57) rfl rfl k))))) ?_
  exact own_finA X3 hx hret rfl rfl (hb hby own_dz3_2_58) (own_end (Qv := (own_Qz3_2 Z a1 ka ch0 ch1 h0 n0)) X3 (own_some hret) hlk (by decide) (by decide) rfl ⟨⟨b1, _, rfl, g_b1, sz_b1, Vq3⟩, N3, K3⟩)
abbrev own_y2 : MethodName := ⟨"java/lang/StringUTF16", "coderFromArrayLen", "([BI)B"⟩
theorem own_dcdr_2_0 : decode jdk_52_method_15_code 0 = .ok (.iload_n 1, 1) := by decide +kernel
theorem own_dcdr_2_1 : decode jdk_52_method_15_code 1 = .ok (.aload_n 0, 1) := by decide +kernel
theorem own_dcdr_2_2 : decode jdk_52_method_15_code 2 = .ok (.arraylength, 1) := by decide +kernel
theorem own_dcdr_2_3 : decode jdk_52_method_15_code 3 = .ok (.isub, 1) := by decide +kernel
theorem own_dcdr_2_4 : decode jdk_52_method_15_code 4 = .ok (.bipush 31, 2) := by decide +kernel
theorem own_dcdr_2_6 : decode jdk_52_method_15_code 6 = .ok (.iushr, 1) := by decide +kernel
theorem own_dcdr_2_7 : decode jdk_52_method_15_code 7 = .ok (.i2b, 1) := by decide +kernel
theorem own_dcdr_2_8 : decode jdk_52_method_15_code 8 = .ok (.ireturn, 1) := by decide +kernel
theorem own_efcdr_2 (m : MethodId) (x0 : Addr) (x1 : Int32) : entryFrame m #[(.ref x0), (.int x1)] 2 = mkF m 0 #[rv x0, iv x1] [] := by first | (simp [entryFrame, mkF, argsToLocals, Value.category]; done) | rfl
def own_Qcdr_2 (Z : State) (a1 : Addr) (ka : ClassId) (ch0 ch1 : Int32) (h0 : Heap) (n0 : Nat) : Option Value → Heap → List Loc → Prop := fun v h L => v = some (.int 0) ∧ Fr n0 L ∧ h = h0
def own_Rcdr_2 : Room := { frames := 0, cells := 0, slots := 0, locals := 0 }
set_option maxRecDepth 65536 in
set_option maxHeartbeats 40000000 in
theorem own_rmcdr_2 (l : Launch) (Z : State) (a0 : Array Value) (hw : ∀ d ∈ tables_1, d.before a0 Z = true) (ws : List Jvm.Cond) (a1 : Addr) (ka : ClassId) (ch0 ch1 : Int32) (h0 : Heap) (n0 : Nat) (Z0 : n0 ≤ h0.size) (V1 : Arv Z h0 a1 ka .byte (2 : Int32) [(.int (own_by ch0)), (.int (own_by ch1))] (.int 0)) :
    own_Met l Z own_y2 jdk_52_method_15_code 2 (some .byte) ws own_Rcdr_2 h0 #[(.ref a1), (.int 2)] (own_Qcdr_2 Z a1 ka ch0 ch1 h0 n0) own_Rcdr_2.cells own_Rcdr_2.slots := by
  refine own_start (plainFor_of_name own_pn0) ?_
  intro p e s m below meth c s₁ X0 hx hZ hby hml hret hlk hown hnm e0
  have hown : s.vm.findClass "java/lang/StringUTF16" = some m.cls := hown
  have hml : c.maxLocals = 2 := hml
  have N0 := Fr.nil n0
  refine own_cast (own_efcdr_2 m a1 (2 : Int32)) ?_
  refine own_s s₁ (mkF m 2 #[rv a1, iv 2] [(.ref a1), (.int 2)]) (fun _ k => XS.iloadN X0.here hx rfl (hb hby own_dcdr_2_0) rfl  (XS.aloadN X0.here hx rfl (hb hby own_dcdr_2_1) rfl rfl k)) ?_
  obtain ⟨cl1, Ar1, q1, S1, Nn1, H1, G1⟩ := id V1
  refine own_s s₁ (mkF m 8 #[rv a1, iv 2] [(.int ((((0 : Int32).toUInt32 >>> ((31 : Int32) &&& 31).toUInt32).toInt32).toInt8.toInt32))]) (fun _ k => own_len X0 hx hZ e0 Ar1 S1 Nn1 (g := (mkF m 2 #[rv a1, iv 2] [(.ref a1), (.int 2)])) rfl rfl (hb hby own_dcdr_2_2) (XS.isub X0.here hx rfl (hb hby own_dcdr_2_3) rfl (XS.bipush X0.here hx rfl (hb hby own_dcdr_2_4) (XS.iushr X0.here hx rfl (hb hby own_dcdr_2_6) rfl (XS.i2b X0.here hx rfl (hb hby own_dcdr_2_7) rfl k))))) ?_
  exact own_finZ X0 hx (t := .byte) hret (by simp) (z' := (0 : Int32)) (by decide) (hb hby own_dcdr_2_8) (own_end (Qv := (own_Qcdr_2 Z a1 ka ch0 ch1 h0 n0)) X0 (own_some hret) hlk (by decide) (by decide) e0 ⟨rfl, N0, rfl⟩)
theorem own_pd1 : parseMethodDescriptor "([CII)[B" = some ⟨[(.array .char), .int, .int], some (.array .byte)⟩ := by decide +kernel
theorem own_pd2 : parseMethodDescriptor "([BI)B" = some ⟨[(.array .byte), .int], some .byte⟩ := by decide +kernel
abbrev own_y3 : MethodName := ⟨"java/lang/String", "<init>", "([CIILjava/lang/Void;)V"⟩
theorem own_pn1 : plainName "java/lang/String" = true := by first | (simp [plainName, overriddenIn]; done) | decide +kernel
theorem own_dsi4_2_0 : decode jdk_42_method_149_code 0 = .ok (.aload_n 0, 1) := by decide +kernel
theorem own_dsi4_2_1 : decode jdk_42_method_149_code 1 = .ok (.invokespecial 1, 3) := by decide +kernel
theorem own_dsi4_2_4 : decode jdk_42_method_149_code 4 = .ok (.iload_n 3, 1) := by decide +kernel
theorem own_dsi4_2_5 : decode jdk_42_method_149_code 5 = .ok (.ifCond .ne 22, 3) := by decide +kernel
theorem own_dsi4_2_27 : decode jdk_42_method_149_code 27 = .ok (.getstatic 38, 3) := by decide +kernel
theorem own_dsi4_2_30 : decode jdk_42_method_149_code 30 = .ok (.ifCond .eq 28, 3) := by decide +kernel
theorem own_dsi4_2_33 : decode jdk_42_method_149_code 33 = .ok (.aload_n 1, 1) := by decide +kernel
theorem own_dsi4_2_34 : decode jdk_42_method_149_code 34 = .ok (.iload_n 2, 1) := by decide +kernel
theorem own_dsi4_2_35 : decode jdk_42_method_149_code 35 = .ok (.iload_n 3, 1) := by decide +kernel
theorem own_dsi4_2_36 : decode jdk_42_method_149_code 36 = .ok (.invokestatic 177, 3) := by decide +kernel
theorem own_dsi4_2_39 : decode jdk_42_method_149_code 39 = .ok (.astore 5, 2) := by decide +kernel
theorem own_dsi4_2_41 : decode jdk_42_method_149_code 41 = .ok (.aload_n 0, 1) := by decide +kernel
theorem own_dsi4_2_42 : decode jdk_42_method_149_code 42 = .ok (.aload 5, 2) := by decide +kernel
theorem own_dsi4_2_44 : decode jdk_42_method_149_code 44 = .ok (.iload_n 3, 1) := by decide +kernel
theorem own_dsi4_2_45 : decode jdk_42_method_149_code 45 = .ok (.invokestatic 47, 3) := by decide +kernel
theorem own_dsi4_2_48 : decode jdk_42_method_149_code 48 = .ok (.putfield 15, 3) := by decide +kernel
theorem own_dsi4_2_51 : decode jdk_42_method_149_code 51 = .ok (.aload_n 0, 1) := by decide +kernel
theorem own_dsi4_2_52 : decode jdk_42_method_149_code 52 = .ok (.aload 5, 2) := by decide +kernel
theorem own_dsi4_2_54 : decode jdk_42_method_149_code 54 = .ok (.putfield 9, 3) := by decide +kernel
theorem own_dsi4_2_57 : decode jdk_42_method_149_code 57 = .ok (.return_, 1) := by decide +kernel
theorem own_efsi4_2 (m : MethodId) (x0 : Addr) (x1 : Addr) (x2 : Int32) (x3 : Int32) : entryFrame m #[(.ref x0), (.ref x1), (.int x2), (.int x3), .null] 6 = mkF m 0 #[rv x0, rv x1, iv x2, iv x3, .val .null, u_] [] := by first | (simp [entryFrame, mkF, argsToLocals, Value.category]; done) | rfl
def own_Qsi4_2 (Z : State) (a1 : Addr) (a2 : Addr) (kb : ClassId) (gC : Int32) (ch0 ch1 : Int32) (h0 : Heap) (n0 : Nat) : Option Value → Heap → List Loc → Prop := fun v h L => v = none ∧ Fr n0 L ∧ Keep h0 h [a1] ∧ Exa Z h a1 "java/lang/String" ∧ Fld Z h a1 "java/lang/String" "coder" "B" (.int 0) ∧ ∃ (b : Addr) (k : ClassId), n0 ≤ b ∧ h0.size ≤ b ∧ Fld Z h a1 "java/lang/String" "value" "[B" (.ref b) ∧ Arv Z h b k .byte (2 : Int32) [(.int (own_by ch0)), (.int (own_by ch1))] (.int 0)
def own_Rsi4_2 : Room := { frames := 2, cells := 1, slots := 2, locals := 35 }
set_option maxRecDepth 65536 in
set_option maxHeartbeats 40000000 in
theorem own_rmsi4_2 (l : Launch) (Z : State) (a0 : Array Value) (hw : ∀ d ∈ tables_1, d.before a0 Z = true) (ws : List Jvm.Cond) (a1 : Addr) (a2 : Addr) (kb : ClassId) (gC : Int32) (ch0 ch1 : Int32) (h0 : Heap) (n0 : Nat) (Z0 : n0 ≤ h0.size) (g_a1 : n0 ≤ a1) (E1 : Exa Z h0 a1 "java/lang/String") (C1 : Fld Z h0 a1 "java/lang/String" "coder" "B" (.int 0)) (W1 : Fld Z h0 a1 "java/lang/String" "value" "[B" .null) (V2 : Arv Z h0 a2 kb .char (2 : Int32) [(.int ch0), (.int ch1)] (.int 0)) (hne : a2 ≠ a1) (SC : Sta Z h0 "java/lang/String" "COMPACT_STRINGS" "Z" (.int gC)) (hG : ¬ gC = (0 : Int32)) (hc0 : ¬ (255 : Int32) < ch0) (hc1 : ¬ (255 : Int32) < ch1) :
    own_Met l Z own_y3 jdk_42_method_149_code 6 none ws own_Rsi4_2 h0 #[(.ref a1), (.ref a2), (.int 0), (.int 2), .null] (own_Qsi4_2 Z a1 a2 kb gC ch0 ch1 h0 n0) own_Rsi4_2.cells own_Rsi4_2.slots := by
  refine own_start (plainFor_of_name own_pn1) ?_
  intro p e s m below meth c s₁ X0 hx hZ hby hml hret hlk hown hnm e0
  have hown : s.vm.findClass "java/lang/String" = some m.cls := hown
  have hml : c.maxLocals = 6 := hml
  have N0 := Fr.nil n0
  refine own_cast (own_efsi4_2 m a1 a2 (0 : Int32) (2 : Int32)) ?_
  refine own_s s₁ (mkF m 1 #[rv a1, rv a2, iv 0, iv 2, .val .null, u_] [(.ref a1)]) (fun _ k => XS.aloadN X0.here hx rfl (hb hby own_dsi4_2_0) rfl rfl k) ?_
  obtain ⟨T1, X1, e1, st1⟩ := initO X0 hx hZ hown (own_h hw 15 rfl) (own_h hw 16 rfl) (own_h hw 17 rfl) e0 (g := (mkF m 1 #[rv a1, rv a2, iv 0, iv 2, .val .null, u_] [(.ref a1)])) rfl (by rw [hml]; rfl) rfl (hb hby own_dsi4_2_1) (by decide) (W := 0) (by show 2 * 0 + _ ≤ _; exact Nat.le_of_eq rfl) (by decide)
  refine own_s T1 (mkF m 4 #[rv a1, rv a2, iv 0, iv 2, .val .null, u_] []) st1 ?_
  refine own_s T1 (mkF m 27 #[rv a1, rv a2, iv 0, iv 2, .val .null, u_] []) (fun _ k => XS.iloadN X1.here hx rfl (hb hby own_dsi4_2_4) rfl  (XS.ifYes X1.here hx rfl (pc0 := 5) (pc' := 27) rfl (hb hby own_dsi4_2_5) rfl ((if0 _ _).trans (feq (by decide : ¬ ((2 : Int32) = (0 : Int32)))).2) (by decide) (by decide) k)) ?_
  obtain ⟨T2, X2, e2, st2⟩ := getS2 X1 hx hZ hown (host := "") (Or.inl (own_h hw 26 rfl)) Via.refl e1 SC (g := (mkF m 27 #[rv a1, rv a2, iv 0, iv 2, .val .null, u_] [])) rfl (hb hby own_dsi4_2_27)
  refine own_s T2 (mkF m 30 #[rv a1, rv a2, iv 0, iv 2, .val .null, u_] [(.int gC)]) st2 ?_
  refine own_s T2 (mkF m 36 #[rv a1, rv a2, iv 0, iv 2, .val .null, u_] [(.int 2), (.int 0), (.ref a2)]) (fun _ k => XS.ifNo X2.here hx rfl (hb hby own_dsi4_2_30) rfl ((if0 _ _).trans (feq hG).1) (XS.aloadN X2.here hx rfl (hb hby own_dsi4_2_33) rfl rfl (XS.iloadN X2.here hx rfl (hb hby own_dsi4_2_34) rfl  (XS.iloadN X2.here hx rfl (hb hby own_dsi4_2_35) rfl  k)))) ?_
  obtain ⟨v3, T3, L3, X3, hQ3, st3⟩ := own_callS X2 hx hZ (y := own_y1) (W := 0) hown (own_h hw 27 rfl) (own_h hw 28 rfl) (own_h hw 29 rfl) (own_h hw 30 rfl) (by decide) (own_rmz3_2 l Z a0 hw [] a2 kb ch0 ch1 h0 n0 Z0 V2 hc0 hc1) (by decide) (by decide) (g := (mkF m 36 #[rv a1, rv a2, iv 0, iv 2, .val .null, u_] [(.int 2), (.int 0), (.ref a2)])) rfl (by rw [hml]; rfl) (argsL := [(.ref a2), (.int 0), (.int 2)]) (rest := []) rfl (lenOf own_pd1 rfl) rfl (by show 2 * 0 + _ ≤ _; exact Nat.le_of_eq rfl) (hb hby own_dsi4_2_36) e2 (by decide) (by decide)
  obtain ⟨⟨b3, k3, rfl, g_b3, sq3, Vq3⟩, Nq3, Kq3⟩ := hQ3
  have N3 := Fr.app N0 Nq3
  have ne_a1_b3 : a1 ≠ b3 := Nat.ne_of_lt (Nat.lt_of_lt_of_le E1.lt sq3)
  have ne_a2_b3 : a2 ≠ b3 := Nat.ne_of_lt (Nat.lt_of_lt_of_le V2.lt sq3)
  have sz_b3 : h0.size ≤ b3 := Nat.le_trans (Keep.refl h0 [a1]).1 sq3
  have f4 := E1.keep Kq3
  have f5 := C1.keep Kq3 nin0
  have f6 := W1.keep Kq3 nin0
  have f7 := V2.keep Kq3 nin0
  have f8 := own_staKeep SC Kq3
  have K3 : Keep h0 T3.heap [a1] := (Keep.refl h0 [a1]).trans Kq3 all0
  have Z3 := Nat.le_trans Z0 Kq3.1
  refine own_s T3 (mkF m 39 #[rv a1, rv a2, iv 0, iv 2, .val .null, u_] [(.ref b3)]) st3 ?_
  refine own_s T3 (mkF m 45 #[rv a1, rv a2, iv 0, iv 2, .val .null, rv b3] [(.int 2), (.ref b3), (.ref a1)]) (fun _ k => XS.astore X3.here hx rfl (hb hby own_dsi4_2_39) rfl rfl (l' := #[rv a1, rv a2, iv 0, iv 2, .val .null, rv b3]) rfl (XS.aloadN X3.here hx rfl (hb hby own_dsi4_2_41) rfl rfl (XS.aload X3.here hx rfl (hb hby own_dsi4_2_42) rfl rfl (XS.iloadN X3.here hx rfl (hb hby own_dsi4_2_44) rfl  k)))) ?_
  obtain ⟨v9, T9, L9, X9, hQ9, st9⟩ := own_callS X3 hx hZ (y := own_y2) (W := 1) hown (own_h hw 34 rfl) (own_h hw 35 rfl) (own_h hw 29 rfl) (own_h hw 36 rfl) (by decide) (own_rmcdr_2 l Z a0 hw [] b3 k3 ch0 ch1 T3.heap n0 Z3 Vq3) (by decide) (by decide) (g := (mkF m 45 #[rv a1, rv a2, iv 0, iv 2, .val .null, rv b3] [(.int 2), (.ref b3), (.ref a1)])) rfl (by rw [hml]; rfl) (argsL := [(.ref b3), (.int 2)]) (rest := [(.ref a1)]) rfl (lenOf own_pd2 rfl) rfl (by show 2 * 0 + _ ≤ _; exact Nat.le_of_eq rfl) (hb hby own_dsi4_2_45) rfl (by decide) (by decide)
  obtain ⟨rfl, Nq9, e9⟩ := hQ9
  have N9 := Fr.app N3 Nq9
  refine own_s T9 (mkF m 48 #[rv a1, rv a2, iv 0, iv 2, .val .null, rv b3] [(.int 0), (.ref a1)]) st9 ?_
  obtain ⟨T10, h10, X10, e10, W10, st10⟩ := putFN X9 hx hZ hown (own_h hw 25 rfl) Via.refl e9 f5 f4 (Or.inr ⟨(own_h hw 21 rfl), rfl, hnm⟩) (own_h hw 5 rfl) (ty := .byte) (v' := (.int 0)) (by decide) rfl rfl (g := (mkF m 48 #[rv a1, rv a2, iv 0, iv 2, .val .null, rv b3] [(.int 0), (.ref a1)])) rfl rfl (hb hby own_dsi4_2_48)
  have Fw10 := Fld.same W10 f5
  have f11 := Exa.wr W10 f4
  have f12 := Fld.other W10 f6 (Or.inr (slot_ne (Or.inr (own_h hw 20 rfl)) (Or.inr (own_h hw 21 rfl)) (by decide) (t := (.array .byte)) (t' := .byte) (by decide) (by decide)))
  have f13 := f7.other W10 hne
  have f14 := Sta.wr W10 f8
  have f15 := Vq3.other W10 (Ne.symm ne_a1_b3)
  have K10 : Keep h0 h10 [a1] := K3.wr W10 (Or.inl (List.mem_of_getElem? (i := 0) rfl))
  have Z10 := Nat.le_trans Z3 (Nat.le_of_eq W10.size.symm)
  have N10 := Fr.snoc X10 N9 g_a1
  refine own_s T10 (mkF m 51 #[rv a1, rv a2, iv 0, iv 2, .val .null, rv b3] []) st10 ?_
  refine own_s T10 (mkF m 54 #[rv a1, rv a2, iv 0, iv 2, .val .null, rv b3] [(.ref b3), (.ref a1)]) (fun _ k => XS.aloadN X10.here hx rfl (hb hby own_dsi4_2_51) rfl rfl (XS.aload X10.here hx rfl (hb hby own_dsi4_2_52) rfl rfl k)) ?_
  obtain ⟨T16, h16, X16, e16, W16, st16⟩ := putF X10 hx hZ hown (host := "") (Or.inl (own_h hw 24 rfl)) Via.refl e10 f12 f11 (Or.inr ⟨(own_h hw 20 rfl), rfl, hnm⟩) (own_h hw 5 rfl) (ty := (.array .byte)) (by decide) rfl rfl (g := (mkF m 54 #[rv a1, rv a2, iv 0, iv 2, .val .null, rv b3] [(.ref b3), (.ref a1)])) rfl rfl (hb hby own_dsi4_2_54)
  have Fw16 := Fld.same W16 f12
  have f17 := Exa.wr W16 f11
  have f18 := Fld.other W16 Fw10 (Or.inr (slot_ne (Or.inr (own_h hw 21 rfl)) (Or.inr (own_h hw 20 rfl)) (by decide) (t := .byte) (t' := (.array .byte)) (by decide) (by decide)))
  have f19 := f13.other W16 hne
  have f20 := Sta.wr W16 f14
  have f21 := f15.other W16 (Ne.symm ne_a1_b3)
  have K16 : Keep h0 h16 [a1] := K10.wr W16 (Or.inl (List.mem_of_getElem? (i := 0) rfl))
  have Z16 := Nat.le_trans Z10 (Nat.le_of_eq W16.size.symm)
  have N16 := Fr.snoc X16 N10 g_a1
  refine own_s T16 (mkF m 57 #[rv a1, rv a2, iv 0, iv 2, .val .null, rv b3] []) st16 ?_
  exact own_finV X16 hx hret (hb hby own_dsi4_2_57) (own_end (Qv := (own_Qsi4_2 Z a1 a2 kb gC ch0 ch1 h0 n0)) X16 (fun _ => rfl) hlk (by decide) (by decide) e16 ⟨rfl, N16, K16, f17, f18, b3, _, g_b3, sz_b3, Fw16, f21⟩)
theorem own_pd3 : parseMethodDescriptor "([CIILjava/lang/Void;)V" = some ⟨[(.array .char), .int, .int, (.object "java/lang/Void")], none⟩ := by decide +kernel
abbrev own_y4 : MethodName := ⟨"java/lang/String", "<init>", "([C)V"⟩
theorem own_dsi1_2_0 : decode jdk_42_method_3_code 0 = .ok (.aload_n 0, 1) := by decide +kernel
theorem own_dsi1_2_1 : decode jdk_42_method_3_code 1 = .ok (.aload_n 1, 1) := by decide +kernel
theorem own_dsi1_2_2 : decode jdk_42_method_3_code 2 = .ok (.iconst 0, 1) := by decide +kernel
theorem own_dsi1_2_3 : decode jdk_42_method_3_code 3 = .ok (.aload_n 1, 1) := by decide +kernel
theorem own_dsi1_2_4 : decode jdk_42_method_3_code 4 = .ok (.arraylength, 1) := by decide +kernel
theorem own_dsi1_2_5 : decode jdk_42_method_3_code 5 = .ok (.aconst_null, 1) := by decide +kernel
theorem own_dsi1_2_6 : decode jdk_42_method_3_code 6 = .ok (.invokespecial 27, 3) := by decide +kernel
theorem own_dsi1_2_9 : decode jdk_42_method_3_code 9 = .ok (.return_, 1) := by decide +kernel
theorem own_efsi1_2 (m : MethodId) (x0 : Addr) (x1 : Addr) : entryFrame m #[(.ref x0), (.ref x1)] 2 = mkF m 0 #[rv x0, rv x1] [] := by first | (simp [entryFrame, mkF, argsToLocals, Value.category]; done) | rfl
def own_Qsi1_2 (Z : State) (a1 : Addr) (a2 : Addr) (kb : ClassId) (gC : Int32) (ch0 ch1 : Int32) (h0 : Heap) (n0 : Nat) : Option Value → Heap → List Loc → Prop := fun v h L => v = none ∧ Fr n0 L ∧ Keep h0 h [a1] ∧ Exa Z h a1 "java/lang/String" ∧ Fld Z h a1 "java/lang/String" "coder" "B" (.int 0) ∧ ∃ (b : Addr) (k : ClassId), n0 ≤ b ∧ h0.size ≤ b ∧ Fld Z h a1 "java/lang/String" "value" "[B" (.ref b) ∧ Arv Z h b k .byte (2 : Int32) [(.int (own_by ch0)), (.int (own_by ch1))] (.int 0)
def own_Rsi1_2 : Room := { frames := 3, cells := 1, slots := 2, locals := 52 }
set_option maxRecDepth 65536 in
set_option maxHeartbeats 40000000 in
theorem own_rmsi1_2 (l : Launch) (Z : State) (a0 : Array Value) (hw : ∀ d ∈ tables_1, d.before a0 Z = true) (ws : List Jvm.Cond) (a1 : Addr) (a2 : Addr) (kb : ClassId) (gC : Int32) (ch0 ch1 : Int32) (h0 : Heap) (n0 : Nat) (Z0 : n0 ≤ h0.size) (g_a1 : n0 ≤ a1) (E1 : Exa Z h0 a1 "java/lang/String") (C1 : Fld Z h0 a1 "java/lang/String" "coder" "B" (.int 0)) (W1 : Fld Z h0 a1 "java/lang/String" "value" "[B" .null) (V2 : Arv Z h0 a2 kb .char (2 : Int32) [(.int ch0), (.int ch1)] (.int 0)) (hne : a2 ≠ a1) (SC : Sta Z h0 "java/lang/String" "COMPACT_STRINGS" "Z" (.int gC)) (hG : ¬ gC = (0 : Int32)) (hc0 : ¬ (255 : Int32) < ch0) (hc1 : ¬ (255 : Int32) < ch1) :
    own_Met l Z own_y4 jdk_42_method_3_code 2 none ws own_Rsi1_2 h0 #[(.ref a1), (.ref a2)] (own_Qsi1_2 Z a1 a2 kb gC ch0 ch1 h0 n0) own_Rsi1_2.cells own_Rsi1_2.slots := by
  refine own_start (plainFor_of_name own_pn1) ?_
  intro p e s m below meth c s₁ X0 hx hZ hby hml hret hlk hown hnm e0
  have hown : s.vm.findClass "java/lang/String" = some m.cls := hown
  have hml : c.maxLocals = 2 := hml
  have N0 := Fr.nil n0
  refine own_cast (own_efsi1_2 m a1 a2) ?_
  refine own_s s₁ (mkF m 4 #[rv a1, rv a2] [(.ref a2), (.int 0), (.ref a2), (.ref a1)]) (fun _ k => XS.aloadN X0.here hx rfl (hb hby own_dsi1_2_0) rfl rfl (XS.aloadN X0.here hx rfl (hb hby own_dsi1_2_1) rfl rfl (XS.iconst X0.here hx rfl (hb hby own_dsi1_2_2) (XS.aloadN X0.here hx rfl (hb hby own_dsi1_2_3) rfl rfl k)))) ?_
  obtain ⟨cl1, Ar1, q1, S1, Nn1, H1, G1⟩ := id V2
  refine own_s s₁ (mkF m 6 #[rv a1, rv a2] [.null, (.int 2), (.int 0), (.ref a2), (.ref a1)]) (fun _ k => own_len X0 hx hZ e0 Ar1 S1 Nn1 (g := (mkF m 4 #[rv a1, rv a2] [(.ref a2), (.int 0), (.ref a2), (.ref a1)])) rfl rfl (hb hby own_dsi1_2_4) (XS.aconstNull X0.here hx rfl (hb hby own_dsi1_2_5) k)) ?_
  obtain ⟨v2, T2, L2, X2, hQ2, st2⟩ := own_callI X0 hx hZ (y := own_y3) (W := 0) (a := a1) rfl hown (own_h hw 11 rfl) (own_h hw 12 rfl) (own_h hw 6 rfl) (own_h hw 14 rfl) (by decide) (own_rmsi4_2 l Z a0 hw [] a1 a2 kb gC ch0 ch1 h0 n0 Z0 g_a1 E1 C1 W1 V2 hne SC hG hc0 hc1) (by decide) (by decide) (g := (mkF m 6 #[rv a1, rv a2] [.null, (.int 2), (.int 0), (.ref a2), (.ref a1)])) rfl (by rw [hml]; rfl) (argsL := [(.ref a2), (.int 0), (.int 2), .null]) (rest := []) rfl (lenOf own_pd3 rfl) rfl (by show 2 * 0 + _ ≤ _; exact Nat.le_of_eq rfl) (hb hby own_dsi1_2_6) e0 (by decide) (by decide)
  obtain ⟨rfl, Nq2, Kq2, Eq2, Cq2, b2, k2, g_b2, sq2, Wq2, Vq2⟩ := hQ2
  have N2 := Fr.app N0 Nq2
  have ne_a1_b2 : a1 ≠ b2 := Nat.ne_of_lt (Nat.lt_of_lt_of_le E1.lt sq2)
  have ne_a2_b2 : a2 ≠ b2 := Nat.ne_of_lt (Nat.lt_of_lt_of_le V2.lt sq2)
  have sz_b2 : h0.size ≤ b2 := Nat.le_trans (Keep.refl h0 [a1]).1 sq2
  have f3 := V2.keep Kq2 (ninS hne nin0)
  have f4 := own_staKeepW SC Kq2 (allS E1.nostat all0)
  have K2 : Keep h0 T2.heap [a1] := (Keep.refl h0 [a1]).trans Kq2 (allS (Or.inl (List.mem_of_getElem? (i := 0) rfl)) all0)
  have Z2 := Nat.le_trans Z0 Kq2.1
  refine own_s T2 (mkF m 9 #[rv a1, rv a2] []) st2 ?_
  exact own_finV X2 hx hret (hb hby own_dsi1_2_9) (own_end (Qv := (own_Qsi1_2 Z a1 a2 kb gC ch0 ch1 h0 n0)) X2 (fun _ => rfl) hlk (by decide) (by decide) rfl ⟨rfl, N2, K2, Eq2, Cq2, b2, _, g_b2, sz_b2, Wq2, Vq2⟩)
theorem own_dsi4_0_0 : decode jdk_42_method_149_code 0 = .ok (.aload_n 0, 1) := by decide +kernel
theorem own_dsi4_0_1 : decode jdk_42_method_149_code 1 = .ok (.invokespecial 1, 3) := by decide +kernel
theorem own_dsi4_0_4 : decode jdk_42_method_149_code 4 = .ok (.iload_n 3, 1) := by decide +kernel
theorem own_dsi4_0_5 : decode jdk_42_method_149_code 5 = .ok (.ifCond .ne 22, 3) := by decide +kernel
theorem own_dsi4_0_8 : decode jdk_42_method_149_code 8 = .ok (.aload_n 0, 1) := by decide +kernel
theorem own_dsi4_0_9 : decode jdk_42_method_149_code 9 = .ok (.ldc 7, 2) := by decide +kernel
theorem own_dsi4_0_11 : decode jdk_42_method_149_code 11 = .ok (.getfield 9, 3) := by decide +kernel
theorem own_dsi4_0_14 : decode jdk_42_method_149_code 14 = .ok (.putfield 9, 3) := by decide +kernel
theorem own_dsi4_0_17 : decode jdk_42_method_149_code 17 = .ok (.aload_n 0, 1) := by decide +kernel
theorem own_dsi4_0_18 : decode jdk_42_method_149_code 18 = .ok (.ldc 7, 2) := by decide +kernel
theorem own_dsi4_0_20 : decode jdk_42_method_149_code 20 = .ok (.getfield 15, 3) := by decide +kernel
theorem own_dsi4_0_23 : decode jdk_42_method_149_code 23 = .ok (.putfield 15, 3) := by decide +kernel
theorem own_dsi4_0_26 : decode jdk_42_method_149_code 26 = .ok (.return_, 1) := by decide +kernel
theorem own_efsi4_0 (m : MethodId) (x0 : Addr) (x1 : Addr) (x2 : Int32) (x3 : Int32) : entryFrame m #[(.ref x0), (.ref x1), (.int x2), (.int x3), .null] 6 = mkF m 0 #[rv x0, rv x1, iv x2, iv x3, .val .null, u_] [] := by first | (simp [entryFrame, mkF, argsToLocals, Value.category]; done) | rfl
def own_Qsi4_0 (Z : State) (a1 : Addr) (a2 : Addr) (h0 : Heap) (n0 : Nat) : Option Value → Heap → Vm → List Loc → Prop := fun v h vm L => v = none ∧ Fr n0 L ∧ Keep h0 h [a1] ∧ Exa Z h a1 "java/lang/String" ∧ Fld Z h a1 "java/lang/String" "coder" "B" (.int 0) ∧ (∃ (b : Addr) (k : ClassId), Fld Z h a1 "java/lang/String" "value" "[B" (.ref b) ∧ Arv Z h b k .byte 0 [] (.int 0)) ∧ own_EL Z vm h
def own_Rsi4_0 : Room := { frames := 1, cells := 2, slots := 4, locals := 12 }
set_option maxRecDepth 65536 in
set_option maxHeartbeats 40000000 in
theorem own_rmsi4_0 (l : Launch) (Z : State) (a0 : Array Value) (hw : ∀ d ∈ tables_1, d.before a0 Z = true) (ws : List Jvm.Cond) (a1 : Addr) (a2 : Addr) (h0 : Heap) (n0 : Nat) (Z0 : n0 ≤ h0.size) (g_a1 : n0 ≤ a1) (E1 : Exa Z h0 a1 "java/lang/String") (C1 : Fld Z h0 a1 "java/lang/String" "coder" "B" (.int 0)) (W1 : Fld Z h0 a1 "java/lang/String" "value" "[B" .null) (hO : Old Z n0 h0) (hh : Jvm.Lit.constHeld Z "java/lang/String" 7) (hcw : Jvm.Lit.compactW.before a0 Z = true) :
    own_MetW l Z own_y3 jdk_42_method_149_code 6 none ws own_Rsi4_0 h0 (fun vm => own_EL Z vm h0) #[(.ref a1), (.ref a2), (.int 0), (.int 0), .null] (own_Qsi4_0 Z a1 a2 h0 n0) own_Rsi4_0.cells own_Rsi4_0.slots := by
  refine own_startW (plainFor_of_name own_pn1) ?_
  intro p e s m below meth c s₁ X0 hx hZ hby hml hret hlk hown hnm e0 hS hs0 hJ
  have hk0 : 0 ≤ h0.size := Nat.zero_le _
  have hown : s.vm.findClass "java/lang/String" = some m.cls := hown
  have hml : c.maxLocals = 6 := hml
  have N0 := Fr.nil n0
  refine own_cast (own_efsi4_0 m a1 a2 (0 : Int32) (0 : Int32)) ?_
  refine own_s s₁ (mkF m 1 #[rv a1, rv a2, iv 0, iv 0, .val .null, u_] [(.ref a1)]) (fun _ k => XS.aloadN X0.here hx rfl (hb hby own_dsi4_0_0) rfl rfl k) ?_
  obtain ⟨T1, X1, e1, st1⟩ := initO X0 hx hZ hown (own_h hw 15 rfl) (own_h hw 16 rfl) (own_h hw 17 rfl) e0 (g := (mkF m 1 #[rv a1, rv a2, iv 0, iv 0, .val .null, u_] [(.ref a1)])) rfl (by rw [hml]; rfl) rfl (hb hby own_dsi4_0_1) (by decide) (W := 0) (by show 2 * 0 + _ ≤ _; exact Nat.le_of_eq rfl) (by decide)
  refine own_s T1 (mkF m 4 #[rv a1, rv a2, iv 0, iv 0, .val .null, u_] []) st1 ?_
  refine own_s T1 (mkF m 9 #[rv a1, rv a2, iv 0, iv 0, .val .null, u_] [(.ref a1)]) (fun _ k => XS.iloadN X1.here hx rfl (hb hby own_dsi4_0_4) rfl  (XS.ifNo X1.here hx rfl (hb hby own_dsi4_0_5) rfl ((if0 _ _).trans (teq (by decide : ((0 : Int32) = (0 : Int32)))).2) (XS.aloadN X1.here hx rfl (hb hby own_dsi4_0_8) rfl rfl k))) ?_
  rcases hJ with hI | ⟨sl, bb, kbb, hL, Ex, Fc, Fv, Av⟩
  · obtain ⟨sl, T2, h2, kk2, bb, kbb, X2, e2, E2, hS, hk2, hZ, hown, Ex, Fc, Fv, Av, -, -, -, hL, st2⟩ := ldcSVL (s := s) X1 hx hZ hown (own_h hw 18 rfl) (own_wS hw) e1 hS hk0 (Fr.nil _) (fun b cl q => by rw [hs0]; exact hO.2.2 b cl q) hI (by simp) hh hcw (vs := []) (z := 0) ⟨by simp, by simp⟩ (by decide) rfl (g := (mkF m 9 #[rv a1, rv a2, iv 0, iv 0, .val .null, u_] [(.ref a1)])) rfl (hb hby own_dsi4_0_9) (n := 0) (by decide) (by decide) (by decide) (by decide)
    have f3 := Exa.ext E2 E1
    have f4 := Fld.ext E2 C1
    have f5 := Fld.ext E2 W1
    have K2 : Keep h0 h2 [a1] := (Keep.refl h0 [a1]).ext E2
    have Z2 := Nat.le_trans Z0 E2.1
    have ne1 : a1 ≠ sl := Fld.ne f5 Fv (by simp)
    have ne2 : a1 ≠ bb := Exa.neArv f3 Av (own_h hw 5 rfl)
    refine own_s T2 (mkF m 11 #[rv a1, rv a2, iv 0, iv 0, .val .null, u_] [(.ref sl), (.ref a1)]) st2 ?_
    obtain ⟨T6, X6, e6, st6⟩ := getF X2 hx hZ hown (host := "") (Or.inl (own_h hw 24 rfl)) Via.refl e2 Fv (g := (mkF m 11 #[rv a1, rv a2, iv 0, iv 0, .val .null, u_] [(.ref sl), (.ref a1)])) rfl rfl (hb hby own_dsi4_0_11)
    refine own_s T6 (mkF m 14 #[rv a1, rv a2, iv 0, iv 0, .val .null, u_] [(.ref bb), (.ref a1)]) st6 ?_
    obtain ⟨T7, h7, X7, e7, W7, st7⟩ := putF X6 hx hZ hown (host := "") (Or.inl (own_h hw 24 rfl)) Via.refl e6 f5 f3 (Or.inr ⟨(own_h hw 20 rfl), rfl, hnm⟩) (own_h hw 5 rfl) (ty := (.array .byte)) (by decide) rfl rfl (g := (mkF m 14 #[rv a1, rv a2, iv 0, iv 0, .val .null, u_] [(.ref bb), (.ref a1)])) rfl rfl (hb hby own_dsi4_0_14)
    have Fw7 := Fld.same W7 f5
    have f8 := Exa.wr W7 f3
    have f9 := Fld.other W7 f4 (Or.inr (slot_ne (Or.inr (own_h hw 21 rfl)) (Or.inr (own_h hw 20 rfl)) (by decide) (t := .byte) (t' := (.array .byte)) (by decide) (by decide)))
    have f10 := Exa.wr W7 Ex
    have f11 := Fld.other W7 Fc (Or.inl (Ne.symm ne1))
    have f12 := Fld.other W7 Fv (Or.inl (Ne.symm ne1))
    have f13 := Av.other W7 (Ne.symm ne2)
    have K7 : Keep h0 h7 [a1] := K2.wr W7 (Or.inl (List.mem_of_getElem? (i := 0) rfl))
    have Z7 := Nat.le_trans Z2 (Nat.le_of_eq W7.size.symm)
    have hk7 := Nat.le_trans hk2 (Nat.le_of_eq W7.size.symm)
    have N7 := Fr.snoc X7 N0 g_a1
    refine own_s T7 (mkF m 17 #[rv a1, rv a2, iv 0, iv 0, .val .null, u_] []) st7 ?_
    refine own_s T7 (mkF m 18 #[rv a1, rv a2, iv 0, iv 0, .val .null, u_] [(.ref a1)]) (fun _ k => XS.aloadN X7.here hx rfl (hb hby own_dsi4_0_17) rfl rfl k) ?_
    refine own_s T7 (mkF m 20 #[rv a1, rv a2, iv 0, iv 0, .val .null, u_] [(.ref sl), (.ref a1)]) (ldcAgain X7 hx hZ hown (own_h hw 18 rfl) hL (g := (mkF m 18 #[rv a1, rv a2, iv 0, iv 0, .val .null, u_] [(.ref a1)])) rfl (hb hby own_dsi4_0_18)) ?_
    obtain ⟨T14, X14, e14, st14⟩ := getF X7 hx hZ hown (host := "") (Or.inl (own_h hw 25 rfl)) Via.refl e7 f11 (g := (mkF m 20 #[rv a1, rv a2, iv 0, iv 0, .val .null, u_] [(.ref sl), (.ref a1)])) rfl rfl (hb hby own_dsi4_0_20)
    refine own_s T14 (mkF m 23 #[rv a1, rv a2, iv 0, iv 0, .val .null, u_] [(.int 0), (.ref a1)]) st14 ?_
    obtain ⟨T15, h15, X15, e15, W15, st15⟩ := putFN X14 hx hZ hown (own_h hw 25 rfl) Via.refl e14 f9 f8 (Or.inr ⟨(own_h hw 21 rfl), rfl, hnm⟩) (own_h hw 5 rfl) (ty := .byte) (v' := (.int 0)) (by decide) rfl rfl (g := (mkF m 23 #[rv a1, rv a2, iv 0, iv 0, .val .null, u_] [(.int 0), (.ref a1)])) rfl rfl (hb hby own_dsi4_0_23)
    have Fw15 := Fld.same W15 f9
    have f16 := Exa.wr W15 f8
    have f17 := Fld.other W15 Fw7 (Or.inr (slot_ne (Or.inr (own_h hw 20 rfl)) (Or.inr (own_h hw 21 rfl)) (by decide) (t := (.array .byte)) (t' := .byte) (by decide) (by decide)))
    have f18 := Exa.wr W15 f10
    have f19 := Fld.other W15 f11 (Or.inl (Ne.symm ne1))
    have f20 := Fld.other W15 f12 (Or.inl (Ne.symm ne1))
    have f21 := f13.other W15 (Ne.symm ne2)
    have K15 : Keep h0 h15 [a1] := K7.wr W15 (Or.inl (List.mem_of_getElem? (i := 0) rfl))
    have Z15 := Nat.le_trans Z7 (Nat.le_of_eq W15.size.symm)
    have hk15 := Nat.le_trans hk7 (Nat.le_of_eq W15.size.symm)
    have N15 := Fr.snoc X15 N7 g_a1
    refine own_s T15 (mkF m 26 #[rv a1, rv a2, iv 0, iv 0, .val .null, u_] []) st15 ?_
    exact own_finV X15 hx hret (hb hby own_dsi4_0_26) (own_endW (Qv := (own_Qsi4_0 Z a1 a2 h0 n0)) X15 hS (fun _ => rfl) hlk (by decide) (by decide) e15 hk15 (fun vm' hv' => ⟨rfl, N15, K15, f16, Fw15, ⟨bb, kbb, f17, f21⟩, Or.inr ⟨sl, bb, kbb, own_litAll (own_litW hL hv'), f18, f19, f20, f21⟩⟩))
  · have ne1 : a1 ≠ sl := Fld.ne W1 Fv (by simp)
    have ne2 : a1 ≠ bb := Exa.neArv E1 Av (own_h hw 5 rfl)
    refine own_s T1 (mkF m 11 #[rv a1, rv a2, iv 0, iv 0, .val .null, u_] [(.ref sl), (.ref a1)]) (ldcAgain X1 hx hZ hown (own_h hw 18 rfl) (hL s) (g := (mkF m 9 #[rv a1, rv a2, iv 0, iv 0, .val .null, u_] [(.ref a1)])) rfl (hb hby own_dsi4_0_9)) ?_
    obtain ⟨T22, X22, e22, st22⟩ := getF X1 hx hZ hown (host := "") (Or.inl (own_h hw 24 rfl)) Via.refl e1 Fv (g := (mkF m 11 #[rv a1, rv a2, iv 0, iv 0, .val .null, u_] [(.ref sl), (.ref a1)])) rfl rfl (hb hby own_dsi4_0_11)
    refine own_s T22 (mkF m 14 #[rv a1, rv a2, iv 0, iv 0, .val .null, u_] [(.ref bb), (.ref a1)]) st22 ?_
    obtain ⟨T23, h23, X23, e23, W23, st23⟩ := putF X22 hx hZ hown (host := "") (Or.inl (own_h hw 24 rfl)) Via.refl e22 W1 E1 (Or.inr ⟨(own_h hw 20 rfl), rfl, hnm⟩) (own_h hw 5 rfl) (ty := (.array .byte)) (by decide) rfl rfl (g := (mkF m 14 #[rv a1, rv a2, iv 0, iv 0, .val .null, u_] [(.ref bb), (.ref a1)])) rfl rfl (hb hby own_dsi4_0_14)
    have Fw23 := Fld.same W23 W1
    have f24 := Exa.wr W23 E1
    have f25 := Fld.other W23 C1 (Or.inr (slot_ne (Or.inr (own_h hw 21 rfl)) (Or.inr (own_h hw 20 rfl)) (by decide) (t := .byte) (t' := (.array .byte)) (by decide) (by decide)))
    have f26 := Exa.wr W23 Ex
    have f27 := Fld.other W23 Fc (Or.inl (Ne.symm ne1))
    have f28 := Fld.other W23 Fv (Or.inl (Ne.symm ne1))
    have f29 := Av.other W23 (Ne.symm ne2)
    have K23 : Keep h0 h23 [a1] := (Keep.refl h0 [a1]).wr W23 (Or.inl (List.mem_of_getElem? (i := 0) rfl))
    have Z23 := Nat.le_trans Z0 (Nat.le_of_eq W23.size.symm)
    have hk23 := Nat.le_trans hk0 (Nat.le_of_eq W23.size.symm)
    have N23 := Fr.snoc X23 N0 g_a1
    refine own_s T23 (mkF m 17 #[rv a1, rv a2, iv 0, iv 0, .val .null, u_] []) st23 ?_
    refine own_s T23 (mkF m 18 #[rv a1, rv a2, iv 0, iv 0, .val .null, u_] [(.ref a1)]) (fun _ k => XS.aloadN X23.here hx rfl (hb hby own_dsi4_0_17) rfl rfl k) ?_
    refine own_s T23 (mkF m 20 #[rv a1, rv a2, iv 0, iv 0, .val .null, u_] [(.ref sl), (.ref a1)]) (ldcAgain X23 hx hZ hown (own_h hw 18 rfl) (hL s) (g := (mkF m 18 #[rv a1, rv a2, iv 0, iv 0, .val .null, u_] [(.ref a1)])) rfl (hb hby own_dsi4_0_18)) ?_
    obtain ⟨T30, X30, e30, st30⟩ := getF X23 hx hZ hown (host := "") (Or.inl (own_h hw 25 rfl)) Via.refl e23 f27 (g := (mkF m 20 #[rv a1, rv a2, iv 0, iv 0, .val .null, u_] [(.ref sl), (.ref a1)])) rfl rfl (hb hby own_dsi4_0_20)
    refine own_s T30 (mkF m 23 #[rv a1, rv a2, iv 0, iv 0, .val .null, u_] [(.int 0), (.ref a1)]) st30 ?_
    obtain ⟨T31, h31, X31, e31, W31, st31⟩ := putFN X30 hx hZ hown (own_h hw 25 rfl) Via.refl e30 f25 f24 (Or.inr ⟨(own_h hw 21 rfl), rfl, hnm⟩) (own_h hw 5 rfl) (ty := .byte) (v' := (.int 0)) (by decide) rfl rfl (g := (mkF m 23 #[rv a1, rv a2, iv 0, iv 0, .val .null, u_] [(.int 0), (.ref a1)])) rfl rfl (hb hby own_dsi4_0_23)
    have Fw31 := Fld.same W31 f25
    have f32 := Exa.wr W31 f24
    have f33 := Fld.other W31 Fw23 (Or.inr (slot_ne (Or.inr (own_h hw 20 rfl)) (Or.inr (own_h hw 21 rfl)) (by decide) (t := (.array .byte)) (t' := .byte) (by decide) (by decide)))
    have f34 := Exa.wr W31 f26
    have f35 := Fld.other W31 f27 (Or.inl (Ne.symm ne1))
    have f36 := Fld.other W31 f28 (Or.inl (Ne.symm ne1))
    have f37 := f29.other W31 (Ne.symm ne2)
    have K31 : Keep h0 h31 [a1] := K23.wr W31 (Or.inl (List.mem_of_getElem? (i := 0) rfl))
    have Z31 := Nat.le_trans Z23 (Nat.le_of_eq W31.size.symm)
    have hk31 := Nat.le_trans hk23 (Nat.le_of_eq W31.size.symm)
    have N31 := Fr.snoc X31 N23 g_a1
    refine own_s T31 (mkF m 26 #[rv a1, rv a2, iv 0, iv 0, .val .null, u_] []) st31 ?_
    exact own_finV X31 hx hret (hb hby own_dsi4_0_26) (own_endW (Qv := (own_Qsi4_0 Z a1 a2 h0 n0)) X31 hS (fun _ => rfl) hlk (by decide) (by decide) e31 hk31 (fun vm' hv' => ⟨rfl, N31, K31, f32, Fw31, ⟨bb, kbb, f33, f37⟩, Or.inr ⟨sl, bb, kbb, own_litAll (own_litW (hL s) hv'), f34, f35, f36, f37⟩⟩))
theorem own_dsi1_0_0 : decode jdk_42_method_3_code 0 = .ok (.aload_n 0, 1) := by decide +kernel
theorem own_dsi1_0_1 : decode jdk_42_method_3_code 1 = .ok (.aload_n 1, 1) := by decide +kernel
theorem own_dsi1_0_2 : decode jdk_42_method_3_code 2 = .ok (.iconst 0, 1) := by decide +kernel
theorem own_dsi1_0_3 : decode jdk_42_method_3_code 3 = .ok (.aload_n 1, 1) := by decide +kernel
theorem own_dsi1_0_4 : decode jdk_42_method_3_code 4 = .ok (.arraylength, 1) := by decide +kernel
theorem own_dsi1_0_5 : decode jdk_42_method_3_code 5 = .ok (.aconst_null, 1) := by decide +kernel
theorem own_dsi1_0_6 : decode jdk_42_method_3_code 6 = .ok (.invokespecial 27, 3) := by decide +kernel
theorem own_dsi1_0_9 : decode jdk_42_method_3_code 9 = .ok (.return_, 1) := by decide +kernel
theorem own_efsi1_0 (m : MethodId) (x0 : Addr) (x1 : Addr) : entryFrame m #[(.ref x0), (.ref x1)] 2 = mkF m 0 #[rv x0, rv x1] [] := by first | (simp [entryFrame, mkF, argsToLocals, Value.category]; done) | rfl
def own_Qsi1_0 (Z : State) (a1 : Addr) (a2 : Addr) (kb : ClassId) (h0 : Heap) (n0 : Nat) : Option Value → Heap → Vm → List Loc → Prop := fun v h vm L => v = none ∧ Fr n0 L ∧ Keep h0 h [a1] ∧ Exa Z h a1 "java/lang/String" ∧ Fld Z h a1 "java/lang/String" "coder" "B" (.int 0) ∧ (∃ (b : Addr) (k : ClassId), Fld Z h a1 "java/lang/String" "value" "[B" (.ref b) ∧ Arv Z h b k .byte 0 [] (.int 0)) ∧ own_EL Z vm h
def own_Rsi1_0 : Room := { frames := 2, cells := 2, slots := 4, locals := 29 }
set_option maxRecDepth 65536 in
set_option maxHeartbeats 40000000 in
theorem own_rmsi1_0 (l : Launch) (Z : State) (a0 : Array Value) (hw : ∀ d ∈ tables_1, d.before a0 Z = true) (ws : List Jvm.Cond) (a1 : Addr) (a2 : Addr) (kb : ClassId) (h0 : Heap) (n0 : Nat) (Z0 : n0 ≤ h0.size) (g_a1 : n0 ≤ a1) (E1 : Exa Z h0 a1 "java/lang/String") (C1 : Fld Z h0 a1 "java/lang/String" "coder" "B" (.int 0)) (W1 : Fld Z h0 a1 "java/lang/String" "value" "[B" .null) (hO : Old Z n0 h0) (hh : Jvm.Lit.constHeld Z "java/lang/String" 7) (hcw : Jvm.Lit.compactW.before a0 Z = true) (V2 : Arv Z h0 a2 kb .char 0 [] (.int 0)) (hne : a2 ≠ a1) :
    own_MetW l Z own_y4 jdk_42_method_3_code 2 none ws own_Rsi1_0 h0 (fun vm => own_EL Z vm h0) #[(.ref a1), (.ref a2)] (own_Qsi1_0 Z a1 a2 kb h0 n0) own_Rsi1_0.cells own_Rsi1_0.slots := by
  refine own_startW (plainFor_of_name own_pn1) ?_
  intro p e s m below meth c s₁ X0 hx hZ hby hml hret hlk hown hnm e0 hS hs0 hJ
  have hk0 : 0 ≤ h0.size := Nat.zero_le _
  have hown : s.vm.findClass "java/lang/String" = some m.cls := hown
  have hml : c.maxLocals = 2 := hml
  have N0 := Fr.nil n0
  refine own_cast (own_efsi1_0 m a1 a2) ?_
  refine own_s s₁ (mkF m 4 #[rv a1, rv a2] [(.ref a2), (.int 0), (.ref a2), (.ref a1)]) (fun _ k => XS.aloadN X0.here hx rfl (hb hby own_dsi1_0_0) rfl rfl (XS.aloadN X0.here hx rfl (hb hby own_dsi1_0_1) rfl rfl (XS.iconst X0.here hx rfl (hb hby own_dsi1_0_2) (XS.aloadN X0.here hx rfl (hb hby own_dsi1_0_3) rfl rfl k)))) ?_
  obtain ⟨cl1, Ar1, q1, S1, Nn1, H1, G1⟩ := id V2
  refine own_s s₁ (mkF m 6 #[rv a1, rv a2] [.null, (.int 0), (.int 0), (.ref a2), (.ref a1)]) (fun _ k => own_len X0 hx hZ e0 Ar1 S1 Nn1 (g := (mkF m 4 #[rv a1, rv a2] [(.ref a2), (.int 0), (.ref a2), (.ref a1)])) rfl rfl (hb hby own_dsi1_0_4) (XS.aconstNull X0.here hx rfl (hb hby own_dsi1_0_5) k)) ?_
  obtain ⟨v2, T2, L2, X2, hQ2, hS, hg2, hZ, hown, st2⟩ := own_callIW (s := s) X0 hx hZ hS hk0 (y := own_y3) (W := 0) (a := a1) rfl hown (own_h hw 11 rfl) (own_h hw 12 rfl) (own_h hw 6 rfl) (own_h hw 14 rfl) (by decide) (own_rmsi4_0 l Z a0 hw [] a1 a2 h0 n0 Z0 g_a1 E1 C1 W1 hO hh hcw) (fun vm' hv => own_ELw hJ hv) (by decide) (by decide) (g := (mkF m 6 #[rv a1, rv a2] [.null, (.int 0), (.int 0), (.ref a2), (.ref a1)])) rfl (by rw [hml]; rfl) (argsL := [(.ref a2), (.int 0), (.int 0), .null]) (rest := []) rfl (lenOf own_pd3 rfl) rfl (by show 2 * 0 + _ ≤ _; exact Nat.le_of_eq rfl) (hb hby own_dsi1_0_6) e0 (by decide) (by decide)
  obtain ⟨rfl, Nq2, Kq2, Eq2, Cq2, ⟨b2, k2, Wq2, Vq2⟩, hJ⟩ := hQ2
  have N2 := Fr.app N0 Nq2
  have f3 := V2.keep Kq2 (ninS hne nin0)
  have f4 := Old.keep hO Kq2 (allS g_a1 all0)
  have K2 : Keep h0 T2.heap [a1] := (Keep.refl h0 [a1]).trans Kq2 (allS (Or.inl (List.mem_of_getElem? (i := 0) rfl)) all0)
  have Z2 := Nat.le_trans Z0 Kq2.1
  refine own_s T2 (mkF m 9 #[rv a1, rv a2] []) st2 ?_
  exact own_finV X2 hx hret (hb hby own_dsi1_0_9) (own_endW (Qv := (own_Qsi1_0 Z a1 a2 kb h0 n0)) X2 hS (fun _ => rfl) hlk (by decide) (by decide) rfl (Nat.le_refl _) (fun vm' hv' => ⟨rfl, N2, K2, Eq2, Cq2, ⟨_, _, Wq2, Vq2⟩, own_ELw hJ hv'⟩))
abbrev own_y5 : MethodName := ⟨"java/lang/StringLatin1", "canEncode", "(C)Z"⟩
theorem own_pn2 : plainName "java/lang/StringLatin1" = true := by first | (simp [plainName, overriddenIn]; done) | decide +kernel
theorem own_dcan_0 : decode jdk_43_method_3_code 0 = .ok (.iload_n 0, 1) := by decide +kernel
theorem own_dcan_1 : decode jdk_43_method_3_code 1 = .ok (.sipush 255, 3) := by decide +kernel
theorem own_dcan_4 : decode jdk_43_method_3_code 4 = .ok (.if_icmp .gt 7, 3) := by decide +kernel
theorem own_dcan_7 : decode jdk_43_method_3_code 7 = .ok (.iconst 1, 1) := by decide +kernel
theorem own_dcan_8 : decode jdk_43_method_3_code 8 = .ok (.goto 4, 3) := by decide +kernel
theorem own_dcan_12 : decode jdk_43_method_3_code 12 = .ok (.ireturn, 1) := by decide +kernel
theorem own_efcan (m : MethodId) (x0 : Int32) : entryFrame m #[(.int x0)] 1 = mkF m 0 #[iv x0] [] := by first | (simp [entryFrame, mkF, argsToLocals, Value.category]; done) | rfl
def own_Qcan (Z : State) (p1 : Int32) (h0 : Heap) (n0 : Nat) : Option Value → Heap → List Loc → Prop := fun v h L => v = some (.int 1) ∧ Fr n0 L ∧ h = h0
def own_Rcan : Room := { frames := 0, cells := 0, slots := 0, locals := 0 }
set_option maxRecDepth 65536 in
set_option maxHeartbeats 40000000 in
theorem own_rmcan (l : Launch) (Z : State) (a0 : Array Value) (hw : ∀ d ∈ tables_1, d.before a0 Z = true) (ws : List Jvm.Cond) (p1 : Int32) (h0 : Heap) (n0 : Nat) (Z0 : n0 ≤ h0.size) (hc : ¬ (255 : Int32) < p1) :
    own_Met l Z own_y5 jdk_43_method_3_code 1 (some .boolean) ws own_Rcan h0 #[(.int p1)] (own_Qcan Z p1 h0 n0) own_Rcan.cells own_Rcan.slots := by
  refine own_start (plainFor_of_name own_pn2) ?_
  intro p e s m below meth c s₁ X0 hx hZ hby hml hret hlk hown hnm e0
  have hown : s.vm.findClass "java/lang/StringLatin1" = some m.cls := hown
  have hml : c.maxLocals = 1 := hml
  have N0 := Fr.nil n0
  refine own_cast (own_efcan m p1) ?_
  refine own_s s₁ (mkF m 12 #[iv p1] [(.int 1)]) (fun _ k => XS.iloadN X0.here hx rfl (hb hby own_dcan_0) rfl  (XS.sipush X0.here hx rfl (hb hby own_dcan_1) (XS.icmpNo X0.here hx rfl (hb hby own_dcan_4) rfl (flt hc).2.2.1 (XS.iconst X0.here hx rfl (hb hby own_dcan_7) (XS.goto X0.here hx rfl (pc0 := 8) (pc' := 12) rfl (hb hby own_dcan_8) (by decide) (by decide) k))))) ?_
  exact own_finZ X0 hx (t := .boolean) hret (by simp) (z' := (1 : Int32)) rfl (hb hby own_dcan_12) (own_end (Qv := (own_Qcan Z p1 h0 n0)) X0 (own_some hret) hlk (by decide) (by decide) e0 ⟨rfl, N0, rfl⟩)
abbrev own_y6 : MethodName := ⟨"java/lang/StringLatin1", "toBytes", "(C)[B"⟩
theorem own_dtob_0 : decode jdk_43_method_46_code 0 = .ok (.iconst 1, 1) := by decide +kernel
theorem own_dtob_1 : decode jdk_43_method_46_code 1 = .ok (.newarray .byte, 2) := by decide +kernel
theorem own_dtob_3 : decode jdk_43_method_46_code 3 = .ok (.dup, 1) := by decide +kernel
theorem own_dtob_4 : decode jdk_43_method_46_code 4 = .ok (.iconst 0, 1) := by decide +kernel
theorem own_dtob_5 : decode jdk_43_method_46_code 5 = .ok (.iload_n 0, 1) := by decide +kernel
theorem own_dtob_6 : decode jdk_43_method_46_code 6 = .ok (.i2b, 1) := by decide +kernel
theorem own_dtob_7 : decode jdk_43_method_46_code 7 = .ok (.bastore, 1) := by decide +kernel
theorem own_dtob_8 : decode jdk_43_method_46_code 8 = .ok (.areturn, 1) := by decide +kernel
theorem own_eftob (m : MethodId) (x0 : Int32) : entryFrame m #[(.int x0)] 1 = mkF m 0 #[iv x0] [] := by first | (simp [entryFrame, mkF, argsToLocals, Value.category]; done) | rfl
def own_Qtob (Z : State) (p1 : Int32) (h0 : Heap) (n0 : Nat) : Option Value → Heap → List Loc → Prop := fun v h L => (∃ (b : Addr) (k : ClassId), v = some (.ref b) ∧ n0 ≤ b ∧ h0.size ≤ b ∧ Arv Z h b k .byte (1 : Int32) [(.int (own_by p1))] (.int 0)) ∧ Fr n0 L ∧ Keep h0 h []
def own_Rtob : Room := { frames := 0, cells := 1, slots := 1, locals := 0 }
set_option maxRecDepth 65536 in
set_option maxHeartbeats 40000000 in
theorem own_rmtob (l : Launch) (Z : State) (a0 : Array Value) (hw : ∀ d ∈ tables_1, d.before a0 Z = true) (ws : List Jvm.Cond) (p1 : Int32) (h0 : Heap) (n0 : Nat) (Z0 : n0 ≤ h0.size) :
    own_Met l Z own_y6 jdk_43_method_46_code 1 (some (.array .byte)) ws own_Rtob h0 #[(.int p1)] (own_Qtob Z p1 h0 n0) own_Rtob.cells own_Rtob.slots := by
  refine own_start (plainFor_of_name own_pn2) ?_
  intro p e s m below meth c s₁ X0 hx hZ hby hml hret hlk hown hnm e0
  have hown : s.vm.findClass "java/lang/StringLatin1" = some m.cls := hown
  have hml : c.maxLocals = 1 := hml
  have N0 := Fr.nil n0
  refine own_cast (own_eftob m p1) ?_
  refine own_s s₁ (mkF m 1 #[iv p1] [(.int 1)]) (fun _ k => XS.iconst X0.here hx rfl (hb hby own_dtob_0) k) ?_
  obtain ⟨T1, h1, k1, X1, e1, E1, A1, st1⟩ := newP X0 hx hZ (own_h hw 19 rfl) e0 (g := (mkF m 1 #[iv p1] [(.int 1)])) rfl (hb hby own_dtob_1) rfl (by decide) (cap := 1) (by decide) (by decide) (by decide) (by decide)
  obtain ⟨b1, g1⟩ : ∃ z, z = h0.size := ⟨_, rfl⟩
  have g_b1 : n0 ≤ b1 := Nat.le_trans Z0 (Nat.le_of_eq g1.symm)
  have sz_b1 : h0.size ≤ b1 := Nat.le_trans (Keep.refl h0 []).1 (Nat.le_of_eq g1.symm)
  rw [← g1] at A1 st1
  have K1 : Keep h0 h1 [] := (Keep.refl h0 []).ext E1
  have Z1 := Nat.le_trans Z0 E1.1
  have f1 : Arv Z h1 b1 k1 .byte 1 [(.int 0)] (.int 0) := (Arv.new A1 (by decide)).pad (pad_rep [] (.int 0) 1)
  refine own_s T1 (mkF m 3 #[iv p1] [(.ref b1)]) st1 ?_
  refine own_s T1 (mkF m 7 #[iv p1] [(.int (p1.toInt8.toInt32)), (.int 0), (.ref b1), (.ref b1)]) (fun _ k => XS.dup X1.here hx rfl (hb hby own_dtob_3) rfl rfl (XS.iconst X1.here hx rfl (hb hby own_dtob_4) (XS.iloadN X1.here hx rfl (hb hby own_dtob_5) rfl  (XS.i2b X1.here hx rfl (hb hby own_dtob_6) rfl k)))) ?_
  obtain ⟨cl2, Ar2, q2, S2, Nn2, H2, G2⟩ := id f1
  have hin2 : ¬ ((0 : Int32) < 0 ∨ cl2.slots.size ≤ ((0 : Int32)).toNatClampNeg) := (inb_of S2 ⟨by decide, by decide⟩)
  obtain ⟨T2, h2, X2, e2, W2, st2⟩ := stB X1 hx hZ e1 Ar2 (j := (0 : Int32)) hin2 (g := (mkF m 7 #[iv p1] [(.int (p1.toInt8.toInt32)), (.int 0), (.ref b1), (.ref b1)])) rfl rfl (hb hby own_dtob_7)
  have f2 : Arv Z h2 b1 k1 .byte (1 : Int32) [(.int (own_by p1))] (.int 0) := Arv.set Ar2 q2 S2 Nn2 H2 G2 (fits_nar_byte _) W2 0 rfl (Nat.le_of_ble_eq_true rfl)
  have K2 : Keep h0 h2 [] := K1.wr W2 (Or.inr sz_b1)
  have Z2 := Nat.le_trans Z1 (Nat.le_of_eq W2.size.symm)
  have N2 := Fr.snoc X2 N0 g_b1
  refine own_s T2 (mkF m 8 #[iv p1] [(.ref b1)]) st2 ?_
  exact own_finA X2 hx hret rfl rfl (hb hby own_dtob_8) (own_end (Qv := (own_Qtob Z p1 h0 n0)) X2 (own_some hret) hlk (by decide) (by decide) e2 ⟨⟨b1, _, rfl, g_b1, sz_b1, f2⟩, N2, K2⟩)
abbrev own_y7 : MethodName := ⟨"java/lang/String", "<init>", "([BB)V"⟩
theorem own_dsib_0 : decode jdk_42_method_151_code 0 = .ok (.aload_n 0, 1) := by decide +kernel
theorem own_dsib_1 : decode jdk_42_method_151_code 1 = .ok (.invokespecial 1, 3) := by decide +kernel
theorem own_dsib_4 : decode jdk_42_method_151_code 4 = .ok (.aload_n 0, 1) := by decide +kernel
theorem own_dsib_5 : decode jdk_42_method_151_code 5 = .ok (.aload_n 1, 1) := by decide +kernel
theorem own_dsib_6 : decode jdk_42_method_151_code 6 = .ok (.putfield 9, 3) := by decide +kernel
theorem own_dsib_9 : decode jdk_42_method_151_code 9 = .ok (.aload_n 0, 1) := by decide +kernel
theorem own_dsib_10 : decode jdk_42_method_151_code 10 = .ok (.iload_n 2, 1) := by decide +kernel
theorem own_dsib_11 : decode jdk_42_method_151_code 11 = .ok (.putfield 15, 3) := by decide +kernel
theorem own_dsib_14 : decode jdk_42_method_151_code 14 = .ok (.return_, 1) := by decide +kernel
theorem own_efsib (m : MethodId) (x0 : Addr) (x1 : Addr) (x2 : Int32) : entryFrame m #[(.ref x0), (.ref x1), (.int x2)] 3 = mkF m 0 #[rv x0, rv x1, iv x2] [] := by first | (simp [entryFrame, mkF, argsToLocals, Value.category]; done) | rfl
def own_Qsib (Z : State) (a1 : Addr) (a2 : Addr) (h0 : Heap) (n0 : Nat) : Option Value → Heap → List Loc → Prop := fun v h L => v = none ∧ Fr n0 L ∧ Keep h0 h [a1] ∧ Exa Z h a1 "java/lang/String" ∧ Fld Z h a1 "java/lang/String" "coder" "B" (.int 0) ∧ Fld Z h a1 "java/lang/String" "value" "[B" (.ref a2)
def own_Rsib : Room := { frames := 1, cells := 0, slots := 0, locals := 12 }
set_option maxRecDepth 65536 in
set_option maxHeartbeats 40000000 in
theorem own_rmsib (l : Launch) (Z : State) (a0 : Array Value) (hw : ∀ d ∈ tables_1, d.before a0 Z = true) (ws : List Jvm.Cond) (a1 : Addr) (a2 : Addr) (h0 : Heap) (n0 : Nat) (Z0 : n0 ≤ h0.size) (g_a1 : n0 ≤ a1) (E1 : Exa Z h0 a1 "java/lang/String") (C1 : Fld Z h0 a1 "java/lang/String" "coder" "B" (.int 0)) (W1 : Fld Z h0 a1 "java/lang/String" "value" "[B" .null) :
    own_Met l Z own_y7 jdk_42_method_151_code 3 none ws own_Rsib h0 #[(.ref a1), (.ref a2), (.int 0)] (own_Qsib Z a1 a2 h0 n0) own_Rsib.cells own_Rsib.slots := by
  refine own_start (plainFor_of_name own_pn1) ?_
  intro p e s m below meth c s₁ X0 hx hZ hby hml hret hlk hown hnm e0
  have hown : s.vm.findClass "java/lang/String" = some m.cls := hown
  have hml : c.maxLocals = 3 := hml
  have N0 := Fr.nil n0
  refine own_cast (own_efsib m a1 a2 (0 : Int32)) ?_
  refine own_s s₁ (mkF m 1 #[rv a1, rv a2, iv 0] [(.ref a1)]) (fun _ k => XS.aloadN X0.here hx rfl (hb hby own_dsib_0) rfl rfl k) ?_
  obtain ⟨T1, X1, e1, st1⟩ := initO X0 hx hZ hown (own_h hw 15 rfl) (own_h hw 16 rfl) (own_h hw 17 rfl) e0 (g := (mkF m 1 #[rv a1, rv a2, iv 0] [(.ref a1)])) rfl (by rw [hml]; rfl) rfl (hb hby own_dsib_1) (by decide) (W := 0) (by show 2 * 0 + _ ≤ _; exact Nat.le_of_eq rfl) (by decide)
  refine own_s T1 (mkF m 4 #[rv a1, rv a2, iv 0] []) st1 ?_
  refine own_s T1 (mkF m 6 #[rv a1, rv a2, iv 0] [(.ref a2), (.ref a1)]) (fun _ k => XS.aloadN X1.here hx rfl (hb hby own_dsib_4) rfl rfl (XS.aloadN X1.here hx rfl (hb hby own_dsib_5) rfl rfl k)) ?_
  obtain ⟨T2, h2, X2, e2, W2, st2⟩ := putF X1 hx hZ hown (host := "") (Or.inl (own_h hw 24 rfl)) Via.refl e1 W1 E1 (Or.inr ⟨(own_h hw 20 rfl), rfl, hnm⟩) (own_h hw 5 rfl) (ty := (.array .byte)) (by decide) rfl rfl (g := (mkF m 6 #[rv a1, rv a2, iv 0] [(.ref a2), (.ref a1)])) rfl rfl (hb hby own_dsib_6)
  have Fw2 := Fld.same W2 W1
  have f3 := Exa.wr W2 E1
  have f4 := Fld.other W2 C1 (Or.inr (slot_ne (Or.inr (own_h hw 21 rfl)) (Or.inr (own_h hw 20 rfl)) (by decide) (t := .byte) (t' := (.array .byte)) (by decide) (by decide)))
  have K2 : Keep h0 h2 [a1] := (Keep.refl h0 [a1]).wr W2 (Or.inl (List.mem_of_getElem? (i := 0) rfl))
  have Z2 := Nat.le_trans Z0 (Nat.le_of_eq W2.size.symm)
  have N2 := Fr.snoc X2 N0 g_a1
  refine own_s T2 (mkF m 9 #[rv a1, rv a2, iv 0] []) st2 ?_
  refine own_s T2 (mkF m 11 #[rv a1, rv a2, iv 0] [(.int 0), (.ref a1)]) (fun _ k => XS.aloadN X2.here hx rfl (hb hby own_dsib_9) rfl rfl (XS.iloadN X2.here hx rfl (hb hby own_dsib_10) rfl  k)) ?_
  obtain ⟨T5, h5, X5, e5, W5, st5⟩ := putFN X2 hx hZ hown (own_h hw 25 rfl) Via.refl e2 f4 f3 (Or.inr ⟨(own_h hw 21 rfl), rfl, hnm⟩) (own_h hw 5 rfl) (ty := .byte) (v' := (.int 0)) (by decide) rfl rfl (g := (mkF m 11 #[rv a1, rv a2, iv 0] [(.int 0), (.ref a1)])) rfl rfl (hb hby own_dsib_11)
  have Fw5 := Fld.same W5 f4
  have f6 := Exa.wr W5 f3
  have f7 := Fld.other W5 Fw2 (Or.inr (slot_ne (Or.inr (own_h hw 20 rfl)) (Or.inr (own_h hw 21 rfl)) (by decide) (t := (.array .byte)) (t' := .byte) (by decide) (by decide)))
  have K5 : Keep h0 h5 [a1] := K2.wr W5 (Or.inl (List.mem_of_getElem? (i := 0) rfl))
  have Z5 := Nat.le_trans Z2 (Nat.le_of_eq W5.size.symm)
  have N5 := Fr.snoc X5 N2 g_a1
  refine own_s T5 (mkF m 14 #[rv a1, rv a2, iv 0] []) st5 ?_
  exact own_finV X5 hx hret (hb hby own_dsib_14) (own_end (Qv := (own_Qsib Z a1 a2 h0 n0)) X5 (fun _ => rfl) hlk (by decide) (by decide) e5 ⟨rfl, N5, K5, f6, Fw5, f7⟩)
theorem own_pd4 : parseMethodDescriptor "(C)Z" = some ⟨[.char], some .boolean⟩ := by decide +kernel
theorem own_pd5 : parseMethodDescriptor "(C)[B" = some ⟨[.char], some (.array .byte)⟩ := by decide +kernel
theorem own_pd6 : parseMethodDescriptor "([BB)V" = some ⟨[(.array .byte), .byte], none⟩ := by decide +kernel
abbrev own_y8 : MethodName := ⟨"java/lang/String", "valueOf", "(C)Ljava/lang/String;"⟩
theorem own_dvof_0 : decode jdk_42_method_139_code 0 = .ok (.getstatic 38, 3) := by decide +kernel
theorem own_dvof_3 : decode jdk_42_method_139_code 3 = .ok (.ifCond .eq 23, 3) := by decide +kernel
theorem own_dvof_6 : decode jdk_42_method_139_code 6 = .ok (.iload_n 0, 1) := by decide +kernel
theorem own_dvof_7 : decode jdk_42_method_139_code 7 = .ok (.invokestatic 1015, 3) := by decide +kernel
theorem own_dvof_10 : decode jdk_42_method_139_code 10 = .ok (.ifCond .eq 16, 3) := by decide +kernel
theorem own_dvof_13 : decode jdk_42_method_139_code 13 = .ok (.new 10, 3) := by decide +kernel
theorem own_dvof_16 : decode jdk_42_method_139_code 16 = .ok (.dup, 1) := by decide +kernel
theorem own_dvof_17 : decode jdk_42_method_139_code 17 = .ok (.iload_n 0, 1) := by decide +kernel
theorem own_dvof_18 : decode jdk_42_method_139_code 18 = .ok (.invokestatic 1018, 3) := by decide +kernel
theorem own_dvof_21 : decode jdk_42_method_139_code 21 = .ok (.iconst 0, 1) := by decide +kernel
theorem own_dvof_22 : decode jdk_42_method_139_code 22 = .ok (.invokespecial 209, 3) := by decide +kernel
theorem own_dvof_25 : decode jdk_42_method_139_code 25 = .ok (.areturn, 1) := by decide +kernel
theorem own_efvof (m : MethodId) (x0 : Int32) : entryFrame m #[(.int x0)] 1 = mkF m 0 #[iv x0] [] := by first | (simp [entryFrame, mkF, argsToLocals, Value.category]; done) | rfl
def own_Qvof (Z : State) (p1 : Int32) (gC : Int32) (h0 : Heap) (n0 : Nat) : Option Value → Heap → List Loc → Prop := fun v h L => (∃ (a b : Addr) (k : ClassId), v = some (.ref a) ∧ n0 ≤ a ∧ h0.size ≤ a ∧ n0 ≤ b ∧ h0.size ≤ b ∧ Exa Z h a "java/lang/String" ∧ Fld Z h a "java/lang/String" "coder" "B" (.int 0) ∧ Fld Z h a "java/lang/String" "value" "[B" (.ref b) ∧ Arv Z h b k .byte (1 : Int32) [(.int (own_by p1))] (.int 0)) ∧ Fr n0 L ∧ Keep h0 h []
def own_Rvof : Room := { frames := 2, cells := 2, slots := 5, locals := 27 }
set_option maxRecDepth 65536 in
set_option maxHeartbeats 40000000 in
theorem own_rmvof (l : Launch) (Z : State) (a0 : Array Value) (hw : ∀ d ∈ tables_1, d.before a0 Z = true) (ws : List Jvm.Cond) (p1 : Int32) (gC : Int32) (h0 : Heap) (n0 : Nat) (Z0 : n0 ≤ h0.size) (hc : ¬ (255 : Int32) < p1) (SC : Sta Z h0 "java/lang/String" "COMPACT_STRINGS" "Z" (.int gC)) (hG : ¬ gC = (0 : Int32)) :
    own_Met l Z own_y8 jdk_42_method_139_code 1 (some (.object "java/lang/String")) ws own_Rvof h0 #[(.int p1)] (own_Qvof Z p1 gC h0 n0) own_Rvof.cells own_Rvof.slots := by
  refine own_start (plainFor_of_name own_pn1) ?_
  intro p e s m below meth c s₁ X0 hx hZ hby hml hret hlk hown hnm e0
  have hown : s.vm.findClass "java/lang/String" = some m.cls := hown
  have hml : c.maxLocals = 1 := hml
  have N0 := Fr.nil n0
  refine own_cast (own_efvof m p1) ?_
  obtain ⟨T1, X1, e1, st1⟩ := getS2 X0 hx hZ hown (host := "") (Or.inl (own_h hw 26 rfl)) Via.refl e0 SC (g := (mkF m 0 #[iv p1] [])) rfl (hb hby own_dvof_0)
  refine own_s T1 (mkF m 3 #[iv p1] [(.int gC)]) st1 ?_
  refine own_s T1 (mkF m 7 #[iv p1] [(.int p1)]) (fun _ k => XS.ifNo X1.here hx rfl (hb hby own_dvof_3) rfl ((if0 _ _).trans (feq hG).1) (XS.iloadN X1.here hx rfl (hb hby own_dvof_6) rfl  k)) ?_
  obtain ⟨v2, T2, L2, X2, hQ2, st2⟩ := own_callS X1 hx hZ (y := own_y5) (W := 0) hown (own_h hw 158 rfl) (own_h hw 159 rfl) (own_h hw 160 rfl) (own_h hw 161 rfl) (by decide) (own_rmcan l Z a0 hw [] p1 h0 n0 Z0 hc) (by decide) (by decide) (g := (mkF m 7 #[iv p1] [(.int p1)])) rfl (by rw [hml]; rfl) (argsL := [(.int p1)]) (rest := []) rfl (lenOf own_pd4 rfl) rfl (by show 2 * 0 + _ ≤ _; exact Nat.le_of_eq rfl) (hb hby own_dvof_7) e1 (by decide) (by decide)
  obtain ⟨rfl, Nq2, e2⟩ := hQ2
  have N2 := Fr.app N0 Nq2
  refine own_s T2 (mkF m 10 #[iv p1] [(.int 1)]) st2 ?_
  refine own_s T2 (mkF m 13 #[iv p1] []) (fun _ k => XS.ifNo X2.here hx rfl (hb hby own_dvof_10) rfl ((if0 _ _).trans (feq (by decide : ¬ ((1 : Int32) = (0 : Int32)))).1) k) ?_
  obtain ⟨T3, h3, X3, e3, E3, A3, D3, -, st3⟩ := newO X2 hx hZ hown (own_h hw 162 rfl) (own_h hw 5 rfl) (own_h hw 6 rfl) e2 (g := (mkF m 13 #[iv p1] [])) rfl (hb hby own_dvof_13) (by decide) (by decide)
  obtain ⟨b3, g3⟩ : ∃ z, z = h0.size := ⟨_, rfl⟩
  have g_b3 : n0 ≤ b3 := Nat.le_trans Z0 (Nat.le_of_eq g3.symm)
  have sz_b3 : h0.size ≤ b3 := Nat.le_trans (Keep.refl h0 []).1 (Nat.le_of_eq g3.symm)
  rw [← g3] at A3 D3 st3
  have f4 := Sta.ext E3 SC
  have K3 : Keep h0 h3 [] := (Keep.refl h0 []).ext E3
  have Z3 := Nat.le_trans Z0 E3.1
  have f5 : Fld Z h3 b3 "java/lang/String" "value" "[B" .null := D3 (Or.inr (own_h hw 20 rfl)) (ty := (.array .byte)) (by decide)
  have f6 : Fld Z h3 b3 "java/lang/String" "coder" "B" (.int 0) := D3 (Or.inr (own_h hw 21 rfl)) (ty := .byte) (by decide)
  refine own_s T3 (mkF m 16 #[iv p1] [(.ref b3)]) st3 ?_
  refine own_s T3 (mkF m 18 #[iv p1] [(.int p1), (.ref b3), (.ref b3)]) (fun _ k => XS.dup X3.here hx rfl (hb hby own_dvof_16) rfl rfl (XS.iloadN X3.here hx rfl (hb hby own_dvof_17) rfl  k)) ?_
  obtain ⟨v7, T7, L7, X7, hQ7, st7⟩ := own_callS X3 hx hZ (y := own_y6) (W := 2) hown (own_h hw 163 rfl) (own_h hw 164 rfl) (own_h hw 160 rfl) (own_h hw 165 rfl) (by decide) (own_rmtob l Z a0 hw [] p1 h3 n0 Z3) (by decide) (by decide) (g := (mkF m 18 #[iv p1] [(.int p1), (.ref b3), (.ref b3)])) rfl (by rw [hml]; rfl) (argsL := [(.int p1)]) (rest := [(.ref b3), (.ref b3)]) rfl (lenOf own_pd5 rfl) rfl (by show 2 * 0 + _ ≤ _; exact Nat.le_of_eq rfl) (hb hby own_dvof_18) e3 (by decide) (by decide)
  obtain ⟨⟨b7, k7, rfl, g_b7, sq7, Vq7⟩, Nq7, Kq7⟩ := hQ7
  have N7 := Fr.app N2 Nq7
  have ne_b3_b7 : b3 ≠ b7 := Nat.ne_of_lt (Nat.lt_of_lt_of_le A3.lt sq7)
  have sz_b7 : h0.size ≤ b7 := Nat.le_trans K3.1 sq7
  have f8 := own_staKeep f4 Kq7
  have f9 := A3.keep Kq7
  have f10 := f5.keep Kq7 nin0
  have f11 := f6.keep Kq7 nin0
  have K7 : Keep h0 T7.heap [] := K3.trans Kq7 all0
  have Z7 := Nat.le_trans Z3 Kq7.1
  refine own_s T7 (mkF m 21 #[iv p1] [(.ref b7), (.ref b3), (.ref b3)]) st7 ?_
  refine own_s T7 (mkF m 22 #[iv p1] [(.int 0), (.ref b7), (.ref b3), (.ref b3)]) (fun _ k => XS.iconst X7.here hx rfl (hb hby own_dvof_21) k) ?_
  obtain ⟨v12, T12, L12, X12, hQ12, st12⟩ := own_callI X7 hx hZ (y := own_y7) (W := 1) (a := b3) rfl hown (own_h hw 166 rfl) (own_h hw 167 rfl) (own_h hw 6 rfl) (own_h hw 168 rfl) (by decide) (own_rmsib l Z a0 hw [] b3 b7 T7.heap n0 Z7 g_b3 f9 f11 f10) (by decide) (by decide) (g := (mkF m 22 #[iv p1] [(.int 0), (.ref b7), (.ref b3), (.ref b3)])) rfl (by rw [hml]; rfl) (argsL := [(.ref b7), (.int 0)]) (rest := [(.ref b3)]) rfl (lenOf own_pd6 rfl) rfl (by show 2 * 0 + _ ≤ _; exact Nat.le_of_eq rfl) (hb hby own_dvof_22) rfl (by decide) (by decide)
  obtain ⟨rfl, Nq12, Kq12, Eq12, Cq12, Wq12⟩ := hQ12
  have N12 := Fr.app N7 Nq12
  have f13 := own_staKeepW f8 Kq12 (allS f9.nostat all0)
  have f14 := Vq7.keep Kq12 (ninS (Ne.symm ne_b3_b7) nin0)
  have K12 : Keep h0 T12.heap [] := K7.trans Kq12 (allS (Or.inr sz_b3) all0)
  have Z12 := Nat.le_trans Z7 Kq12.1
  refine own_s T12 (mkF m 25 #[iv p1] [(.ref b3)]) st12 ?_
  exact own_finA X12 hx hret rfl rfl (hb hby own_dvof_25) (own_end (Qv := (own_Qvof Z p1 gC h0 n0)) X12 (own_some hret) hlk (by decide) (by decide) rfl ⟨⟨b3, b7, _, rfl, g_b3, sz_b3, g_b7, sz_b7, Eq12, Cq12, Wq12, f14⟩, N12, K12⟩)
theorem own_pd7 : parseMethodDescriptor "([C)V" = some ⟨[(.array .char)], none⟩ := by decide +kernel
theorem own_pd8 : parseMethodDescriptor "(C)Ljava/lang/String;" = some ⟨[.char], some (.object "java/lang/String")⟩ := by decide +kernel
abbrev own_y9 : MethodName := ⟨"com/example/tagwright/tagwright/DefinitionWithIdPinLaw", "str", "(I)Ljava/lang/String;"⟩
theorem own_pn3 : plainName "com/example/tagwright/tagwright/DefinitionWithIdPinLaw" = true := by first | (simp [plainName, overriddenIn]; done) | decide +kernel
theorem own_dstr_0 : decode method_2_code 0 = .ok (.iload_n 0, 1) := by decide +kernel
theorem own_dstr_1 : decode method_2_code 1 = .ok (.iconst 3, 1) := by decide +kernel
theorem own_dstr_2 : decode method_2_code 2 = .ok (.iand, 1) := by decide +kernel
theorem own_dstr_3 : decode method_2_code 3 = .ok (.istore_n 1, 1) := by decide +kernel
theorem own_dstr_4 : decode method_2_code 4 = .ok (.iload_n 0, 1) := by decide +kernel
theorem own_dstr_5 : decode method_2_code 5 = .ok (.iconst 2, 1) := by decide +kernel
theorem own_dstr_6 : decode method_2_code 6 = .ok (.iushr, 1) := by decide +kernel
theorem own_dstr_7 : decode method_2_code 7 = .ok (.sipush 255, 3) := by decide +kernel
theorem own_dstr_10 : decode method_2_code 10 = .ok (.iand, 1) := by decide +kernel
theorem own_dstr_11 : decode method_2_code 11 = .ok (.i2c, 1) := by decide +kernel
theorem own_dstr_12 : decode method_2_code 12 = .ok (.istore_n 2, 1) := by decide +kernel
theorem own_dstr_13 : decode method_2_code 13 = .ok (.iload_n 0, 1) := by decide +kernel
theorem own_dstr_14 : decode method_2_code 14 = .ok (.bipush 10, 2) := by decide +kernel
theorem own_dstr_16 : decode method_2_code 16 = .ok (.iushr, 1) := by decide +kernel
theorem own_dstr_17 : decode method_2_code 17 = .ok (.sipush 255, 3) := by decide +kernel
theorem own_dstr_20 : decode method_2_code 20 = .ok (.iand, 1) := by decide +kernel
theorem own_dstr_21 : decode method_2_code 21 = .ok (.i2c, 1) := by decide +kernel
theorem own_dstr_22 : decode method_2_code 22 = .ok (.istore_n 3, 1) := by decide +kernel
theorem own_dstr_23 : decode method_2_code 23 = .ok (.iload_n 1, 1) := by decide +kernel
theorem own_dstr_24 : decode method_2_code 24 = .ok (.iconst 3, 1) := by decide +kernel
theorem own_dstr_25 : decode method_2_code 25 = .ok (.if_icmp .ne 5, 3) := by decide +kernel
theorem own_dstr_28 : decode method_2_code 28 = .ok (.aconst_null, 1) := by decide +kernel
theorem own_dstr_29 : decode method_2_code 29 = .ok (.areturn, 1) := by decide +kernel
theorem own_dstr_30 : decode method_2_code 30 = .ok (.iload_n 1, 1) := by decide +kernel
theorem own_dstr_31 : decode method_2_code 31 = .ok (.ifCond .ne 14, 3) := by decide +kernel
theorem own_dstr_34 : decode method_2_code 34 = .ok (.new 7, 3) := by decide +kernel
theorem own_dstr_37 : decode method_2_code 37 = .ok (.dup, 1) := by decide +kernel
theorem own_dstr_38 : decode method_2_code 38 = .ok (.iconst 0, 1) := by decide +kernel
theorem own_dstr_39 : decode method_2_code 39 = .ok (.newarray .char, 2) := by decide +kernel
theorem own_dstr_41 : decode method_2_code 41 = .ok (.invokespecial 9, 3) := by decide +kernel
theorem own_dstr_44 : decode method_2_code 44 = .ok (.areturn, 1) := by decide +kernel
theorem own_dstr_45 : decode method_2_code 45 = .ok (.iload_n 1, 1) := by decide +kernel
theorem own_dstr_46 : decode method_2_code 46 = .ok (.iconst 1, 1) := by decide +kernel
theorem own_dstr_47 : decode method_2_code 47 = .ok (.if_icmp .ne 8, 3) := by decide +kernel
theorem own_dstr_50 : decode method_2_code 50 = .ok (.iload_n 2, 1) := by decide +kernel
theorem own_dstr_51 : decode method_2_code 51 = .ok (.invokestatic 12, 3) := by decide +kernel
theorem own_dstr_54 : decode method_2_code 54 = .ok (.areturn, 1) := by decide +kernel
theorem own_dstr_55 : decode method_2_code 55 = .ok (.iconst 2, 1) := by decide +kernel
theorem own_dstr_56 : decode method_2_code 56 = .ok (.newarray .char, 2) := by decide +kernel
theorem own_dstr_58 : decode method_2_code 58 = .ok (.dup, 1) := by decide +kernel
theorem own_dstr_59 : decode method_2_code 59 = .ok (.iconst 0, 1) := by decide +kernel
theorem own_dstr_60 : decode method_2_code 60 = .ok (.iload_n 2, 1) := by decide +kernel
theorem own_dstr_61 : decode method_2_code 61 = .ok (.castore, 1) := by decide +kernel
theorem own_dstr_62 : decode method_2_code 62 = .ok (.dup, 1) := by decide +kernel
theorem own_dstr_63 : decode method_2_code 63 = .ok (.iconst 1, 1) := by decide +kernel
theorem own_dstr_64 : decode method_2_code 64 = .ok (.iload_n 3, 1) := by decide +kernel
theorem own_dstr_65 : decode method_2_code 65 = .ok (.castore, 1) := by decide +kernel
theorem own_dstr_66 : decode method_2_code 66 = .ok (.astore 4, 2) := by decide +kernel
theorem own_dstr_68 : decode method_2_code 68 = .ok (.new 7, 3) := by decide +kernel
theorem own_dstr_71 : decode method_2_code 71 = .ok (.dup, 1) := by decide +kernel
theorem own_dstr_72 : decode method_2_code 72 = .ok (.aload 4, 2) := by decide +kernel
theorem own_dstr_74 : decode method_2_code 74 = .ok (.invokespecial 9, 3) := by decide +kernel
theorem own_dstr_77 : decode method_2_code 77 = .ok (.areturn, 1) := by decide +kernel
theorem own_efstr (m : MethodId) (x0 : Int32) : entryFrame m #[(.int x0)] 5 = mkF m 0 #[iv x0, u_, u_, u_, u_] [] := by first | (simp [entryFrame, mkF, argsToLocals, Value.category]; done) | rfl
def own_Qstr (Z : State) (p1 : Int32) (gC : Int32) (h0 : Heap) (n0 : Nat) : Option Value → Heap → Vm → List Loc → Prop := fun v h vm L => (∃ w, v = some w ∧ w.isRef = true) ∧ Fr n0 L ∧ Keep h0 h [] ∧ own_EL Z vm h
def own_Rstr : Room := { frames := 4, cells := 4, slots := 8, locals := 66 }
set_option maxRecDepth 65536 in
set_option maxHeartbeats 40000000 in
theorem own_rmstr (l : Launch) (Z : State) (a0 : Array Value) (hw : ∀ d ∈ tables_1, d.before a0 Z = true) (ws : List Jvm.Cond) (p1 : Int32) (gC : Int32) (h0 : Heap) (n0 : Nat) (Z0 : n0 ≤ h0.size) (SC : Sta Z h0 "java/lang/String" "COMPACT_STRINGS" "Z" (.int gC)) (hG : ¬ gC = (0 : Int32)) (hO : Old Z n0 h0) (hh : Jvm.Lit.constHeld Z "java/lang/String" 7) (hcw : Jvm.Lit.compactW.before a0 Z = true) :
    own_MetW l Z own_y9 method_2_code 5 (some (.object "java/lang/String")) ws own_Rstr h0 (fun vm => own_EL Z vm h0) #[(.int p1)] (own_Qstr Z p1 gC h0 n0) own_Rstr.cells own_Rstr.slots := by
  refine own_startW (plainFor_of_name own_pn3) ?_
  intro p e s m below meth c s₁ X0 hx hZ hby hml hret hlk hown hnm e0 hS hs0 hJ
  have hk0 : 0 ≤ h0.size := Nat.zero_le _
  have hown : s.vm.findClass "com/example/tagwright/tagwright/DefinitionWithIdPinLaw" = some m.cls := hown
  have hml : c.maxLocals = 5 := hml
  have N0 := Fr.nil n0
  refine own_cast (own_efstr m p1) ?_
  refine own_s s₁ (mkF m 5 #[iv p1, iv (p1 &&& (3 : Int32)), u_, u_, u_] [(.int p1)]) (fun _ k => XS.iloadN X0.here hx rfl (hb hby own_dstr_0) rfl  (XS.iconst X0.here hx rfl (hb hby own_dstr_1) (XS.iand X0.here hx rfl (hb hby own_dstr_2) rfl (XS.istoreN X0.here hx rfl (hb hby own_dstr_3) rfl (l' := #[iv p1, iv (p1 &&& (3 : Int32)), u_, u_, u_]) rfl (XS.iloadN X0.here hx rfl (hb hby own_dstr_4) rfl  k))))) ?_
  refine own_s s₁ (mkF m 12 #[iv p1, iv (p1 &&& (3 : Int32)), u_, u_, u_] [(.int ((((p1.toUInt32 >>> ((2 : Int32) &&& 31).toUInt32).toInt32) &&& (255 : Int32)).toUInt32.toUInt16.toUInt32.toInt32))]) (fun _ k => XS.iconst X0.here hx rfl (hb hby own_dstr_5) (XS.iushr X0.here hx rfl (hb hby own_dstr_6) rfl (XS.sipush X0.here hx rfl (hb hby own_dstr_7) (XS.iand X0.here hx rfl (hb hby own_dstr_10) rfl (XS.i2c X0.here hx rfl (hb hby own_dstr_11) rfl k))))) ?_
  refine own_s s₁ (mkF m 20 #[iv p1, iv (p1 &&& (3 : Int32)), iv ((((p1.toUInt32 >>> ((2 : Int32) &&& 31).toUInt32).toInt32) &&& (255 : Int32)).toUInt32.toUInt16.toUInt32.toInt32), u_, u_] [(.int 255), (.int ((p1.toUInt32 >>> ((10 : Int32) &&& 31).toUInt32).toInt32))]) (fun _ k => XS.istoreN X0.here hx rfl (hb hby own_dstr_12) rfl (l' := #[iv p1, iv (p1 &&& (3 : Int32)), iv ((((p1.toUInt32 >>> ((2 : Int32) &&& 31).toUInt32).toInt32) &&& (255 : Int32)).toUInt32.toUInt16.toUInt32.toInt32), u_, u_]) rfl (XS.iloadN X0.here hx rfl (hb hby own_dstr_13) rfl  (XS.bipush X0.here hx rfl (hb hby own_dstr_14) (XS.iushr X0.here hx rfl (hb hby own_dstr_16) rfl (XS.sipush X0.here hx rfl (hb hby own_dstr_17) k))))) ?_
  refine own_s s₁ (mkF m 25 #[iv p1, iv (p1 &&& (3 : Int32)), iv ((((p1.toUInt32 >>> ((2 : Int32) &&& 31).toUInt32).toInt32) &&& (255 : Int32)).toUInt32.toUInt16.toUInt32.toInt32), iv ((((p1.toUInt32 >>> ((10 : Int32) &&& 31).toUInt32).toInt32) &&& (255 : Int32)).toUInt32.toUInt16.toUInt32.toInt32), u_] [(.int 3), (.int (p1 &&& (3 : Int32)))]) (fun _ k => XS.iand X0.here hx rfl (hb hby own_dstr_20) rfl (XS.i2c X0.here hx rfl (hb hby own_dstr_21) rfl (XS.istoreN X0.here hx rfl (hb hby own_dstr_22) rfl (l' := #[iv p1, iv (p1 &&& (3 : Int32)), iv ((((p1.toUInt32 >>> ((2 : Int32) &&& 31).toUInt32).toInt32) &&& (255 : Int32)).toUInt32.toUInt16.toUInt32.toInt32), iv ((((p1.toUInt32 >>> ((10 : Int32) &&& 31).toUInt32).toInt32) &&& (255 : Int32)).toUInt32.toUInt16.toUInt32.toInt32), u_]) rfl (XS.iloadN X0.here hx rfl (hb hby own_dstr_23) rfl  (XS.iconst X0.here hx rfl (hb hby own_dstr_24) k))))) ?_
  by_cases c25 : (p1 &&& (3 : Int32)) = (3 : Int32)
  · refine own_s s₁ (mkF m 29 #[iv p1, iv (p1 &&& (3 : Int32)), iv ((((p1.toUInt32 >>> ((2 : Int32) &&& 31).toUInt32).toInt32) &&& (255 : Int32)).toUInt32.toUInt16.toUInt32.toInt32), iv ((((p1.toUInt32 >>> ((10 : Int32) &&& 31).toUInt32).toInt32) &&& (255 : Int32)).toUInt32.toUInt16.toUInt32.toInt32), u_] [.null]) (fun _ k => XS.icmpNo X0.here hx rfl (hb hby own_dstr_25) rfl (teq c25).2 (XS.aconstNull X0.here hx rfl (hb hby own_dstr_28) k)) ?_
    exact own_finA X0 hx hret rfl rfl (hb hby own_dstr_29) (own_endW (Qv := (own_Qstr Z p1 gC h0 n0)) X0 hS (own_some hret) hlk (by decide) (by decide) e0 hk0 (fun vm' hv' => ⟨⟨_, rfl, rfl⟩, N0, (Keep.refl h0 []), own_ELw (own_ELk hJ (Keep.refl h0 [])) hv'⟩))
  · refine own_s s₁ (mkF m 31 #[iv p1, iv (p1 &&& (3 : Int32)), iv ((((p1.toUInt32 >>> ((2 : Int32) &&& 31).toUInt32).toInt32) &&& (255 : Int32)).toUInt32.toUInt16.toUInt32.toInt32), iv ((((p1.toUInt32 >>> ((10 : Int32) &&& 31).toUInt32).toInt32) &&& (255 : Int32)).toUInt32.toUInt16.toUInt32.toInt32), u_] [(.int (p1 &&& (3 : Int32)))]) (fun _ k => XS.icmpYes X0.here hx rfl (pc0 := 25) (pc' := 30) rfl (hb hby own_dstr_25) rfl (feq c25).2 (by decide) (by decide) (XS.iloadN X0.here hx rfl (hb hby own_dstr_30) rfl  k)) ?_
    by_cases c31 : (p1 &&& (3 : Int32)) = (0 : Int32)
    · refine own_s s₁ (mkF m 34 #[iv p1, iv (p1 &&& (3 : Int32)), iv ((((p1.toUInt32 >>> ((2 : Int32) &&& 31).toUInt32).toInt32) &&& (255 : Int32)).toUInt32.toUInt16.toUInt32.toInt32), iv ((((p1.toUInt32 >>> ((10 : Int32) &&& 31).toUInt32).toInt32) &&& (255 : Int32)).toUInt32.toUInt16.toUInt32.toInt32), u_] []) (fun _ k => XS.ifNo X0.here hx rfl (hb hby own_dstr_31) rfl ((if0 _ _).trans (teq c31).2) k) ?_
      obtain ⟨T1, h1, X1, e1, E1, A1, D1, -, st1⟩ := newO X0 hx hZ hown (own_h hw 4 rfl) (own_h hw 5 rfl) (own_h hw 6 rfl) e0 (g := (mkF m 34 #[iv p1, iv (p1 &&& (3 : Int32)), iv ((((p1.toUInt32 >>> ((2 : Int32) &&& 31).toUInt32).toInt32) &&& (255 : Int32)).toUInt32.toUInt16.toUInt32.toInt32), iv ((((p1.toUInt32 >>> ((10 : Int32) &&& 31).toUInt32).toInt32) &&& (255 : Int32)).toUInt32.toUInt16.toUInt32.toInt32), u_] [])) rfl (hb hby own_dstr_34) (by decide) (by decide)
      obtain ⟨b1, g1⟩ : ∃ z, z = h0.size := ⟨_, rfl⟩
      have g_b1 : n0 ≤ b1 := Nat.le_trans Z0 (Nat.le_of_eq g1.symm)
      have sz_b1 : h0.size ≤ b1 := Nat.le_trans (Keep.refl h0 []).1 (Nat.le_of_eq g1.symm)
      rw [← g1] at A1 D1 st1
      have f2 := Sta.ext E1 SC
      have f3 := Old.ext hO E1
      have K1 : Keep h0 h1 [] := (Keep.refl h0 []).ext E1
      have Z1 := Nat.le_trans Z0 E1.1
      have hk1 := Nat.le_trans hk0 E1.1
      have f4 : Fld Z h1 b1 "java/lang/String" "value" "[B" .null := D1 (Or.inr (own_h hw 20 rfl)) (ty := (.array .byte)) (by decide)
      have f5 : Fld Z h1 b1 "java/lang/String" "coder" "B" (.int 0) := D1 (Or.inr (own_h hw 21 rfl)) (ty := .byte) (by decide)
      refine own_s T1 (mkF m 37 #[iv p1, iv (p1 &&& (3 : Int32)), iv ((((p1.toUInt32 >>> ((2 : Int32) &&& 31).toUInt32).toInt32) &&& (255 : Int32)).toUInt32.toUInt16.toUInt32.toInt32), iv ((((p1.toUInt32 >>> ((10 : Int32) &&& 31).toUInt32).toInt32) &&& (255 : Int32)).toUInt32.toUInt16.toUInt32.toInt32), u_] [(.ref b1)]) st1 ?_
      refine own_s T1 (mkF m 39 #[iv p1, iv (p1 &&& (3 : Int32)), iv ((((p1.toUInt32 >>> ((2 : Int32) &&& 31).toUInt32).toInt32) &&& (255 : Int32)).toUInt32.toUInt16.toUInt32.toInt32), iv ((((p1.toUInt32 >>> ((10 : Int32) &&& 31).toUInt32).toInt32) &&& (255 : Int32)).toUInt32.toUInt16.toUInt32.toInt32), u_] [(.int 0), (.ref b1), (.ref b1)]) (fun _ k => XS.dup X1.here hx rfl (hb hby own_dstr_37) rfl rfl (XS.iconst X1.here hx rfl (hb hby own_dstr_38) k)) ?_
      obtain ⟨T6, h6, k6, X6, e6, E6, A6, st6⟩ := newP X1 hx hZ (own_h hw 7 rfl) e1 (g := (mkF m 39 #[iv p1, iv (p1 &&& (3 : Int32)), iv ((((p1.toUInt32 >>> ((2 : Int32) &&& 31).toUInt32).toInt32) &&& (255 : Int32)).toUInt32.toUInt16.toUInt32.toInt32), iv ((((p1.toUInt32 >>> ((10 : Int32) &&& 31).toUInt32).toInt32) &&& (255 : Int32)).toUInt32.toUInt16.toUInt32.toInt32), u_] [(.int 0), (.ref b1), (.ref b1)])) rfl (hb hby own_dstr_39) rfl (by decide) (cap := 0) (by decide) (by decide) (by decide) (by decide)
      obtain ⟨b6, g6⟩ : ∃ z, z = h1.size := ⟨_, rfl⟩
      have ne_b1_b6 : b1 ≠ b6 := Nat.ne_of_lt (Nat.lt_of_lt_of_le A1.lt (Nat.le_of_eq g6.symm))
      have g_b6 : n0 ≤ b6 := Nat.le_trans Z1 (Nat.le_of_eq g6.symm)
      have sz_b6 : h0.size ≤ b6 := Nat.le_trans K1.1 (Nat.le_of_eq g6.symm)
      rw [← g6] at A6 st6
      have f7 := Sta.ext E6 f2
      have f8 := Old.ext f3 E6
      have f9 := Exa.ext E6 A1
      have f10 := Fld.ext E6 f4
      have f11 := Fld.ext E6 f5
      have K6 : Keep h0 h6 [] := K1.ext E6
      have Z6 := Nat.le_trans Z1 E6.1
      have hk6 := Nat.le_trans hk1 E6.1
      have f6 : Arv Z h6 b6 k6 .char 0 [] (.int 0) := (Arv.new A6 (by decide)).pad (pad_rep [] (.int 0) 0)
      refine own_s T6 (mkF m 41 #[iv p1, iv (p1 &&& (3 : Int32)), iv ((((p1.toUInt32 >>> ((2 : Int32) &&& 31).toUInt32).toInt32) &&& (255 : Int32)).toUInt32.toUInt16.toUInt32.toInt32), iv ((((p1.toUInt32 >>> ((10 : Int32) &&& 31).toUInt32).toInt32) &&& (255 : Int32)).toUInt32.toUInt16.toUInt32.toInt32), u_] [(.ref b6), (.ref b1), (.ref b1)]) st6 ?_
      obtain ⟨v12, T12, L12, X12, hQ12, hS, hg12, hZ, hown, st12⟩ := own_callIW (s := s) X6 hx hZ hS hk6 (y := own_y4) (W := 1) (a := b1) rfl hown (own_h hw 8 rfl) (own_h hw 9 rfl) (own_h hw 6 rfl) (own_h hw 10 rfl) (by decide) (own_rmsi1_0 l Z a0 hw [] b1 b6 k6 h6 n0 Z6 g_b1 f9 f11 f10 f8 hh hcw f6 (Ne.symm ne_b1_b6)) (fun vm' hv => own_ELw (own_ELk hJ K6) hv) (by decide) (by decide) (g := (mkF m 41 #[iv p1, iv (p1 &&& (3 : Int32)), iv ((((p1.toUInt32 >>> ((2 : Int32) &&& 31).toUInt32).toInt32) &&& (255 : Int32)).toUInt32.toUInt16.toUInt32.toInt32), iv ((((p1.toUInt32 >>> ((10 : Int32) &&& 31).toUInt32).toInt32) &&& (255 : Int32)).toUInt32.toUInt16.toUInt32.toInt32), u_] [(.ref b6), (.ref b1), (.ref b1)])) rfl (by rw [hml]; rfl) (argsL := [(.ref b6)]) (rest := [(.ref b1)]) rfl (lenOf own_pd7 rfl) rfl (by show 2 * 0 + _ ≤ _; exact Nat.le_of_eq rfl) (hb hby own_dstr_41) e6 (by decide) (by decide)
      obtain ⟨rfl, Nq12, Kq12, Eq12, Cq12, ⟨b12, k12, Wq12, Vq12⟩, hJ⟩ := hQ12
      have N12 := Fr.app N0 Nq12
      have f13 := own_staKeepW f7 Kq12 (allS f9.nostat all0)
      have f14 := Old.keep f8 Kq12 (allS g_b1 all0)
      have f15 := f6.keep Kq12 (ninS (Ne.symm ne_b1_b6) nin0)
      have K12 : Keep h0 T12.heap [] := K6.trans Kq12 (allS (Or.inr sz_b1) all0)
      have Z12 := Nat.le_trans Z6 Kq12.1
      refine own_s T12 (mkF m 44 #[iv p1, iv (p1 &&& (3 : Int32)), iv ((((p1.toUInt32 >>> ((2 : Int32) &&& 31).toUInt32).toInt32) &&& (255 : Int32)).toUInt32.toUInt16.toUInt32.toInt32), iv ((((p1.toUInt32 >>> ((10 : Int32) &&& 31).toUInt32).toInt32) &&& (255 : Int32)).toUInt32.toUInt16.toUInt32.toInt32), u_] [(.ref b1)]) st12 ?_
      exact own_finA X12 hx hret rfl rfl (hb hby own_dstr_44) (own_endW (Qv := (own_Qstr Z p1 gC h0 n0)) X12 hS (own_some hret) hlk (by decide) (by decide) rfl (Nat.le_refl _) (fun vm' hv' => ⟨⟨_, rfl, rfl⟩, N12, K12, own_ELw hJ hv'⟩))
    · refine own_s s₁ (mkF m 47 #[iv p1, iv (p1 &&& (3 : Int32)), iv ((((p1.toUInt32 >>> ((2 : Int32) &&& 31).toUInt32).toInt32) &&& (255 : Int32)).toUInt32.toUInt16.toUInt32.toInt32), iv ((((p1.toUInt32 >>> ((10 : Int32) &&& 31).toUInt32).toInt32) &&& (255 : Int32)).toUInt32.toUInt16.toUInt32.toInt32), u_] [(.int 1), (.int (p1 &&& (3 : Int32)))]) (fun _ k => XS.ifYes X0.here hx rfl (pc0 := 31) (pc' := 45) rfl (hb hby own_dstr_31) rfl ((if0 _ _).trans (feq c31).2) (by decide) (by decide) (XS.iloadN X0.here hx rfl (hb hby own_dstr_45) rfl  (XS.iconst X0.here hx rfl (hb hby own_dstr_46) k))) ?_
      by_cases c47 : (p1 &&& (3 : Int32)) = (1 : Int32)
      · refine own_s s₁ (mkF m 51 #[iv p1, iv (p1 &&& (3 : Int32)), iv ((((p1.toUInt32 >>> ((2 : Int32) &&& 31).toUInt32).toInt32) &&& (255 : Int32)).toUInt32.toUInt16.toUInt32.toInt32), iv ((((p1.toUInt32 >>> ((10 : Int32) &&& 31).toUInt32).toInt32) &&& (255 : Int32)).toUInt32.toUInt16.toUInt32.toInt32), u_] [(.int ((((p1.toUInt32 >>> ((2 : Int32) &&& 31).toUInt32).toInt32) &&& (255 : Int32)).toUInt32.toUInt16.toUInt32.toInt32))]) (fun _ k => XS.icmpNo X0.here hx rfl (hb hby own_dstr_47) rfl (teq c47).2 (XS.iloadN X0.here hx rfl (hb hby own_dstr_50) rfl  k)) ?_
        obtain ⟨v16, T16, L16, X16, hQ16, st16⟩ := own_callS X0 hx hZ (y := own_y8) (W := 0) hown (own_h hw 155 rfl) (own_h hw 156 rfl) (own_h hw 6 rfl) (own_h hw 157 rfl) (by decide) (own_rmvof l Z a0 hw [] ((((p1.toUInt32 >>> ((2 : Int32) &&& 31).toUInt32).toInt32) &&& (255 : Int32)).toUInt32.toUInt16.toUInt32.toInt32) gC h0 n0 Z0 (own_d255 _) SC hG) (by decide) (by decide) (g := (mkF m 51 #[iv p1, iv (p1 &&& (3 : Int32)), iv ((((p1.toUInt32 >>> ((2 : Int32) &&& 31).toUInt32).toInt32) &&& (255 : Int32)).toUInt32.toUInt16.toUInt32.toInt32), iv ((((p1.toUInt32 >>> ((10 : Int32) &&& 31).toUInt32).toInt32) &&& (255 : Int32)).toUInt32.toUInt16.toUInt32.toInt32), u_] [(.int ((((p1.toUInt32 >>> ((2 : Int32) &&& 31).toUInt32).toInt32) &&& (255 : Int32)).toUInt32.toUInt16.toUInt32.toInt32))])) rfl (by rw [hml]; rfl) (argsL := [(.int ((((p1.toUInt32 >>> ((2 : Int32) &&& 31).toUInt32).toInt32) &&& (255 : Int32)).toUInt32.toUInt16.toUInt32.toInt32))]) (rest := []) rfl (lenOf own_pd8 rfl) rfl (by show 2 * 0 + _ ≤ _; exact Nat.le_of_eq rfl) (hb hby own_dstr_51) e0 (by decide) (by decide)
        obtain ⟨⟨b16, d16, k16, rfl, g_b16, sq16, g_d16, sr16, Eq16, Cq16, Wq16, Vq16⟩, Nq16, Kq16⟩ := hQ16
        have N16 := Fr.app N0 Nq16
        have sz_b16 : h0.size ≤ b16 := Nat.le_trans (Keep.refl h0 []).1 sq16
        have sz_d16 : h0.size ≤ d16 := Nat.le_trans (Keep.refl h0 []).1 sr16
        have f17 := own_staKeep SC Kq16
        have f18 := Old.keep hO Kq16 all0
        have K16 : Keep h0 T16.heap [] := (Keep.refl h0 []).trans Kq16 all0
        have Z16 := Nat.le_trans Z0 Kq16.1
        have hk16 := Nat.le_trans hk0 Kq16.1
        refine own_s T16 (mkF m 54 #[iv p1, iv (p1 &&& (3 : Int32)), iv ((((p1.toUInt32 >>> ((2 : Int32) &&& 31).toUInt32).toInt32) &&& (255 : Int32)).toUInt32.toUInt16.toUInt32.toInt32), iv ((((p1.toUInt32 >>> ((10 : Int32) &&& 31).toUInt32).toInt32) &&& (255 : Int32)).toUInt32.toUInt16.toUInt32.toInt32), u_] [(.ref b16)]) st16 ?_
        exact own_finA X16 hx hret rfl rfl (hb hby own_dstr_54) (own_endW (Qv := (own_Qstr Z p1 gC h0 n0)) X16 hS (own_some hret) hlk (by decide) (by decide) rfl hk16 (fun vm' hv' => ⟨⟨_, rfl, rfl⟩, N16, K16, own_ELw (own_ELk hJ K16) hv'⟩))
      · refine own_s s₁ (mkF m 56 #[iv p1, iv (p1 &&& (3 : Int32)), iv ((((p1.toUInt32 >>> ((2 : Int32) &&& 31).toUInt32).toInt32) &&& (255 : Int32)).toUInt32.toUInt16.toUInt32.toInt32), iv ((((p1.toUInt32 >>> ((10 : Int32) &&& 31).toUInt32).toInt32) &&& (255 : Int32)).toUInt32.toUInt16.toUInt32.toInt32), u_] [(.int 2)]) (fun _ k => XS.icmpYes X0.here hx rfl (pc0 := 47) (pc' := 55) rfl (hb hby own_dstr_47) rfl (feq c47).2 (by decide) (by decide) (XS.iconst X0.here hx rfl (hb hby own_dstr_55) k)) ?_
        obtain ⟨T19, h19, k19, X19, e19, E19, A19, st19⟩ := newP X0 hx hZ (own_h hw 7 rfl) e0 (g := (mkF m 56 #[iv p1, iv (p1 &&& (3 : Int32)), iv ((((p1.toUInt32 >>> ((2 : Int32) &&& 31).toUInt32).toInt32) &&& (255 : Int32)).toUInt32.toUInt16.toUInt32.toInt32), iv ((((p1.toUInt32 >>> ((10 : Int32) &&& 31).toUInt32).toInt32) &&& (255 : Int32)).toUInt32.toUInt16.toUInt32.toInt32), u_] [(.int 2)])) rfl (hb hby own_dstr_56) rfl (by decide) (cap := 2) (by decide) (by decide) (by decide) (by decide)
        obtain ⟨b19, g19⟩ : ∃ z, z = h0.size := ⟨_, rfl⟩
        have g_b19 : n0 ≤ b19 := Nat.le_trans Z0 (Nat.le_of_eq g19.symm)
        have sz_b19 : h0.size ≤ b19 := Nat.le_trans (Keep.refl h0 []).1 (Nat.le_of_eq g19.symm)
        rw [← g19] at A19 st19
        have f20 := Sta.ext E19 SC
        have f21 := Old.ext hO E19
        have K19 : Keep h0 h19 [] := (Keep.refl h0 []).ext E19
        have Z19 := Nat.le_trans Z0 E19.1
        have hk19 := Nat.le_trans hk0 E19.1
        have f19 : Arv Z h19 b19 k19 .char 2 [(.int 0), (.int 0)] (.int 0) := (Arv.new A19 (by decide)).pad (pad_rep [] (.int 0) 2)
        refine own_s T19 (mkF m 58 #[iv p1, iv (p1 &&& (3 : Int32)), iv ((((p1.toUInt32 >>> ((2 : Int32) &&& 31).toUInt32).toInt32) &&& (255 : Int32)).toUInt32.toUInt16.toUInt32.toInt32), iv ((((p1.toUInt32 >>> ((10 : Int32) &&& 31).toUInt32).toInt32) &&& (255 : Int32)).toUInt32.toUInt16.toUInt32.toInt32), u_] [(.ref b19)]) st19 ?_
        refine own_s T19 (mkF m 61 #[iv p1, iv (p1 &&& (3 : Int32)), iv ((((p1.toUInt32 >>> ((2 : Int32) &&& 31).toUInt32).toInt32) &&& (255 : Int32)).toUInt32.toUInt16.toUInt32.toInt32), iv ((((p1.toUInt32 >>> ((10 : Int32) &&& 31).toUInt32).toInt32) &&& (255 : Int32)).toUInt32.toUInt16.toUInt32.toInt32), u_] [(.int ((((p1.toUInt32 >>> ((2 : Int32) &&& 31).toUInt32).toInt32) &&& (255 : Int32)).toUInt32.toUInt16.toUInt32.toInt32)), (.int 0), (.ref b19), (.ref b19)]) (fun _ k => XS.dup X19.here hx rfl (hb hby own_dstr_58) rfl rfl (XS.iconst X19.here hx rfl (hb hby own_dstr_59) (XS.iloadN X19.here hx rfl (hb hby own_dstr_60) rfl  k))) ?_
        obtain ⟨cl22, Ar22, q22, S22, Nn22, H22, G22⟩ := id f19
        have hin22 : ¬ ((0 : Int32) < 0 ∨ cl22.slots.size ≤ ((0 : Int32)).toNatClampNeg) := (inb_of S22 ⟨by decide, by decide⟩)
        obtain ⟨T22, h22, X22, e22, W22, st22⟩ := stC X19 hx hZ e19 Ar22 (j := (0 : Int32)) hin22 (g := (mkF m 61 #[iv p1, iv (p1 &&& (3 : Int32)), iv ((((p1.toUInt32 >>> ((2 : Int32) &&& 31).toUInt32).toInt32) &&& (255 : Int32)).toUInt32.toUInt16.toUInt32.toInt32), iv ((((p1.toUInt32 >>> ((10 : Int32) &&& 31).toUInt32).toInt32) &&& (255 : Int32)).toUInt32.toUInt16.toUInt32.toInt32), u_] [(.int ((((p1.toUInt32 >>> ((2 : Int32) &&& 31).toUInt32).toInt32) &&& (255 : Int32)).toUInt32.toUInt16.toUInt32.toInt32)), (.int 0), (.ref b19), (.ref b19)])) rfl rfl (hb hby own_dstr_61)
        have f22 : Arv Z h22 b19 k19 .char (2 : Int32) [(.int (nar .char ((((p1.toUInt32 >>> ((2 : Int32) &&& 31).toUInt32).toInt32) &&& (255 : Int32)).toUInt32.toUInt16.toUInt32.toInt32))), (.int 0)] (.int 0) := Arv.set Ar22 q22 S22 Nn22 H22 G22 (fits_nar_char _) W22 0 rfl (Nat.le_of_ble_eq_true rfl)
        have f23 := Sta.wr W22 f20
        have f24 := Old.wr f21 W22 g_b19
        have K22 : Keep h0 h22 [] := K19.wr W22 (Or.inr sz_b19)
        have Z22 := Nat.le_trans Z19 (Nat.le_of_eq W22.size.symm)
        have hk22 := Nat.le_trans hk19 (Nat.le_of_eq W22.size.symm)
        have N22 := Fr.snoc X22 N0 g_b19
        refine own_s T22 (mkF m 62 #[iv p1, iv (p1 &&& (3 : Int32)), iv ((((p1.toUInt32 >>> ((2 : Int32) &&& 31).toUInt32).toInt32) &&& (255 : Int32)).toUInt32.toUInt16.toUInt32.toInt32), iv ((((p1.toUInt32 >>> ((10 : Int32) &&& 31).toUInt32).toInt32) &&& (255 : Int32)).toUInt32.toUInt16.toUInt32.toInt32), u_] [(.ref b19)]) st22 ?_
        refine own_s T22 (mkF m 65 #[iv p1, iv (p1 &&& (3 : Int32)), iv ((((p1.toUInt32 >>> ((2 : Int32) &&& 31).toUInt32).toInt32) &&& (255 : Int32)).toUInt32.toUInt16.toUInt32.toInt32), iv ((((p1.toUInt32 >>> ((10 : Int32) &&& 31).toUInt32).toInt32) &&& (255 : Int32)).toUInt32.toUInt16.toUInt32.toInt32), u_] [(.int ((((p1.toUInt32 >>> ((10 : Int32) &&& 31).toUInt32).toInt32) &&& (255 : Int32)).toUInt32.toUInt16.toUInt32.toInt32)), (.int 1), (.ref b19), (.ref b19)]) (fun _ k => XS.dup X22.here hx rfl (hb hby own_dstr_62) rfl rfl (XS.iconst X22.here hx rfl (hb hby own_dstr_63) (XS.iloadN X22.here hx rfl (hb hby own_dstr_64) rfl  k))) ?_
        obtain ⟨cl25, Ar25, q25, S25, Nn25, H25, G25⟩ := id f22
        have hin25 : ¬ ((1 : Int32) < 0 ∨ cl25.slots.size ≤ ((1 : Int32)).toNatClampNeg) := (inb_of S25 ⟨by decide, by decide⟩)
        obtain ⟨T25, h25, X25, e25, W25, st25⟩ := stC X22 hx hZ e22 Ar25 (j := (1 : Int32)) hin25 (g := (mkF m 65 #[iv p1, iv (p1 &&& (3 : Int32)), iv ((((p1.toUInt32 >>> ((2 : Int32) &&& 31).toUInt32).toInt32) &&& (255 : Int32)).toUInt32.toUInt16.toUInt32.toInt32), iv ((((p1.toUInt32 >>> ((10 : Int32) &&& 31).toUInt32).toInt32) &&& (255 : Int32)).toUInt32.toUInt16.toUInt32.toInt32), u_] [(.int ((((p1.toUInt32 >>> ((10 : Int32) &&& 31).toUInt32).toInt32) &&& (255 : Int32)).toUInt32.toUInt16.toUInt32.toInt32)), (.int 1), (.ref b19), (.ref b19)])) rfl rfl (hb hby own_dstr_65)
        have f25 : Arv Z h25 b19 k19 .char (2 : Int32) [(.int (nar .char ((((p1.toUInt32 >>> ((2 : Int32) &&& 31).toUInt32).toInt32) &&& (255 : Int32)).toUInt32.toUInt16.toUInt32.toInt32))), (.int (nar .char ((((p1.toUInt32 >>> ((10 : Int32) &&& 31).toUInt32).toInt32) &&& (255 : Int32)).toUInt32.toUInt16.toUInt32.toInt32)))] (.int 0) := Arv.set Ar25 q25 S25 Nn25 H25 G25 (fits_nar_char _) W25 1 rfl (Nat.le_of_ble_eq_true rfl)
        have f26 := Sta.wr W25 f23
        have f27 := Old.wr f24 W25 g_b19
        have K25 : Keep h0 h25 [] := K22.wr W25 (Or.inr sz_b19)
        have Z25 := Nat.le_trans Z22 (Nat.le_of_eq W25.size.symm)
        have hk25 := Nat.le_trans hk22 (Nat.le_of_eq W25.size.symm)
        have N25 := Fr.snoc X25 N22 g_b19
        refine own_s T25 (mkF m 66 #[iv p1, iv (p1 &&& (3 : Int32)), iv ((((p1.toUInt32 >>> ((2 : Int32) &&& 31).toUInt32).toInt32) &&& (255 : Int32)).toUInt32.toUInt16.toUInt32.toInt32), iv ((((p1.toUInt32 >>> ((10 : Int32) &&& 31).toUInt32).toInt32) &&& (255 : Int32)).toUInt32.toUInt16.toUInt32.toInt32), u_] [(.ref b19)]) st25 ?_
        refine own_s T25 (mkF m 68 #[iv p1, iv (p1 &&& (3 : Int32)), iv ((((p1.toUInt32 >>> ((2 : Int32) &&& 31).toUInt32).toInt32) &&& (255 : Int32)).toUInt32.toUInt16.toUInt32.toInt32), iv ((((p1.toUInt32 >>> ((10 : Int32) &&& 31).toUInt32).toInt32) &&& (255 : Int32)).toUInt32.toUInt16.toUInt32.toInt32), rv b19] []) (fun _ k => XS.astore X25.here hx rfl (hb hby own_dstr_66) rfl rfl (l' := #[iv p1, iv (p1 &&& (3 : Int32)), iv ((((p1.toUInt32 >>> ((2 : Int32) &&& 31).toUInt32).toInt32) &&& (255 : Int32)).toUInt32.toUInt16.toUInt32.toInt32), iv ((((p1.toUInt32 >>> ((10 : Int32) &&& 31).toUInt32).toInt32) &&& (255 : Int32)).toUInt32.toUInt16.toUInt32.toInt32), rv b19]) rfl k) ?_
        obtain ⟨T28, h28, X28, e28, E28, A28, D28, -, st28⟩ := newO X25 hx hZ hown (own_h hw 4 rfl) (own_h hw 5 rfl) (own_h hw 6 rfl) e25 (g := (mkF m 68 #[iv p1, iv (p1 &&& (3 : Int32)), iv ((((p1.toUInt32 >>> ((2 : Int32) &&& 31).toUInt32).toInt32) &&& (255 : Int32)).toUInt32.toUInt16.toUInt32.toInt32), iv ((((p1.toUInt32 >>> ((10 : Int32) &&& 31).toUInt32).toInt32) &&& (255 : Int32)).toUInt32.toUInt16.toUInt32.toInt32), rv b19] [])) rfl (hb hby own_dstr_68) (by decide) (by decide)
        obtain ⟨b28, g28⟩ : ∃ z, z = h25.size := ⟨_, rfl⟩
        have ne_b19_b28 : b19 ≠ b28 := Nat.ne_of_lt (Nat.lt_of_lt_of_le f25.lt (Nat.le_of_eq g28.symm))
        have g_b28 : n0 ≤ b28 := Nat.le_trans Z25 (Nat.le_of_eq g28.symm)
        have sz_b28 : h0.size ≤ b28 := Nat.le_trans K25.1 (Nat.le_of_eq g28.symm)
        rw [← g28] at A28 D28 st28
        have f29 := Sta.ext E28 f26
        have f30 := Old.ext f27 E28
        have f31 := f25.ext E28
        have K28 : Keep h0 h28 [] := K25.ext E28
        have Z28 := Nat.le_trans Z25 E28.1
        have hk28 := Nat.le_trans hk25 E28.1
        have f32 : Fld Z h28 b28 "java/lang/String" "value" "[B" .null := D28 (Or.inr (own_h hw 20 rfl)) (ty := (.array .byte)) (by decide)
        have f33 : Fld Z h28 b28 "java/lang/String" "coder" "B" (.int 0) := D28 (Or.inr (own_h hw 21 rfl)) (ty := .byte) (by decide)
        refine own_s T28 (mkF m 71 #[iv p1, iv (p1 &&& (3 : Int32)), iv ((((p1.toUInt32 >>> ((2 : Int32) &&& 31).toUInt32).toInt32) &&& (255 : Int32)).toUInt32.toUInt16.toUInt32.toInt32), iv ((((p1.toUInt32 >>> ((10 : Int32) &&& 31).toUInt32).toInt32) &&& (255 : Int32)).toUInt32.toUInt16.toUInt32.toInt32), rv b19] [(.ref b28)]) st28 ?_
        refine own_s T28 (mkF m 74 #[iv p1, iv (p1 &&& (3 : Int32)), iv ((((p1.toUInt32 >>> ((2 : Int32) &&& 31).toUInt32).toInt32) &&& (255 : Int32)).toUInt32.toUInt16.toUInt32.toInt32), iv ((((p1.toUInt32 >>> ((10 : Int32) &&& 31).toUInt32).toInt32) &&& (255 : Int32)).toUInt32.toUInt16.toUInt32.toInt32), rv b19] [(.ref b19), (.ref b28), (.ref b28)]) (fun _ k => XS.dup X28.here hx rfl (hb hby own_dstr_71) rfl rfl (XS.aload X28.here hx rfl (hb hby own_dstr_72) rfl rfl k)) ?_
        obtain ⟨v34, T34, L34, X34, hQ34, st34⟩ := own_callI X28 hx hZ (y := own_y4) (W := 1) (a := b28) rfl hown (own_h hw 8 rfl) (own_h hw 9 rfl) (own_h hw 6 rfl) (own_h hw 10 rfl) (by decide) (own_rmsi1_2 l Z a0 hw [] b28 b19 k19 gC (nar .char ((((p1.toUInt32 >>> ((2 : Int32) &&& 31).toUInt32).toInt32) &&& (255 : Int32)).toUInt32.toUInt16.toUInt32.toInt32)) (nar .char ((((p1.toUInt32 >>> ((10 : Int32) &&& 31).toUInt32).toInt32) &&& (255 : Int32)).toUInt32.toUInt16.toUInt32.toInt32)) h28 n0 Z28 g_b28 A28 f33 f32 f31 ne_b19_b28 f29 hG (own_c255 _) (own_c255 _)) (by decide) (by decide) (g := (mkF m 74 #[iv p1, iv (p1 &&& (3 : Int32)), iv ((((p1.toUInt32 >>> ((2 : Int32) &&& 31).toUInt32).toInt32) &&& (255 : Int32)).toUInt32.toUInt16.toUInt32.toInt32), iv ((((p1.toUInt32 >>> ((10 : Int32) &&& 31).toUInt32).toInt32) &&& (255 : Int32)).toUInt32.toUInt16.toUInt32.toInt32), rv b19] [(.ref b19), (.ref b28), (.ref b28)])) rfl (by rw [hml]; rfl) (argsL := [(.ref b19)]) (rest := [(.ref b28)]) rfl (lenOf own_pd7 rfl) rfl (by show 2 * 0 + _ ≤ _; exact Nat.le_of_eq rfl) (hb hby own_dstr_74) e28 (by decide) (by decide)
        obtain ⟨rfl, Nq34, Kq34, Eq34, Cq34, b34, k34, g_b34, sq34, Wq34, Vq34⟩ := hQ34
        have N34 := Fr.app N25 Nq34
        have ne_b19_b34 : b19 ≠ b34 := Nat.ne_of_lt (Nat.lt_of_lt_of_le f31.lt sq34)
        have ne_b28_b34 : b28 ≠ b34 := Nat.ne_of_lt (Nat.lt_of_lt_of_le A28.lt sq34)
        have sz_b34 : h0.size ≤ b34 := Nat.le_trans K28.1 sq34
        have f35 := own_staKeepW f29 Kq34 (allS A28.nostat all0)
        have f36 := Old.keep f30 Kq34 (allS g_b28 all0)
        have f37 := f31.keep Kq34 (ninS ne_b19_b28 nin0)
        have K34 : Keep h0 T34.heap [] := K28.trans Kq34 (allS (Or.inr sz_b28) all0)
        have Z34 := Nat.le_trans Z28 Kq34.1
        have hk34 := Nat.le_trans hk28 Kq34.1
        refine own_s T34 (mkF m 77 #[iv p1, iv (p1 &&& (3 : Int32)), iv ((((p1.toUInt32 >>> ((2 : Int32) &&& 31).toUInt32).toInt32) &&& (255 : Int32)).toUInt32.toUInt16.toUInt32.toInt32), iv ((((p1.toUInt32 >>> ((10 : Int32) &&& 31).toUInt32).toInt32) &&& (255 : Int32)).toUInt32.toUInt16.toUInt32.toInt32), rv b19] [(.ref b28)]) st34 ?_
        exact own_finA X34 hx hret rfl rfl (hb hby own_dstr_77) (own_endW (Qv := (own_Qstr Z p1 gC h0 n0)) X34 hS (own_some hret) hlk (by decide) (by decide) rfl hk34 (fun vm' hv' => ⟨⟨_, rfl, rfl⟩, N34, K34, own_ELw (own_ELk hJ K34) hv'⟩))
abbrev own_y10 : MethodName := ⟨"java/lang/Record", "<init>", "()V"⟩
theorem own_pn4 : plainName "java/lang/Record" = true := by first | (simp [plainName, overriddenIn]; done) | decide +kernel
theorem own_drec_0 : decode jdk_30_method_1_code 0 = .ok (.aload_n 0, 1) := by decide +kernel
theorem own_drec_1 : decode jdk_30_method_1_code 1 = .ok (.invokespecial 1, 3) := by decide +kernel
theorem own_drec_4 : decode jdk_30_method_1_code 4 = .ok (.return_, 1) := by decide +kernel
theorem own_efrec (m : MethodId) (x0 : Addr) : entryFrame m #[(.ref x0)] 1 = mkF m 0 #[rv x0] [] := by first | (simp [entryFrame, mkF, argsToLocals, Value.category]; done) | rfl
def own_Qrec (Z : State) (a1 : Addr) (h0 : Heap) (n0 : Nat) : Option Value → Heap → List Loc → Prop := fun v h L => v = none ∧ Fr n0 L ∧ h = h0
def own_Rrec : Room := { frames := 1, cells := 0, slots := 0, locals := 12 }
set_option maxRecDepth 65536 in
set_option maxHeartbeats 40000000 in
theorem own_rmrec (l : Launch) (Z : State) (a0 : Array Value) (hw : ∀ d ∈ tables_1, d.before a0 Z = true) (ws : List Jvm.Cond) (a1 : Addr) (h0 : Heap) (n0 : Nat) (Z0 : n0 ≤ h0.size) :
    own_Met l Z own_y10 jdk_30_method_1_code 1 none ws own_Rrec h0 #[(.ref a1)] (own_Qrec Z a1 h0 n0) own_Rrec.cells own_Rrec.slots := by
  refine own_start (plainFor_of_name own_pn4) ?_
  intro p e s m below meth c s₁ X0 hx hZ hby hml hret hlk hown hnm e0
  have hown : s.vm.findClass "java/lang/Record" = some m.cls := hown
  have hml : c.maxLocals = 1 := hml
  have N0 := Fr.nil n0
  refine own_cast (own_efrec m a1) ?_
  refine own_s s₁ (mkF m 1 #[rv a1] [(.ref a1)]) (fun _ k => XS.aloadN X0.here hx rfl (hb hby own_drec_0) rfl rfl k) ?_
  obtain ⟨T1, X1, e1, st1⟩ := initO X0 hx hZ hown (own_h hw 48 rfl) (own_h hw 16 rfl) (own_h hw 17 rfl) e0 (g := (mkF m 1 #[rv a1] [(.ref a1)])) rfl (by rw [hml]; rfl) rfl (hb hby own_drec_1) (by decide) (W := 0) (by show 2 * 0 + _ ≤ _; exact Nat.le_of_eq rfl) (by decide)
  refine own_s T1 (mkF m 4 #[rv a1] []) st1 ?_
  exact own_finV X1 hx hret (hb hby own_drec_4) (own_end (Qv := (own_Qrec Z a1 h0 n0)) X1 (fun _ => rfl) hlk (by decide) (by decide) e1 ⟨rfl, N0, rfl⟩)
theorem own_pd9 : parseMethodDescriptor "()V" = some ⟨[], none⟩ := by decide +kernel
abbrev own_y11 : MethodName := ⟨"com/example/tagwright/tagwright/NullValue", "<init>", "()V"⟩
theorem own_pn5 : plainName "com/example/tagwright/tagwright/NullValue" = true := by first | (simp [plainName, overriddenIn]; done) | decide +kernel
theorem own_dnv_0 : decode prog_57_method_1_code 0 = .ok (.aload_n 0, 1) := by decide +kernel
theorem own_dnv_1 : decode prog_57_method_1_code 1 = .ok (.invokespecial 1, 3) := by decide +kernel
theorem own_dnv_4 : decode prog_57_method_1_code 4 = .ok (.return_, 1) := by decide +kernel
theorem own_efnv (m : MethodId) (x0 : Addr) : entryFrame m #[(.ref x0)] 1 = mkF m 0 #[rv x0] [] := by first | (simp [entryFrame, mkF, argsToLocals, Value.category]; done) | rfl
def own_Qnv (Z : State) (a1 : Addr) (h0 : Heap) (n0 : Nat) : Option Value → Heap → List Loc → Prop := fun v h L => v = none ∧ Fr n0 L ∧ h = h0
def own_Rnv : Room := { frames := 2, cells := 0, slots := 0, locals := 24 }
set_option maxRecDepth 65536 in
set_option maxHeartbeats 40000000 in
theorem own_rmnv (l : Launch) (Z : State) (a0 : Array Value) (hw : ∀ d ∈ tables_1, d.before a0 Z = true) (ws : List Jvm.Cond) (a1 : Addr) (h0 : Heap) (n0 : Nat) (Z0 : n0 ≤ h0.size) :
    own_Met l Z own_y11 prog_57_method_1_code 1 none ws own_Rnv h0 #[(.ref a1)] (own_Qnv Z a1 h0 n0) own_Rnv.cells own_Rnv.slots := by
  refine own_start (plainFor_of_name own_pn5) ?_
  intro p e s m below meth c s₁ X0 hx hZ hby hml hret hlk hown hnm e0
  have hown : s.vm.findClass "com/example/tagwright/tagwright/NullValue" = some m.cls := hown
  have hml : c.maxLocals = 1 := hml
  have N0 := Fr.nil n0
  refine own_cast (own_efnv m a1) ?_
  refine own_s s₁ (mkF m 1 #[rv a1] [(.ref a1)]) (fun _ k => XS.aloadN X0.here hx rfl (hb hby own_dnv_0) rfl rfl k) ?_
  obtain ⟨v1, T1, L1, X1, hQ1, st1⟩ := own_callI X0 hx hZ (y := own_y10) (W := 0) (a := a1) rfl hown (own_h hw 112 rfl) (own_h hw 44 rfl) (own_h hw 46 rfl) (own_h hw 47 rfl) (by decide) (own_rmrec l Z a0 hw [] a1 h0 n0 Z0) (by decide) (by decide) (g := (mkF m 1 #[rv a1] [(.ref a1)])) rfl (by rw [hml]; rfl) (argsL := []) (rest := []) rfl (lenOf own_pd9 rfl) rfl (by show 2 * 0 + _ ≤ _; exact Nat.le_of_eq rfl) (hb hby own_dnv_1) e0 (by decide) (by decide)
  obtain ⟨rfl, Nq1, e1⟩ := hQ1
  have N1 := Fr.app N0 Nq1
  refine own_s T1 (mkF m 4 #[rv a1] []) st1 ?_
  exact own_finV X1 hx hret (hb hby own_dnv_4) (own_end (Qv := (own_Qnv Z a1 h0 n0)) X1 (fun _ => rfl) hlk (by decide) (by decide) e1 ⟨rfl, N1, rfl⟩)
abbrev own_y12 : MethodName := ⟨"com/example/tagwright/tagwright/Location", "<init>", "(Ljava/lang/String;II)V"⟩
theorem own_pn6 : plainName "com/example/tagwright/tagwright/Location" = true := by first | (simp [plainName, overriddenIn]; done) | decide +kernel
theorem own_dloc_0 : decode prog_48_method_1_code 0 = .ok (.aload_n 0, 1) := by decide +kernel
theorem own_dloc_1 : decode prog_48_method_1_code 1 = .ok (.invokespecial 1, 3) := by decide +kernel
theorem own_dloc_4 : decode prog_48_method_1_code 4 = .ok (.aload_n 0, 1) := by decide +kernel
theorem own_dloc_5 : decode prog_48_method_1_code 5 = .ok (.aload_n 1, 1) := by decide +kernel
theorem own_dloc_6 : decode prog_48_method_1_code 6 = .ok (.putfield 7, 3) := by decide +kernel
theorem own_dloc_9 : decode prog_48_method_1_code 9 = .ok (.aload_n 0, 1) := by decide +kernel
theorem own_dloc_10 : decode prog_48_method_1_code 10 = .ok (.iload_n 2, 1) := by decide +kernel
theorem own_dloc_11 : decode prog_48_method_1_code 11 = .ok (.putfield 13, 3) := by decide +kernel
theorem own_dloc_14 : decode prog_48_method_1_code 14 = .ok (.aload_n 0, 1) := by decide +kernel
theorem own_dloc_15 : decode prog_48_method_1_code 15 = .ok (.iload_n 3, 1) := by decide +kernel
theorem own_dloc_16 : decode prog_48_method_1_code 16 = .ok (.putfield 17, 3) := by decide +kernel
theorem own_dloc_19 : decode prog_48_method_1_code 19 = .ok (.return_, 1) := by decide +kernel
theorem own_efloc (m : MethodId) (x0 : Addr) (x1 : Value) (x2 : Int32) (x3 : Int32) (rx1 : x1.isRef = true) : entryFrame m #[(.ref x0), x1, (.int x2), (.int x3)] 4 = mkF m 0 #[rv x0, .val x1, iv x2, iv x3] [] := by rcases ref_cases rx1 with rfl | ⟨_, rfl⟩ <;> first | (simp [entryFrame, mkF, argsToLocals, Value.category]; done) | rfl
def own_Qloc (Z : State) (a1 : Addr) (x2 : Value) (p3 : Int32) (p4 : Int32) (h0 : Heap) (n0 : Nat) : Option Value → Heap → List Loc → Prop := fun v h L => v = none ∧ Fr n0 L ∧ Keep h0 h [a1] ∧ Exa Z h a1 "com/example/tagwright/tagwright/Location" ∧ Fld Z h a1 "com/example/tagwright/tagwright/Location" "file" "Ljava/lang/String;" x2 ∧ Fld Z h a1 "com/example/tagwright/tagwright/Location" "line" "I" (.int p3) ∧ Fld Z h a1 "com/example/tagwright/tagwright/Location" "column" "I" (.int p4)
def own_Rloc : Room := { frames := 2, cells := 0, slots := 0, locals := 24 }
set_option maxRecDepth 65536 in
set_option maxHeartbeats 40000000 in
theorem own_rmloc (l : Launch) (Z : State) (a0 : Array Value) (hw : ∀ d ∈ tables_1, d.before a0 Z = true) (ws : List Jvm.Cond) (a1 : Addr) (x2 : Value) (p3 : Int32) (p4 : Int32) (h0 : Heap) (n0 : Nat) (Z0 : n0 ≤ h0.size) (g_a1 : n0 ≤ a1) (E1 : Exa Z h0 a1 "com/example/tagwright/tagwright/Location") (F0 : Fld Z h0 a1 "com/example/tagwright/tagwright/Location" "file" "Ljava/lang/String;" .null) (F1 : Fld Z h0 a1 "com/example/tagwright/tagwright/Location" "line" "I" (.int 0)) (F2 : Fld Z h0 a1 "com/example/tagwright/tagwright/Location" "column" "I" (.int 0)) (rx2 : x2.isRef = true) :
    own_Met l Z own_y12 prog_48_method_1_code 4 none ws own_Rloc h0 #[(.ref a1), x2, (.int p3), (.int p4)] (own_Qloc Z a1 x2 p3 p4 h0 n0) own_Rloc.cells own_Rloc.slots := by
  refine own_start (plainFor_of_name own_pn6) ?_
  intro p e s m below meth c s₁ X0 hx hZ hby hml hret hlk hown hnm e0
  have hown : s.vm.findClass "com/example/tagwright/tagwright/Location" = some m.cls := hown
  have hml : c.maxLocals = 4 := hml
  have N0 := Fr.nil n0
  refine own_cast (own_efloc m a1 x2 p3 p4 rx2) ?_
  refine own_s s₁ (mkF m 1 #[rv a1, .val x2, iv p3, iv p4] [(.ref a1)]) (fun _ k => XS.aloadN X0.here hx rfl (hb hby own_dloc_0) rfl rfl k) ?_
  obtain ⟨v1, T1, L1, X1, hQ1, st1⟩ := own_callI X0 hx hZ (y := own_y10) (W := 0) (a := a1) rfl hown (own_h hw 43 rfl) (own_h hw 44 rfl) (own_h hw 46 rfl) (own_h hw 47 rfl) (by decide) (own_rmrec l Z a0 hw [] a1 h0 n0 Z0) (by decide) (by decide) (g := (mkF m 1 #[rv a1, .val x2, iv p3, iv p4] [(.ref a1)])) rfl (by rw [hml]; rfl) (argsL := []) (rest := []) rfl (lenOf own_pd9 rfl) rfl (by show 2 * 0 + _ ≤ _; exact Nat.le_of_eq rfl) (hb hby own_dloc_1) e0 (by decide) (by decide)
  obtain ⟨rfl, Nq1, e1⟩ := hQ1
  have N1 := Fr.app N0 Nq1
  refine own_s T1 (mkF m 4 #[rv a1, .val x2, iv p3, iv p4] []) st1 ?_
  refine own_s T1 (mkF m 6 #[rv a1, .val x2, iv p3, iv p4] [x2, (.ref a1)]) (fun _ k => XS.aloadN X1.here hx rfl (hb hby own_dloc_4) rfl rfl (XS.aloadN X1.here hx rfl (hb hby own_dloc_5) rfl rx2 k)) ?_
  obtain ⟨T2, h2, X2, e2, W2, st2⟩ := putF X1 hx hZ hown (host := "") (Or.inl (own_h hw 49 rfl)) Via.refl e1 F0 E1 (Or.inr ⟨(own_h hw 50 rfl), rfl, hnm⟩) (own_h hw 38 rfl) (ty := (.object "java/lang/String")) (by decide) (own_narR rx2) (own_fitR rx2) (g := (mkF m 6 #[rv a1, .val x2, iv p3, iv p4] [x2, (.ref a1)])) rfl rfl (hb hby own_dloc_6)
  have Fw2 := Fld.same W2 F0
  have f3 := Exa.wr W2 E1
  have f4 := Fld.other W2 F1 (Or.inr (slot_ne (Or.inr (own_h hw 52 rfl)) (Or.inr (own_h hw 50 rfl)) (by decide) (t := .int) (t' := (.object "java/lang/String")) (by decide) (by decide)))
  have f5 := Fld.other W2 F2 (Or.inr (slot_ne (Or.inr (own_h hw 54 rfl)) (Or.inr (own_h hw 50 rfl)) (by decide) (t := .int) (t' := (.object "java/lang/String")) (by decide) (by decide)))
  have K2 : Keep h0 h2 [a1] := (Keep.refl h0 [a1]).wr W2 (Or.inl (List.mem_of_getElem? (i := 0) rfl))
  have Z2 := Nat.le_trans Z0 (Nat.le_of_eq W2.size.symm)
  have N2 := Fr.snoc X2 N1 g_a1
  refine own_s T2 (mkF m 9 #[rv a1, .val x2, iv p3, iv p4] []) st2 ?_
  refine own_s T2 (mkF m 11 #[rv a1, .val x2, iv p3, iv p4] [(.int p3), (.ref a1)]) (fun _ k => XS.aloadN X2.here hx rfl (hb hby own_dloc_9) rfl rfl (XS.iloadN X2.here hx rfl (hb hby own_dloc_10) rfl  k)) ?_
  obtain ⟨T6, h6, X6, e6, W6, st6⟩ := putF X2 hx hZ hown (host := "") (Or.inl (own_h hw 51 rfl)) Via.refl e2 f4 f3 (Or.inr ⟨(own_h hw 52 rfl), rfl, hnm⟩) (own_h hw 38 rfl) (ty := .int) (by decide) rfl rfl (g := (mkF m 11 #[rv a1, .val x2, iv p3, iv p4] [(.int p3), (.ref a1)])) rfl rfl (hb hby own_dloc_11)
  have Fw6 := Fld.same W6 f4
  have f7 := Exa.wr W6 f3
  have f8 := Fld.other W6 Fw2 (Or.inr (slot_ne (Or.inr (own_h hw 50 rfl)) (Or.inr (own_h hw 52 rfl)) (by decide) (t := (.object "java/lang/String")) (t' := .int) (by decide) (by decide)))
  have f9 := Fld.other W6 f5 (Or.inr (slot_ne (Or.inr (own_h hw 54 rfl)) (Or.inr (own_h hw 52 rfl)) (by decide) (t := .int) (t' := .int) (by decide) (by decide)))
  have K6 : Keep h0 h6 [a1] := K2.wr W6 (Or.inl (List.mem_of_getElem? (i := 0) rfl))
  have Z6 := Nat.le_trans Z2 (Nat.le_of_eq W6.size.symm)
  have N6 := Fr.snoc X6 N2 g_a1
  refine own_s T6 (mkF m 14 #[rv a1, .val x2, iv p3, iv p4] []) st6 ?_
  refine own_s T6 (mkF m 16 #[rv a1, .val x2, iv p3, iv p4] [(.int p4), (.ref a1)]) (fun _ k => XS.aloadN X6.here hx rfl (hb hby own_dloc_14) rfl rfl (XS.iloadN X6.here hx rfl (hb hby own_dloc_15) rfl  k)) ?_
  obtain ⟨T10, h10, X10, e10, W10, st10⟩ := putF X6 hx hZ hown (host := "") (Or.inl (own_h hw 53 rfl)) Via.refl e6 f9 f7 (Or.inr ⟨(own_h hw 54 rfl), rfl, hnm⟩) (own_h hw 38 rfl) (ty := .int) (by decide) rfl rfl (g := (mkF m 16 #[rv a1, .val x2, iv p3, iv p4] [(.int p4), (.ref a1)])) rfl rfl (hb hby own_dloc_16)
  have Fw10 := Fld.same W10 f9
  have f11 := Exa.wr W10 f7
  have f12 := Fld.other W10 f8 (Or.inr (slot_ne (Or.inr (own_h hw 50 rfl)) (Or.inr (own_h hw 54 rfl)) (by decide) (t := (.object "java/lang/String")) (t' := .int) (by decide) (by decide)))
  have f13 := Fld.other W10 Fw6 (Or.inr (slot_ne (Or.inr (own_h hw 52 rfl)) (Or.inr (own_h hw 54 rfl)) (by decide) (t := .int) (t' := .int) (by decide) (by decide)))
  have K10 : Keep h0 h10 [a1] := K6.wr W10 (Or.inl (List.mem_of_getElem? (i := 0) rfl))
  have Z10 := Nat.le_trans Z6 (Nat.le_of_eq W10.size.symm)
  have N10 := Fr.snoc X10 N6 g_a1
  refine own_s T10 (mkF m 19 #[rv a1, .val x2, iv p3, iv p4] []) st10 ?_
  exact own_finV X10 hx hret (hb hby own_dloc_19) (own_end (Qv := (own_Qloc Z a1 x2 p3 p4 h0 n0)) X10 (fun _ => rfl) hlk (by decide) (by decide) e10 ⟨rfl, N10, K10, f11, f12, f13, Fw10⟩)
abbrev own_y13 : MethodName := ⟨"com/example/tagwright/tagwright/Definition", "<init>", "(Ljava/lang/String;Ljava/lang/String;Lcom/example/tagwright/tagwright/Value;Ljava/util/List;Ljava/util/List;Lcom/example/tagwright/tagwright/Definition$Lifecycle;Lcom/example/tagwright/tagwright/Location;)V"⟩
theorem own_pn7 : plainName "com/example/tagwright/tagwright/Definition" = true := by first | (simp [plainName, overriddenIn]; done) | decide +kernel
theorem own_dd7_0 : decode prog_23_method_2_code 0 = .ok (.aload_n 0, 1) := by decide +kernel
theorem own_dd7_1 : decode prog_23_method_2_code 1 = .ok (.invokespecial 1, 3) := by decide +kernel
theorem own_dd7_4 : decode prog_23_method_2_code 4 = .ok (.aload_n 0, 1) := by decide +kernel
theorem own_dd7_5 : decode prog_23_method_2_code 5 = .ok (.aload_n 1, 1) := by decide +kernel
theorem own_dd7_6 : decode prog_23_method_2_code 6 = .ok (.putfield 7, 3) := by decide +kernel
theorem own_dd7_9 : decode prog_23_method_2_code 9 = .ok (.aload_n 0, 1) := by decide +kernel
theorem own_dd7_10 : decode prog_23_method_2_code 10 = .ok (.aload_n 2, 1) := by decide +kernel
theorem own_dd7_11 : decode prog_23_method_2_code 11 = .ok (.putfield 13, 3) := by decide +kernel
theorem own_dd7_14 : decode prog_23_method_2_code 14 = .ok (.aload_n 0, 1) := by decide +kernel
theorem own_dd7_15 : decode prog_23_method_2_code 15 = .ok (.aload_n 3, 1) := by decide +kernel
theorem own_dd7_16 : decode prog_23_method_2_code 16 = .ok (.putfield 16, 3) := by decide +kernel
theorem own_dd7_19 : decode prog_23_method_2_code 19 = .ok (.aload_n 0, 1) := by decide +kernel
theorem own_dd7_20 : decode prog_23_method_2_code 20 = .ok (.aload 4, 2) := by decide +kernel
theorem own_dd7_22 : decode prog_23_method_2_code 22 = .ok (.putfield 20, 3) := by decide +kernel
theorem own_dd7_25 : decode prog_23_method_2_code 25 = .ok (.aload_n 0, 1) := by decide +kernel
theorem own_dd7_26 : decode prog_23_method_2_code 26 = .ok (.aload 5, 2) := by decide +kernel
theorem own_dd7_28 : decode prog_23_method_2_code 28 = .ok (.putfield 24, 3) := by decide +kernel
theorem own_dd7_31 : decode prog_23_method_2_code 31 = .ok (.aload_n 0, 1) := by decide +kernel
theorem own_dd7_32 : decode prog_23_method_2_code 32 = .ok (.aload 6, 2) := by decide +kernel
theorem own_dd7_34 : decode prog_23_method_2_code 34 = .ok (.putfield 27, 3) := by decide +kernel
theorem own_dd7_37 : decode prog_23_method_2_code 37 = .ok (.aload_n 0, 1) := by decide +kernel
theorem own_dd7_38 : decode prog_23_method_2_code 38 = .ok (.aload 7, 2) := by decide +kernel
theorem own_dd7_40 : decode prog_23_method_2_code 40 = .ok (.putfield 31, 3) := by decide +kernel
theorem own_dd7_43 : decode prog_23_method_2_code 43 = .ok (.return_, 1) := by decide +kernel
theorem own_efd7 (m : MethodId) (x0 : Addr) (x1 : Value) (x2 : Value) (x3 : Value) (x4 : Value) (x5 : Value) (x6 : Value) (x7 : Value) (rx1 : x1.isRef = true) (rx2 : x2.isRef = true) (rx3 : x3.isRef = true) (rx4 : x4.isRef = true) (rx5 : x5.isRef = true) (rx6 : x6.isRef = true) (rx7 : x7.isRef = true) : entryFrame m #[(.ref x0), x1, x2, x3, x4, x5, x6, x7] 8 = mkF m 0 #[rv x0, .val x1, .val x2, .val x3, .val x4, .val x5, .val x6, .val x7] [] := by rcases ref_cases rx1 with rfl | ⟨_, rfl⟩ <;> rcases ref_cases rx2 with rfl | ⟨_, rfl⟩ <;> rcases ref_cases rx3 with rfl | ⟨_, rfl⟩ <;> rcases ref_cases rx4 with rfl | ⟨_, rfl⟩ <;> rcases ref_cases rx5 with rfl | ⟨_, rfl⟩ <;> rcases ref_cases rx6 with rfl | ⟨_, rfl⟩ <;> rcases ref_cases rx7 with rfl | ⟨_, rfl⟩ <;> first | (simp [entryFrame, mkF, argsToLocals, Value.category]; done) | rfl
def own_Qd7 (Z : State) (a1 : Addr) (x2 : Value) (x3 : Value) (x4 : Value) (x5 : Value) (x6 : Value) (x7 : Value) (x8 : Value) (h0 : Heap) (n0 : Nat) : Option Value → Heap → List Loc → Prop := fun v h L => v = none ∧ Fr n0 L ∧ Keep h0 h [a1] ∧ Exa Z h a1 "com/example/tagwright/tagwright/Definition" ∧ Fld Z h a1 "com/example/tagwright/tagwright/Definition" "id" "Ljava/lang/String;" x2 ∧ Fld Z h a1 "com/example/tagwright/tagwright/Definition" "className" "Ljava/lang/String;" x3 ∧ Fld Z h a1 "com/example/tagwright/tagwright/Definition" "value" "Lcom/example/tagwright/tagwright/Value;" x4 ∧ Fld Z h a1 "com/example/tagwright/tagwright/Definition" "arguments" "Ljava/util/List;" x5 ∧ Fld Z h a1 "com/example/tagwright/tagwright/Definition" "properties" "Ljava/util/List;" x6 ∧ Fld Z h a1 "com/example/tagwright/tagwright/Definition" "lifecycle" "Lcom/example/tagwright/tagwright/Definition$Lifecycle;" x7 ∧ Fld Z h a1 "com/example/tagwright/tagwright/Definition" "location" "Lcom/example/tagwright/tagwright/Location;" x8
def own_Rd7 : Room := { frames := 2, cells := 0, slots := 0, locals := 24 }
set_option maxRecDepth 65536 in
set_option maxHeartbeats 40000000 in
theorem own_rmd7 (l : Launch) (Z : State) (a0 : Array Value) (hw : ∀ d ∈ tables_1, d.before a0 Z = true) (ws : List Jvm.Cond) (a1 : Addr) (x2 : Value) (x3 : Value) (x4 : Value) (x5 : Value) (x6 : Value) (x7 : Value) (x8 : Value) (h0 : Heap) (n0 : Nat) (Z0 : n0 ≤ h0.size) (g_a1 : n0 ≤ a1) (E1 : Exa Z h0 a1 "com/example/tagwright/tagwright/Definition") (F0 : Fld Z h0 a1 "com/example/tagwright/tagwright/Definition" "id" "Ljava/lang/String;" .null) (F1 : Fld Z h0 a1 "com/example/tagwright/tagwright/Definition" "className" "Ljava/lang/String;" .null) (F2 : Fld Z h0 a1 "com/example/tagwright/tagwright/Definition" "value" "Lcom/example/tagwright/tagwright/Value;" .null) (F3 : Fld Z h0 a1 "com/example/tagwright/tagwright/Definition" "arguments" "Ljava/util/List;" .null) (F4 : Fld Z h0 a1 "com/example/tagwright/tagwright/Definition" "properties" "Ljava/util/List;" .null) (F5 : Fld Z h0 a1 "com/example/tagwright/tagwright/Definition" "lifecycle" "Lcom/example/tagwright/tagwright/Definition$Lifecycle;" .null) (F6 : Fld Z h0 a1 "com/example/tagwright/tagwright/Definition" "location" "Lcom/example/tagwright/tagwright/Location;" .null) (rx2 : x2.isRef = true) (rx3 : x3.isRef = true) (rx4 : x4.isRef = true) (rx5 : x5.isRef = true) (rx6 : x6.isRef = true) (rx7 : x7.isRef = true) (rx8 : x8.isRef = true) :
    own_Met l Z own_y13 prog_23_method_2_code 8 none ws own_Rd7 h0 #[(.ref a1), x2, x3, x4, x5, x6, x7, x8] (own_Qd7 Z a1 x2 x3 x4 x5 x6 x7 x8 h0 n0) own_Rd7.cells own_Rd7.slots := by
  refine own_start (plainFor_of_name own_pn7) ?_
  intro p e s m below meth c s₁ X0 hx hZ hby hml hret hlk hown hnm e0
  have hown : s.vm.findClass "com/example/tagwright/tagwright/Definition" = some m.cls := hown
  have hml : c.maxLocals = 8 := hml
  have N0 := Fr.nil n0
  refine own_cast (own_efd7 m a1 x2 x3 x4 x5 x6 x7 x8 rx2 rx3 rx4 rx5 rx6 rx7 rx8) ?_
  refine own_s s₁ (mkF m 1 #[rv a1, .val x2, .val x3, .val x4, .val x5, .val x6, .val x7, .val x8] [(.ref a1)]) (fun _ k => XS.aloadN X0.here hx rfl (hb hby own_dd7_0) rfl rfl k) ?_
  obtain ⟨v1, T1, L1, X1, hQ1, st1⟩ := own_callI X0 hx hZ (y := own_y10) (W := 0) (a := a1) rfl hown (own_h hw 91 rfl) (own_h hw 44 rfl) (own_h hw 46 rfl) (own_h hw 47 rfl) (by decide) (own_rmrec l Z a0 hw [] a1 h0 n0 Z0) (by decide) (by decide) (g := (mkF m 1 #[rv a1, .val x2, .val x3, .val x4, .val x5, .val x6, .val x7, .val x8] [(.ref a1)])) rfl (by rw [hml]; rfl) (argsL := []) (rest := []) rfl (lenOf own_pd9 rfl) rfl (by show 2 * 0 + _ ≤ _; exact Nat.le_of_eq rfl) (hb hby own_dd7_1) e0 (by decide) (by decide)
  obtain ⟨rfl, Nq1, e1⟩ := hQ1
  have N1 := Fr.app N0 Nq1
  refine own_s T1 (mkF m 4 #[rv a1, .val x2, .val x3, .val x4, .val x5, .val x6, .val x7, .val x8] []) st1 ?_
  refine own_s T1 (mkF m 6 #[rv a1, .val x2, .val x3, .val x4, .val x5, .val x6, .val x7, .val x8] [x2, (.ref a1)]) (fun _ k => XS.aloadN X1.here hx rfl (hb hby own_dd7_4) rfl rfl (XS.aloadN X1.here hx rfl (hb hby own_dd7_5) rfl rx2 k)) ?_
  obtain ⟨T2, h2, X2, e2, W2, st2⟩ := putF X1 hx hZ hown (host := "") (Or.inl (own_h hw 92 rfl)) Via.refl e1 F0 E1 (Or.inr ⟨(own_h hw 93 rfl), rfl, hnm⟩) (own_h hw 80 rfl) (ty := (.object "java/lang/String")) (by decide) (own_narR rx2) (own_fitR rx2) (g := (mkF m 6 #[rv a1, .val x2, .val x3, .val x4, .val x5, .val x6, .val x7, .val x8] [x2, (.ref a1)])) rfl rfl (hb hby own_dd7_6)
  have Fw2 := Fld.same W2 F0
  have f3 := Exa.wr W2 E1
  have f4 := Fld.other W2 F1 (Or.inr (slot_ne (Or.inr (own_h hw 95 rfl)) (Or.inr (own_h hw 93 rfl)) (by decide) (t := (.object "java/lang/String")) (t' := (.object "java/lang/String")) (by decide) (by decide)))
  have f5 := Fld.other W2 F2 (Or.inr (slot_ne (Or.inr (own_h hw 97 rfl)) (Or.inr (own_h hw 93 rfl)) (by decide) (t := (.object "com/example/tagwright/tagwright/Value")) (t' := (.object "java/lang/String")) (by decide) (by decide)))
  have f6 := Fld.other W2 F3 (Or.inr (slot_ne (Or.inr (own_h hw 99 rfl)) (Or.inr (own_h hw 93 rfl)) (by decide) (t := (.object "java/util/List")) (t' := (.object "java/lang/String")) (by decide) (by decide)))
  have f7 := Fld.other W2 F4 (Or.inr (slot_ne (Or.inr (own_h hw 101 rfl)) (Or.inr (own_h hw 93 rfl)) (by decide) (t := (.object "java/util/List")) (t' := (.object "java/lang/String")) (by decide) (by decide)))
  have f8 := Fld.other W2 F5 (Or.inr (slot_ne (Or.inr (own_h hw 103 rfl)) (Or.inr (own_h hw 93 rfl)) (by decide) (t := (.object "com/example/tagwright/tagwright/Definition$Lifecycle")) (t' := (.object "java/lang/String")) (by decide) (by decide)))
  have f9 := Fld.other W2 F6 (Or.inr (slot_ne (Or.inr (own_h hw 105 rfl)) (Or.inr (own_h hw 93 rfl)) (by decide) (t := (.object "com/example/tagwright/tagwright/Location")) (t' := (.object "java/lang/String")) (by decide) (by decide)))
  have K2 : Keep h0 h2 [a1] := (Keep.refl h0 [a1]).wr W2 (Or.inl (List.mem_of_getElem? (i := 0) rfl))
  have Z2 := Nat.le_trans Z0 (Nat.le_of_eq W2.size.symm)
  have N2 := Fr.snoc X2 N1 g_a1
  refine own_s T2 (mkF m 9 #[rv a1, .val x2, .val x3, .val x4, .val x5, .val x6, .val x7, .val x8] []) st2 ?_
  refine own_s T2 (mkF m 11 #[rv a1, .val x2, .val x3, .val x4, .val x5, .val x6, .val x7, .val x8] [x3, (.ref a1)]) (fun _ k => XS.aloadN X2.here hx rfl (hb hby own_dd7_9) rfl rfl (XS.aloadN X2.here hx rfl (hb hby own_dd7_10) rfl rx3 k)) ?_
  obtain ⟨T10, h10, X10, e10, W10, st10⟩ := putF X2 hx hZ hown (host := "") (Or.inl (own_h hw 94 rfl)) Via.refl e2 f4 f3 (Or.inr ⟨(own_h hw 95 rfl), rfl, hnm⟩) (own_h hw 80 rfl) (ty := (.object "java/lang/String")) (by decide) (own_narR rx3) (own_fitR rx3) (g := (mkF m 11 #[rv a1, .val x2, .val x3, .val x4, .val x5, .val x6, .val x7, .val x8] [x3, (.ref a1)])) rfl rfl (hb hby own_dd7_11)
  have Fw10 := Fld.same W10 f4
  have f11 := Exa.wr W10 f3
  have f12 := Fld.other W10 Fw2 (Or.inr (slot_ne (Or.inr (own_h hw 93 rfl)) (Or.inr (own_h hw 95 rfl)) (by decide) (t := (.object "java/lang/String")) (t' := (.object "java/lang/String")) (by decide) (by decide)))
  have f13 := Fld.other W10 f5 (Or.inr (slot_ne (Or.inr (own_h hw 97 rfl)) (Or.inr (own_h hw 95 rfl)) (by decide) (t := (.object "com/example/tagwright/tagwright/Value")) (t' := (.object "java/lang/String")) (by decide) (by decide)))
  have f14 := Fld.other W10 f6 (Or.inr (slot_ne (Or.inr (own_h hw 99 rfl)) (Or.inr (own_h hw 95 rfl)) (by decide) (t := (.object "java/util/List")) (t' := (.object "java/lang/String")) (by decide) (by decide)))
  have f15 := Fld.other W10 f7 (Or.inr (slot_ne (Or.inr (own_h hw 101 rfl)) (Or.inr (own_h hw 95 rfl)) (by decide) (t := (.object "java/util/List")) (t' := (.object "java/lang/String")) (by decide) (by decide)))
  have f16 := Fld.other W10 f8 (Or.inr (slot_ne (Or.inr (own_h hw 103 rfl)) (Or.inr (own_h hw 95 rfl)) (by decide) (t := (.object "com/example/tagwright/tagwright/Definition$Lifecycle")) (t' := (.object "java/lang/String")) (by decide) (by decide)))
  have f17 := Fld.other W10 f9 (Or.inr (slot_ne (Or.inr (own_h hw 105 rfl)) (Or.inr (own_h hw 95 rfl)) (by decide) (t := (.object "com/example/tagwright/tagwright/Location")) (t' := (.object "java/lang/String")) (by decide) (by decide)))
  have K10 : Keep h0 h10 [a1] := K2.wr W10 (Or.inl (List.mem_of_getElem? (i := 0) rfl))
  have Z10 := Nat.le_trans Z2 (Nat.le_of_eq W10.size.symm)
  have N10 := Fr.snoc X10 N2 g_a1
  refine own_s T10 (mkF m 14 #[rv a1, .val x2, .val x3, .val x4, .val x5, .val x6, .val x7, .val x8] []) st10 ?_
  refine own_s T10 (mkF m 16 #[rv a1, .val x2, .val x3, .val x4, .val x5, .val x6, .val x7, .val x8] [x4, (.ref a1)]) (fun _ k => XS.aloadN X10.here hx rfl (hb hby own_dd7_14) rfl rfl (XS.aloadN X10.here hx rfl (hb hby own_dd7_15) rfl rx4 k)) ?_
  obtain ⟨T18, h18, X18, e18, W18, st18⟩ := putF X10 hx hZ hown (host := "") (Or.inl (own_h hw 96 rfl)) Via.refl e10 f13 f11 (Or.inr ⟨(own_h hw 97 rfl), rfl, hnm⟩) (own_h hw 80 rfl) (ty := (.object "com/example/tagwright/tagwright/Value")) (by decide) (own_narR rx4) (own_fitR rx4) (g := (mkF m 16 #[rv a1, .val x2, .val x3, .val x4, .val x5, .val x6, .val x7, .val x8] [x4, (.ref a1)])) rfl rfl (hb hby own_dd7_16)
  have Fw18 := Fld.same W18 f13
  have f19 := Exa.wr W18 f11
  have f20 := Fld.other W18 f12 (Or.inr (slot_ne (Or.inr (own_h hw 93 rfl)) (Or.inr (own_h hw 97 rfl)) (by decide) (t := (.object "java/lang/String")) (t' := (.object "com/example/tagwright/tagwright/Value")) (by decide) (by decide)))
  have f21 := Fld.other W18 Fw10 (Or.inr (slot_ne (Or.inr (own_h hw 95 rfl)) (Or.inr (own_h hw 97 rfl)) (by decide) (t := (.object "java/lang/String")) (t' := (.object "com/example/tagwright/tagwright/Value")) (by decide) (by decide)))
  have f22 := Fld.other W18 f14 (Or.inr (slot_ne (Or.inr (own_h hw 99 rfl)) (Or.inr (own_h hw 97 rfl)) (by decide) (t := (.object "java/util/List")) (t' := (.object "com/example/tagwright/tagwright/Value")) (by decide) (by decide)))
  have f23 := Fld.other W18 f15 (Or.inr (slot_ne (Or.inr (own_h hw 101 rfl)) (Or.inr (own_h hw 97 rfl)) (by decide) (t := (.object "java/util/List")) (t' := (.object "com/example/tagwright/tagwright/Value")) (by decide) (by decide)))
  have f24 := Fld.other W18 f16 (Or.inr (slot_ne (Or.inr (own_h hw 103 rfl)) (Or.inr (own_h hw 97 rfl)) (by decide) (t := (.object "com/example/tagwright/tagwright/Definition$Lifecycle")) (t' := (.object "com/example/tagwright/tagwright/Value")) (by decide) (by decide)))
  have f25 := Fld.other W18 f17 (Or.inr (slot_ne (Or.inr (own_h hw 105 rfl)) (Or.inr (own_h hw 97 rfl)) (by decide) (t := (.object "com/example/tagwright/tagwright/Location")) (t' := (.object "com/example/tagwright/tagwright/Value")) (by decide) (by decide)))
  have K18 : Keep h0 h18 [a1] := K10.wr W18 (Or.inl (List.mem_of_getElem? (i := 0) rfl))
  have Z18 := Nat.le_trans Z10 (Nat.le_of_eq W18.size.symm)
  have N18 := Fr.snoc X18 N10 g_a1
  refine own_s T18 (mkF m 19 #[rv a1, .val x2, .val x3, .val x4, .val x5, .val x6, .val x7, .val x8] []) st18 ?_
  refine own_s T18 (mkF m 22 #[rv a1, .val x2, .val x3, .val x4, .val x5, .val x6, .val x7, .val x8] [x5, (.ref a1)]) (fun _ k => XS.aloadN X18.here hx rfl (hb hby own_dd7_19) rfl rfl (XS.aload X18.here hx rfl (hb hby own_dd7_20) rfl rx5 k)) ?_
  obtain ⟨T26, h26, X26, e26, W26, st26⟩ := putF X18 hx hZ hown (host := "") (Or.inl (own_h hw 98 rfl)) Via.refl e18 f22 f19 (Or.inr ⟨(own_h hw 99 rfl), rfl, hnm⟩) (own_h hw 80 rfl) (ty := (.object "java/util/List")) (by decide) (own_narR rx5) (own_fitR rx5) (g := (mkF m 22 #[rv a1, .val x2, .val x3, .val x4, .val x5, .val x6, .val x7, .val x8] [x5, (.ref a1)])) rfl rfl (hb hby own_dd7_22)
  have Fw26 := Fld.same W26 f22
  have f27 := Exa.wr W26 f19
  have f28 := Fld.other W26 f20 (Or.inr (slot_ne (Or.inr (own_h hw 93 rfl)) (Or.inr (own_h hw 99 rfl)) (by decide) (t := (.object "java/lang/String")) (t' := (.object "java/util/List")) (by decide) (by decide)))
  have f29 := Fld.other W26 f21 (Or.inr (slot_ne (Or.inr (own_h hw 95 rfl)) (Or.inr (own_h hw 99 rfl)) (by decide) (t := (.object "java/lang/String")) (t' := (.object "java/util/List")) (by decide) (by decide)))
  have f30 := Fld.other W26 Fw18 (Or.inr (slot_ne (Or.inr (own_h hw 97 rfl)) (Or.inr (own_h hw 99 rfl)) (by decide) (t := (.object "com/example/tagwright/tagwright/Value")) (t' := (.object "java/util/List")) (by decide) (by decide)))
  have f31 := Fld.other W26 f23 (Or.inr (slot_ne (Or.inr (own_h hw 101 rfl)) (Or.inr (own_h hw 99 rfl)) (by decide) (t := (.object "java/util/List")) (t' := (.object "java/util/List")) (by decide) (by decide)))
  have f32 := Fld.other W26 f24 (Or.inr (slot_ne (Or.inr (own_h hw 103 rfl)) (Or.inr (own_h hw 99 rfl)) (by decide) (t := (.object "com/example/tagwright/tagwright/Definition$Lifecycle")) (t' := (.object "java/util/List")) (by decide) (by decide)))
  have f33 := Fld.other W26 f25 (Or.inr (slot_ne (Or.inr (own_h hw 105 rfl)) (Or.inr (own_h hw 99 rfl)) (by decide) (t := (.object "com/example/tagwright/tagwright/Location")) (t' := (.object "java/util/List")) (by decide) (by decide)))
  have K26 : Keep h0 h26 [a1] := K18.wr W26 (Or.inl (List.mem_of_getElem? (i := 0) rfl))
  have Z26 := Nat.le_trans Z18 (Nat.le_of_eq W26.size.symm)
  have N26 := Fr.snoc X26 N18 g_a1
  refine own_s T26 (mkF m 25 #[rv a1, .val x2, .val x3, .val x4, .val x5, .val x6, .val x7, .val x8] []) st26 ?_
  refine own_s T26 (mkF m 28 #[rv a1, .val x2, .val x3, .val x4, .val x5, .val x6, .val x7, .val x8] [x6, (.ref a1)]) (fun _ k => XS.aloadN X26.here hx rfl (hb hby own_dd7_25) rfl rfl (XS.aload X26.here hx rfl (hb hby own_dd7_26) rfl rx6 k)) ?_
  obtain ⟨T34, h34, X34, e34, W34, st34⟩ := putF X26 hx hZ hown (host := "") (Or.inl (own_h hw 100 rfl)) Via.refl e26 f31 f27 (Or.inr ⟨(own_h hw 101 rfl), rfl, hnm⟩) (own_h hw 80 rfl) (ty := (.object "java/util/List")) (by decide) (own_narR rx6) (own_fitR rx6) (g := (mkF m 28 #[rv a1, .val x2, .val x3, .val x4, .val x5, .val x6, .val x7, .val x8] [x6, (.ref a1)])) rfl rfl (hb hby own_dd7_28)
  have Fw34 := Fld.same W34 f31
  have f35 := Exa.wr W34 f27
  have f36 := Fld.other W34 f28 (Or.inr (slot_ne (Or.inr (own_h hw 93 rfl)) (Or.inr (own_h hw 101 rfl)) (by decide) (t := (.object "java/lang/String")) (t' := (.object "java/util/List")) (by decide) (by decide)))
  have f37 := Fld.other W34 f29 (Or.inr (slot_ne (Or.inr (own_h hw 95 rfl)) (Or.inr (own_h hw 101 rfl)) (by decide) (t := (.object "java/lang/String")) (t' := (.object "java/util/List")) (by decide) (by decide)))
  have f38 := Fld.other W34 f30 (Or.inr (slot_ne (Or.inr (own_h hw 97 rfl)) (Or.inr (own_h hw 101 rfl)) (by decide) (t := (.object "com/example/tagwright/tagwright/Value")) (t' := (.object "java/util/List")) (by decide) (by decide)))
  have f39 := Fld.other W34 Fw26 (Or.inr (slot_ne (Or.inr (own_h hw 99 rfl)) (Or.inr (own_h hw 101 rfl)) (by decide) (t := (.object "java/util/List")) (t' := (.object "java/util/List")) (by decide) (by decide)))
  have f40 := Fld.other W34 f32 (Or.inr (slot_ne (Or.inr (own_h hw 103 rfl)) (Or.inr (own_h hw 101 rfl)) (by decide) (t := (.object "com/example/tagwright/tagwright/Definition$Lifecycle")) (t' := (.object "java/util/List")) (by decide) (by decide)))
  have f41 := Fld.other W34 f33 (Or.inr (slot_ne (Or.inr (own_h hw 105 rfl)) (Or.inr (own_h hw 101 rfl)) (by decide) (t := (.object "com/example/tagwright/tagwright/Location")) (t' := (.object "java/util/List")) (by decide) (by decide)))
  have K34 : Keep h0 h34 [a1] := K26.wr W34 (Or.inl (List.mem_of_getElem? (i := 0) rfl))
  have Z34 := Nat.le_trans Z26 (Nat.le_of_eq W34.size.symm)
  have N34 := Fr.snoc X34 N26 g_a1
  refine own_s T34 (mkF m 31 #[rv a1, .val x2, .val x3, .val x4, .val x5, .val x6, .val x7, .val x8] []) st34 ?_
  refine own_s T34 (mkF m 34 #[rv a1, .val x2, .val x3, .val x4, .val x5, .val x6, .val x7, .val x8] [x7, (.ref a1)]) (fun _ k => XS.aloadN X34.here hx rfl (hb hby own_dd7_31) rfl rfl (XS.aload X34.here hx rfl (hb hby own_dd7_32) rfl rx7 k)) ?_
  obtain ⟨T42, h42, X42, e42, W42, st42⟩ := putF X34 hx hZ hown (host := "") (Or.inl (own_h hw 102 rfl)) Via.refl e34 f40 f35 (Or.inr ⟨(own_h hw 103 rfl), rfl, hnm⟩) (own_h hw 80 rfl) (ty := (.object "com/example/tagwright/tagwright/Definition$Lifecycle")) (by decide) (own_narR rx7) (own_fitR rx7) (g := (mkF m 34 #[rv a1, .val x2, .val x3, .val x4, .val x5, .val x6, .val x7, .val x8] [x7, (.ref a1)])) rfl rfl (hb hby own_dd7_34)
  have Fw42 := Fld.same W42 f40
  have f43 := Exa.wr W42 f35
  have f44 := Fld.other W42 f36 (Or.inr (slot_ne (Or.inr (own_h hw 93 rfl)) (Or.inr (own_h hw 103 rfl)) (by decide) (t := (.object "java/lang/String")) (t' := (.object "com/example/tagwright/tagwright/Definition$Lifecycle")) (by decide) (by decide)))
  have f45 := Fld.other W42 f37 (Or.inr (slot_ne (Or.inr (own_h hw 95 rfl)) (Or.inr (own_h hw 103 rfl)) (by decide) (t := (.object "java/lang/String")) (t' := (.object "com/example/tagwright/tagwright/Definition$Lifecycle")) (by decide) (by decide)))
  have f46 := Fld.other W42 f38 (Or.inr (slot_ne (Or.inr (own_h hw 97 rfl)) (Or.inr (own_h hw 103 rfl)) (by decide) (t := (.object "com/example/tagwright/tagwright/Value")) (t' := (.object "com/example/tagwright/tagwright/Definition$Lifecycle")) (by decide) (by decide)))
  have f47 := Fld.other W42 f39 (Or.inr (slot_ne (Or.inr (own_h hw 99 rfl)) (Or.inr (own_h hw 103 rfl)) (by decide) (t := (.object "java/util/List")) (t' := (.object "com/example/tagwright/tagwright/Definition$Lifecycle")) (by decide) (by decide)))
  have f48 := Fld.other W42 Fw34 (Or.inr (slot_ne (Or.inr (own_h hw 101 rfl)) (Or.inr (own_h hw 103 rfl)) (by decide) (t := (.object "java/util/List")) (t' := (.object "com/example/tagwright/tagwright/Definition$Lifecycle")) (by decide) (by decide)))
  have f49 := Fld.other W42 f41 (Or.inr (slot_ne (Or.inr (own_h hw 105 rfl)) (Or.inr (own_h hw 103 rfl)) (by decide) (t := (.object "com/example/tagwright/tagwright/Location")) (t' := (.object "com/example/tagwright/tagwright/Definition$Lifecycle")) (by decide) (by decide)))
  have K42 : Keep h0 h42 [a1] := K34.wr W42 (Or.inl (List.mem_of_getElem? (i := 0) rfl))
  have Z42 := Nat.le_trans Z34 (Nat.le_of_eq W42.size.symm)
  have N42 := Fr.snoc X42 N34 g_a1
  refine own_s T42 (mkF m 37 #[rv a1, .val x2, .val x3, .val x4, .val x5, .val x6, .val x7, .val x8] []) st42 ?_
  refine own_s T42 (mkF m 40 #[rv a1, .val x2, .val x3, .val x4, .val x5, .val x6, .val x7, .val x8] [x8, (.ref a1)]) (fun _ k => XS.aloadN X42.here hx rfl (hb hby own_dd7_37) rfl rfl (XS.aload X42.here hx rfl (hb hby own_dd7_38) rfl rx8 k)) ?_
  obtain ⟨T50, h50, X50, e50, W50, st50⟩ := putF X42 hx hZ hown (host := "") (Or.inl (own_h hw 104 rfl)) Via.refl e42 f49 f43 (Or.inr ⟨(own_h hw 105 rfl), rfl, hnm⟩) (own_h hw 80 rfl) (ty := (.object "com/example/tagwright/tagwright/Location")) (by decide) (own_narR rx8) (own_fitR rx8) (g := (mkF m 40 #[rv a1, .val x2, .val x3, .val x4, .val x5, .val x6, .val x7, .val x8] [x8, (.ref a1)])) rfl rfl (hb hby own_dd7_40)
  have Fw50 := Fld.same W50 f49
  have f51 := Exa.wr W50 f43
  have f52 := Fld.other W50 f44 (Or.inr (slot_ne (Or.inr (own_h hw 93 rfl)) (Or.inr (own_h hw 105 rfl)) (by decide) (t := (.object "java/lang/String")) (t' := (.object "com/example/tagwright/tagwright/Location")) (by decide) (by decide)))
  have f53 := Fld.other W50 f45 (Or.inr (slot_ne (Or.inr (own_h hw 95 rfl)) (Or.inr (own_h hw 105 rfl)) (by decide) (t := (.object "java/lang/String")) (t' := (.object "com/example/tagwright/tagwright/Location")) (by decide) (by decide)))
  have f54 := Fld.other W50 f46 (Or.inr (slot_ne (Or.inr (own_h hw 97 rfl)) (Or.inr (own_h hw 105 rfl)) (by decide) (t := (.object "com/example/tagwright/tagwright/Value")) (t' := (.object "com/example/tagwright/tagwright/Location")) (by decide) (by decide)))
  have f55 := Fld.other W50 f47 (Or.inr (slot_ne (Or.inr (own_h hw 99 rfl)) (Or.inr (own_h hw 105 rfl)) (by decide) (t := (.object "java/util/List")) (t' := (.object "com/example/tagwright/tagwright/Location")) (by decide) (by decide)))
  have f56 := Fld.other W50 f48 (Or.inr (slot_ne (Or.inr (own_h hw 101 rfl)) (Or.inr (own_h hw 105 rfl)) (by decide) (t := (.object "java/util/List")) (t' := (.object "com/example/tagwright/tagwright/Location")) (by decide) (by decide)))
  have f57 := Fld.other W50 Fw42 (Or.inr (slot_ne (Or.inr (own_h hw 103 rfl)) (Or.inr (own_h hw 105 rfl)) (by decide) (t := (.object "com/example/tagwright/tagwright/Definition$Lifecycle")) (t' := (.object "com/example/tagwright/tagwright/Location")) (by decide) (by decide)))
  have K50 : Keep h0 h50 [a1] := K42.wr W50 (Or.inl (List.mem_of_getElem? (i := 0) rfl))
  have Z50 := Nat.le_trans Z42 (Nat.le_of_eq W50.size.symm)
  have N50 := Fr.snoc X50 N42 g_a1
  refine own_s T50 (mkF m 43 #[rv a1, .val x2, .val x3, .val x4, .val x5, .val x6, .val x7, .val x8] []) st50 ?_
  exact own_finV X50 hx hret (hb hby own_dd7_43) (own_end (Qv := (own_Qd7 Z a1 x2 x3 x4 x5 x6 x7 x8 h0 n0)) X50 (fun _ => rfl) hlk (by decide) (by decide) e50 ⟨rfl, N50, K50, f51, f52, f53, f54, f55, f56, f57, Fw50⟩)
theorem own_pd10 : parseMethodDescriptor "(Ljava/lang/String;Ljava/lang/String;Lcom/example/tagwright/tagwright/Value;Ljava/util/List;Ljava/util/List;Lcom/example/tagwright/tagwright/Definition$Lifecycle;Lcom/example/tagwright/tagwright/Location;)V" = some ⟨[(.object "java/lang/String"), (.object "java/lang/String"), (.object "com/example/tagwright/tagwright/Value"), (.object "java/util/List"), (.object "java/util/List"), (.object "com/example/tagwright/tagwright/Definition$Lifecycle"), (.object "com/example/tagwright/tagwright/Location")], none⟩ := by decide +kernel
abbrev own_y14 : MethodName := ⟨"com/example/tagwright/tagwright/Definition", "<init>", "(Ljava/lang/String;Ljava/lang/String;Ljava/util/List;Ljava/util/List;Lcom/example/tagwright/tagwright/Location;)V"⟩
theorem own_dd5_0 : decode prog_23_method_1_code 0 = .ok (.aload_n 0, 1) := by decide +kernel
theorem own_dd5_1 : decode prog_23_method_1_code 1 = .ok (.aload_n 1, 1) := by decide +kernel
theorem own_dd5_2 : decode prog_23_method_1_code 2 = .ok (.aload_n 2, 1) := by decide +kernel
theorem own_dd5_3 : decode prog_23_method_1_code 3 = .ok (.aconst_null, 1) := by decide +kernel
theorem own_dd5_4 : decode prog_23_method_1_code 4 = .ok (.aload_n 3, 1) := by decide +kernel
theorem own_dd5_5 : decode prog_23_method_1_code 5 = .ok (.aload 4, 2) := by decide +kernel
theorem own_dd5_7 : decode prog_23_method_1_code 7 = .ok (.getstatic 35, 3) := by decide +kernel
theorem own_dd5_10 : decode prog_23_method_1_code 10 = .ok (.aload 5, 2) := by decide +kernel
theorem own_dd5_12 : decode prog_23_method_1_code 12 = .ok (.invokespecial 40, 3) := by decide +kernel
theorem own_dd5_15 : decode prog_23_method_1_code 15 = .ok (.return_, 1) := by decide +kernel
theorem own_efd5 (m : MethodId) (x0 : Addr) (x1 : Value) (x2 : Value) (x3 : Value) (x4 : Value) (x5 : Value) (rx1 : x1.isRef = true) (rx2 : x2.isRef = true) (rx3 : x3.isRef = true) (rx4 : x4.isRef = true) (rx5 : x5.isRef = true) : entryFrame m #[(.ref x0), x1, x2, x3, x4, x5] 6 = mkF m 0 #[rv x0, .val x1, .val x2, .val x3, .val x4, .val x5] [] := by rcases ref_cases rx1 with rfl | ⟨_, rfl⟩ <;> rcases ref_cases rx2 with rfl | ⟨_, rfl⟩ <;> rcases ref_cases rx3 with rfl | ⟨_, rfl⟩ <;> rcases ref_cases rx4 with rfl | ⟨_, rfl⟩ <;> rcases ref_cases rx5 with rfl | ⟨_, rfl⟩ <;> first | (simp [entryFrame, mkF, argsToLocals, Value.category]; done) | rfl
def own_Qd5 (Z : State) (a1 : Addr) (x2 : Value) (x3 : Value) (x4 : Value) (x5 : Value) (x6 : Value) (oP : Addr) (h0 : Heap) (n0 : Nat) : Option Value → Heap → List Loc → Prop := fun v h L => v = none ∧ Fr n0 L ∧ Keep h0 h [a1] ∧ Exa Z h a1 "com/example/tagwright/tagwright/Definition" ∧ Fld Z h a1 "com/example/tagwright/tagwright/Definition" "id" "Ljava/lang/String;" x2 ∧ Fld Z h a1 "com/example/tagwright/tagwright/Definition" "className" "Ljava/lang/String;" x3 ∧ Fld Z h a1 "com/example/tagwright/tagwright/Definition" "value" "Lcom/example/tagwright/tagwright/Value;" .null ∧ Fld Z h a1 "com/example/tagwright/tagwright/Definition" "arguments" "Ljava/util/List;" x4 ∧ Fld Z h a1 "com/example/tagwright/tagwright/Definition" "properties" "Ljava/util/List;" x5 ∧ Fld Z h a1 "com/example/tagwright/tagwright/Definition" "lifecycle" "Lcom/example/tagwright/tagwright/Definition$Lifecycle;" (.ref oP) ∧ Fld Z h a1 "com/example/tagwright/tagwright/Definition" "location" "Lcom/example/tagwright/tagwright/Location;" x6
def own_Rd5 : Room := { frames := 3, cells := 0, slots := 0, locals := 43 }
set_option maxRecDepth 65536 in
set_option maxHeartbeats 40000000 in
theorem own_rmd5 (l : Launch) (Z : State) (a0 : Array Value) (hw : ∀ d ∈ tables_1, d.before a0 Z = true) (ws : List Jvm.Cond) (a1 : Addr) (x2 : Value) (x3 : Value) (x4 : Value) (x5 : Value) (x6 : Value) (oP : Addr) (h0 : Heap) (n0 : Nat) (Z0 : n0 ≤ h0.size) (g_a1 : n0 ≤ a1) (E1 : Exa Z h0 a1 "com/example/tagwright/tagwright/Definition") (F0 : Fld Z h0 a1 "com/example/tagwright/tagwright/Definition" "id" "Ljava/lang/String;" .null) (F1 : Fld Z h0 a1 "com/example/tagwright/tagwright/Definition" "className" "Ljava/lang/String;" .null) (F2 : Fld Z h0 a1 "com/example/tagwright/tagwright/Definition" "value" "Lcom/example/tagwright/tagwright/Value;" .null) (F3 : Fld Z h0 a1 "com/example/tagwright/tagwright/Definition" "arguments" "Ljava/util/List;" .null) (F4 : Fld Z h0 a1 "com/example/tagwright/tagwright/Definition" "properties" "Ljava/util/List;" .null) (F5 : Fld Z h0 a1 "com/example/tagwright/tagwright/Definition" "lifecycle" "Lcom/example/tagwright/tagwright/Definition$Lifecycle;" .null) (F6 : Fld Z h0 a1 "com/example/tagwright/tagwright/Definition" "location" "Lcom/example/tagwright/tagwright/Location;" .null) (rx2 : x2.isRef = true) (rx3 : x3.isRef = true) (rx4 : x4.isRef = true) (rx5 : x5.isRef = true) (rx6 : x6.isRef = true) (SP : Sta Z h0 "com/example/tagwright/tagwright/Definition$Lifecycle" "PLAIN" "Lcom/example/tagwright/tagwright/Definition$Lifecycle;" (.ref oP)) :
    own_Met l Z own_y14 prog_23_method_1_code 6 none ws own_Rd5 h0 #[(.ref a1), x2, x3, x4, x5, x6] (own_Qd5 Z a1 x2 x3 x4 x5 x6 oP h0 n0) own_Rd5.cells own_Rd5.slots := by
  refine own_start (plainFor_of_name own_pn7) ?_
  intro p e s m below meth c s₁ X0 hx hZ hby hml hret hlk hown hnm e0
  have hown : s.vm.findClass "com/example/tagwright/tagwright/Definition" = some m.cls := hown
  have hml : c.maxLocals = 6 := hml
  have N0 := Fr.nil n0
  refine own_cast (own_efd5 m a1 x2 x3 x4 x5 x6 rx2 rx3 rx4 rx5 rx6) ?_
  refine own_s s₁ (mkF m 5 #[rv a1, .val x2, .val x3, .val x4, .val x5, .val x6] [x4, .null, x3, x2, (.ref a1)]) (fun _ k => XS.aloadN X0.here hx rfl (hb hby own_dd5_0) rfl rfl (XS.aloadN X0.here hx rfl (hb hby own_dd5_1) rfl rx2 (XS.aloadN X0.here hx rfl (hb hby own_dd5_2) rfl rx3 (XS.aconstNull X0.here hx rfl (hb hby own_dd5_3) (XS.aloadN X0.here hx rfl (hb hby own_dd5_4) rfl rx4 k))))) ?_
  refine own_s s₁ (mkF m 7 #[rv a1, .val x2, .val x3, .val x4, .val x5, .val x6] [x5, x4, .null, x3, x2, (.ref a1)]) (fun _ k => XS.aload X0.here hx rfl (hb hby own_dd5_5) rfl rx5 k) ?_
  obtain ⟨T1, X1, e1, st1⟩ := getS2 X0 hx hZ hown (host := "") (Or.inl (own_h hw 85 rfl)) Via.refl e0 SP (g := (mkF m 7 #[rv a1, .val x2, .val x3, .val x4, .val x5, .val x6] [x5, x4, .null, x3, x2, (.ref a1)])) rfl (hb hby own_dd5_7)
  refine own_s T1 (mkF m 10 #[rv a1, .val x2, .val x3, .val x4, .val x5, .val x6] [(.ref oP), x5, x4, .null, x3, x2, (.ref a1)]) st1 ?_
  refine own_s T1 (mkF m 12 #[rv a1, .val x2, .val x3, .val x4, .val x5, .val x6] [x6, (.ref oP), x5, x4, .null, x3, x2, (.ref a1)]) (fun _ k => XS.aload X1.here hx rfl (hb hby own_dd5_10) rfl rx6 k) ?_
  obtain ⟨v2, T2, L2, X2, hQ2, st2⟩ := own_callI X1 hx hZ (y := own_y13) (W := 0) (a := a1) rfl hown (own_h hw 88 rfl) (own_h hw 89 rfl) (own_h hw 81 rfl) (own_h hw 90 rfl) (by decide) (own_rmd7 l Z a0 hw [] a1 x2 x3 .null x4 x5 (.ref oP) x6 h0 n0 Z0 g_a1 E1 F0 F1 F2 F3 F4 F5 F6 rx2 rx3 rfl rx4 rx5 rfl rx6) (by decide) (by decide) (g := (mkF m 12 #[rv a1, .val x2, .val x3, .val x4, .val x5, .val x6] [x6, (.ref oP), x5, x4, .null, x3, x2, (.ref a1)])) rfl (by rw [hml]; rfl) (argsL := [x2, x3, .null, x4, x5, (.ref oP), x6]) (rest := []) rfl (lenOf own_pd10 rfl) rfl (by show 2 * 0 + _ ≤ _; exact Nat.le_of_eq rfl) (hb hby own_dd5_12) e1 (by decide) (by decide)
  obtain ⟨rfl, Nq2, Kq2, Eq2, Fq2_0, Fq2_1, Fq2_2, Fq2_3, Fq2_4, Fq2_5, Fq2_6⟩ := hQ2
  have N2 := Fr.app N0 Nq2
  have f3 := own_staKeepW SP Kq2 (allS E1.nostat all0)
  have K2 : Keep h0 T2.heap [a1] := (Keep.refl h0 [a1]).trans Kq2 (allS (Or.inl (List.mem_of_getElem? (i := 0) rfl)) all0)
  have Z2 := Nat.le_trans Z0 Kq2.1
  refine own_s T2 (mkF m 15 #[rv a1, .val x2, .val x3, .val x4, .val x5, .val x6] []) st2 ?_
  exact own_finV X2 hx hret (hb hby own_dd5_15) (own_end (Qv := (own_Qd5 Z a1 x2 x3 x4 x5 x6 oP h0 n0)) X2 (fun _ => rfl) hlk (by decide) (by decide) rfl ⟨rfl, N2, K2, Eq2, Fq2_0, Fq2_1, Fq2_2, Fq2_3, Fq2_4, Fq2_5, Fq2_6⟩)
abbrev own_y15 : MethodName := ⟨"com/example/tagwright/tagwright/Definition", "withId", "(Ljava/lang/String;)Lcom/example/tagwright/tagwright/Definition;"⟩
theorem own_dwi_0 : decode prog_23_method_4_code 0 = .ok (.new 8, 3) := by decide +kernel
theorem own_dwi_3 : decode prog_23_method_4_code 3 = .ok (.dup, 1) := by decide +kernel
theorem own_dwi_4 : decode prog_23_method_4_code 4 = .ok (.aload_n 1, 1) := by decide +kernel
theorem own_dwi_5 : decode prog_23_method_4_code 5 = .ok (.aload_n 0, 1) := by decide +kernel
theorem own_dwi_6 : decode prog_23_method_4_code 6 = .ok (.getfield 13, 3) := by decide +kernel
theorem own_dwi_9 : decode prog_23_method_4_code 9 = .ok (.aload_n 0, 1) := by decide +kernel
theorem own_dwi_10 : decode prog_23_method_4_code 10 = .ok (.getfield 16, 3) := by decide +kernel
theorem own_dwi_13 : decode prog_23_method_4_code 13 = .ok (.aload_n 0, 1) := by decide +kernel
theorem own_dwi_14 : decode prog_23_method_4_code 14 = .ok (.getfield 20, 3) := by decide +kernel
theorem own_dwi_17 : decode prog_23_method_4_code 17 = .ok (.aload_n 0, 1) := by decide +kernel
theorem own_dwi_18 : decode prog_23_method_4_code 18 = .ok (.getfield 24, 3) := by decide +kernel
theorem own_dwi_21 : decode prog_23_method_4_code 21 = .ok (.aload_n 0, 1) := by decide +kernel
theorem own_dwi_22 : decode prog_23_method_4_code 22 = .ok (.getfield 27, 3) := by decide +kernel
theorem own_dwi_25 : decode prog_23_method_4_code 25 = .ok (.aload_n 0, 1) := by decide +kernel
theorem own_dwi_26 : decode prog_23_method_4_code 26 = .ok (.getfield 31, 3) := by decide +kernel
theorem own_dwi_29 : decode prog_23_method_4_code 29 = .ok (.invokespecial 40, 3) := by decide +kernel
theorem own_dwi_32 : decode prog_23_method_4_code 32 = .ok (.areturn, 1) := by decide +kernel
theorem own_efwi (m : MethodId) (x0 : Addr) (x1 : Value) (rx1 : x1.isRef = true) : entryFrame m #[(.ref x0), x1] 2 = mkF m 0 #[rv x0, .val x1] [] := by rcases ref_cases rx1 with rfl | ⟨_, rfl⟩ <;> first | (simp [entryFrame, mkF, argsToLocals, Value.category]; done) | rfl
def own_Qwi (Z : State) (a1 : Addr) (x2 : Value) (y1 : Value) (y2 : Value) (y3 : Value) (y4 : Value) (y5 : Value) (y6 : Value) (h0 : Heap) (n0 : Nat) : Option Value → Heap → List Loc → Prop := fun v h L => (∃ a, v = some (.ref a) ∧ n0 ≤ a ∧ h0.size ≤ a ∧ Exa Z h a "com/example/tagwright/tagwright/Definition" ∧ Fld Z h a "com/example/tagwright/tagwright/Definition" "id" "Ljava/lang/String;" x2 ∧ Fld Z h a "com/example/tagwright/tagwright/Definition" "className" "Ljava/lang/String;" y1 ∧ Fld Z h a "com/example/tagwright/tagwright/Definition" "value" "Lcom/example/tagwright/tagwright/Value;" y2 ∧ Fld Z h a "com/example/tagwright/tagwright/Definition" "arguments" "Ljava/util/List;" y3 ∧ Fld Z h a "com/example/tagwright/tagwright/Definition" "properties" "Ljava/util/List;" y4 ∧ Fld Z h a "com/example/tagwright/tagwright/Definition" "lifecycle" "Lcom/example/tagwright/tagwright/Definition$Lifecycle;" y5 ∧ Fld Z h a "com/example/tagwright/tagwright/Definition" "location" "Lcom/example/tagwright/tagwright/Location;" y6) ∧ Fr n0 L ∧ Keep h0 h []
def own_Rwi : Room := { frames := 3, cells := 1, slots := 7, locals := 44 }
set_option maxRecDepth 65536 in
set_option maxHeartbeats 40000000 in
theorem own_rmwi (l : Launch) (Z : State) (a0 : Array Value) (hw : ∀ d ∈ tables_1, d.before a0 Z = true) (ws : List Jvm.Cond) (a1 : Addr) (x2 : Value) (y1 : Value) (y2 : Value) (y3 : Value) (y4 : Value) (y5 : Value) (y6 : Value) (h0 : Heap) (n0 : Nat) (Z0 : n0 ≤ h0.size) (Ea : Exa Z h0 a1 "com/example/tagwright/tagwright/Definition") (F1 : Fld Z h0 a1 "com/example/tagwright/tagwright/Definition" "className" "Ljava/lang/String;" y1) (F2 : Fld Z h0 a1 "com/example/tagwright/tagwright/Definition" "value" "Lcom/example/tagwright/tagwright/Value;" y2) (F3 : Fld Z h0 a1 "com/example/tagwright/tagwright/Definition" "arguments" "Ljava/util/List;" y3) (F4 : Fld Z h0 a1 "com/example/tagwright/tagwright/Definition" "properties" "Ljava/util/List;" y4) (F5 : Fld Z h0 a1 "com/example/tagwright/tagwright/Definition" "lifecycle" "Lcom/example/tagwright/tagwright/Definition$Lifecycle;" y5) (F6 : Fld Z h0 a1 "com/example/tagwright/tagwright/Definition" "location" "Lcom/example/tagwright/tagwright/Location;" y6) (rx2 : x2.isRef = true) (ry1 : y1.isRef = true) (ry2 : y2.isRef = true) (ry3 : y3.isRef = true) (ry4 : y4.isRef = true) (ry5 : y5.isRef = true) (ry6 : y6.isRef = true) :
    own_Met l Z own_y15 prog_23_method_4_code 2 (some (.object "com/example/tagwright/tagwright/Definition")) ws own_Rwi h0 #[(.ref a1), x2] (own_Qwi Z a1 x2 y1 y2 y3 y4 y5 y6 h0 n0) own_Rwi.cells own_Rwi.slots := by
  refine own_start (plainFor_of_name own_pn7) ?_
  intro p e s m below meth c s₁ X0 hx hZ hby hml hret hlk hown hnm e0
  have hown : s.vm.findClass "com/example/tagwright/tagwright/Definition" = some m.cls := hown
  have hml : c.maxLocals = 2 := hml
  have N0 := Fr.nil n0
  refine own_cast (own_efwi m a1 x2 rx2) ?_
  obtain ⟨T1, h1, X1, e1, E1, A1, D1, -, st1⟩ := newO X0 hx hZ hown (own_h hw 124 rfl) (own_h hw 80 rfl) (own_h hw 81 rfl) e0 (g := (mkF m 0 #[rv a1, .val x2] [])) rfl (hb hby own_dwi_0) (by decide) (by decide)
  obtain ⟨b1, g1⟩ : ∃ z, z = h0.size := ⟨_, rfl⟩
  have ne_a1_b1 : a1 ≠ b1 := Nat.ne_of_lt (Nat.lt_of_lt_of_le Ea.lt (Nat.le_of_eq g1.symm))
  have g_b1 : n0 ≤ b1 := Nat.le_trans Z0 (Nat.le_of_eq g1.symm)
  have sz_b1 : h0.size ≤ b1 := Nat.le_trans (Keep.refl h0 []).1 (Nat.le_of_eq g1.symm)
  rw [← g1] at A1 D1 st1
  have f2 := Exa.ext E1 Ea
  have f3 := Fld.ext E1 F1
  have f4 := Fld.ext E1 F2
  have f5 := Fld.ext E1 F3
  have f6 := Fld.ext E1 F4
  have f7 := Fld.ext E1 F5
  have f8 := Fld.ext E1 F6
  have K1 : Keep h0 h1 [] := (Keep.refl h0 []).ext E1
  have Z1 := Nat.le_trans Z0 E1.1
  have f9 : Fld Z h1 b1 "com/example/tagwright/tagwright/Definition" "id" "Ljava/lang/String;" .null := D1 (Or.inr (own_h hw 93 rfl)) (ty := (.object "java/lang/String")) (by decide)
  have f10 : Fld Z h1 b1 "com/example/tagwright/tagwright/Definition" "className" "Ljava/lang/String;" .null := D1 (Or.inr (own_h hw 95 rfl)) (ty := (.object "java/lang/String")) (by decide)
  have f11 : Fld Z h1 b1 "com/example/tagwright/tagwright/Definition" "value" "Lcom/example/tagwright/tagwright/Value;" .null := D1 (Or.inr (own_h hw 97 rfl)) (ty := (.object "com/example/tagwright/tagwright/Value")) (by decide)
  have f12 : Fld Z h1 b1 "com/example/tagwright/tagwright/Definition" "arguments" "Ljava/util/List;" .null := D1 (Or.inr (own_h hw 99 rfl)) (ty := (.object "java/util/List")) (by decide)
  have f13 : Fld Z h1 b1 "com/example/tagwright/tagwright/Definition" "properties" "Ljava/util/List;" .null := D1 (Or.inr (own_h hw 101 rfl)) (ty := (.object "java/util/List")) (by decide)
  have f14 : Fld Z h1 b1 "com/example/tagwright/tagwright/Definition" "lifecycle" "Lcom/example/tagwright/tagwright/Definition$Lifecycle;" .null := D1 (Or.inr (own_h hw 103 rfl)) (ty := (.object "com/example/tagwright/tagwright/Definition$Lifecycle")) (by decide)
  have f15 : Fld Z h1 b1 "com/example/tagwright/tagwright/Definition" "location" "Lcom/example/tagwright/tagwright/Location;" .null := D1 (Or.inr (own_h hw 105 rfl)) (ty := (.object "com/example/tagwright/tagwright/Location")) (by decide)
  refine own_s T1 (mkF m 3 #[rv a1, .val x2] [(.ref b1)]) st1 ?_
  refine own_s T1 (mkF m 6 #[rv a1, .val x2] [(.ref a1), x2, (.ref b1), (.ref b1)]) (fun _ k => XS.dup X1.here hx rfl (hb hby own_dwi_3) rfl rfl (XS.aloadN X1.here hx rfl (hb hby own_dwi_4) rfl rx2 (XS.aloadN X1.here hx rfl (hb hby own_dwi_5) rfl rfl k))) ?_
  obtain ⟨T16, X16, e16, st16⟩ := getF X1 hx hZ hown (host := "") (Or.inl (own_h hw 94 rfl)) Via.refl e1 f3 (g := (mkF m 6 #[rv a1, .val x2] [(.ref a1), x2, (.ref b1), (.ref b1)])) rfl rfl (hb hby own_dwi_6)
  refine own_s T16 (mkF m 9 #[rv a1, .val x2] [y1, x2, (.ref b1), (.ref b1)]) st16 ?_
  refine own_s T16 (mkF m 10 #[rv a1, .val x2] [(.ref a1), y1, x2, (.ref b1), (.ref b1)]) (fun _ k => XS.aloadN X16.here hx rfl (hb hby own_dwi_9) rfl rfl k) ?_
  obtain ⟨T17, X17, e17, st17⟩ := getF X16 hx hZ hown (host := "") (Or.inl (own_h hw 96 rfl)) Via.refl e16 f4 (g := (mkF m 10 #[rv a1, .val x2] [(.ref a1), y1, x2, (.ref b1), (.ref b1)])) rfl rfl (hb hby own_dwi_10)
  refine own_s T17 (mkF m 13 #[rv a1, .val x2] [y2, y1, x2, (.ref b1), (.ref b1)]) st17 ?_
  refine own_s T17 (mkF m 14 #[rv a1, .val x2] [(.ref a1), y2, y1, x2, (.ref b1), (.ref b1)]) (fun _ k => XS.aloadN X17.here hx rfl (hb hby own_dwi_13) rfl rfl k) ?_
  obtain ⟨T18, X18, e18, st18⟩ := getF X17 hx hZ hown (host := "") (Or.inl (own_h hw 98 rfl)) Via.refl e17 f5 (g := (mkF m 14 #[rv a1, .val x2] [(.ref a1), y2, y1, x2, (.ref b1), (.ref b1)])) rfl rfl (hb hby own_dwi_14)
  refine own_s T18 (mkF m 17 #[rv a1, .val x2] [y3, y2, y1, x2, (.ref b1), (.ref b1)]) st18 ?_
  refine own_s T18 (mkF m 18 #[rv a1, .val x2] [(.ref a1), y3, y2, y1, x2, (.ref b1), (.ref b1)]) (fun _ k => XS.aloadN X18.here hx rfl (hb hby own_dwi_17) rfl rfl k) ?_
  obtain ⟨T19, X19, e19, st19⟩ := getF X18 hx hZ hown (host := "") (Or.inl (own_h hw 100 rfl)) Via.refl e18 f6 (g := (mkF m 18 #[rv a1, .val x2] [(.ref a1), y3, y2, y1, x2, (.ref b1), (.ref b1)])) rfl rfl (hb hby own_dwi_18)
  refine own_s T19 (mkF m 21 #[rv a1, .val x2] [y4, y3, y2, y1, x2, (.ref b1), (.ref b1)]) st19 ?_
  refine own_s T19 (mkF m 22 #[rv a1, .val x2] [(.ref a1), y4, y3, y2, y1, x2, (.ref b1), (.ref b1)]) (fun _ k => XS.aloadN X19.here hx rfl (hb hby own_dwi_21) rfl rfl k) ?_
  obtain ⟨T20, X20, e20, st20⟩ := getF X19 hx hZ hown (host := "") (Or.inl (own_h hw 102 rfl)) Via.refl e19 f7 (g := (mkF m 22 #[rv a1, .val x2] [(.ref a1), y4, y3, y2, y1, x2, (.ref b1), (.ref b1)])) rfl rfl (hb hby own_dwi_22)
  refine own_s T20 (mkF m 25 #[rv a1, .val x2] [y5, y4, y3, y2, y1, x2, (.ref b1), (.ref b1)]) st20 ?_
  refine own_s T20 (mkF m 26 #[rv a1, .val x2] [(.ref a1), y5, y4, y3, y2, y1, x2, (.ref b1), (.ref b1)]) (fun _ k => XS.aloadN X20.here hx rfl (hb hby own_dwi_25) rfl rfl k) ?_
  obtain ⟨T21, X21, e21, st21⟩ := getF X20 hx hZ hown (host := "") (Or.inl (own_h hw 104 rfl)) Via.refl e20 f8 (g := (mkF m 26 #[rv a1, .val x2] [(.ref a1), y5, y4, y3, y2, y1, x2, (.ref b1), (.ref b1)])) rfl rfl (hb hby own_dwi_26)
  refine own_s T21 (mkF m 29 #[rv a1, .val x2] [y6, y5, y4, y3, y2, y1, x2, (.ref b1), (.ref b1)]) st21 ?_
  obtain ⟨v22, T22, L22, X22, hQ22, st22⟩ := own_callI X21 hx hZ (y := own_y13) (W := 1) (a := b1) rfl hown (own_h hw 88 rfl) (own_h hw 89 rfl) (own_h hw 81 rfl) (own_h hw 90 rfl) (by decide) (own_rmd7 l Z a0 hw [] b1 x2 y1 y2 y3 y4 y5 y6 h1 n0 Z1 g_b1 A1 f9 f10 f11 f12 f13 f14 f15 rx2 ry1 ry2 ry3 ry4 ry5 ry6) (by decide) (by decide) (g := (mkF m 29 #[rv a1, .val x2] [y6, y5, y4, y3, y2, y1, x2, (.ref b1), (.ref b1)])) rfl (by rw [hml]; rfl) (argsL := [x2, y1, y2, y3, y4, y5, y6]) (rest := [(.ref b1)]) rfl (lenOf own_pd10 rfl) rfl (by show 2 * 0 + _ ≤ _; exact Nat.le_of_eq rfl) (hb hby own_dwi_29) e21 (by decide) (by decide)
  obtain ⟨rfl, Nq22, Kq22, Eq22, Fq22_0, Fq22_1, Fq22_2, Fq22_3, Fq22_4, Fq22_5, Fq22_6⟩ := hQ22
  have N22 := Fr.app N0 Nq22
  have f23 := f2.keep Kq22
  have f24 := f3.keep Kq22 (ninS ne_a1_b1 nin0)
  have f25 := f4.keep Kq22 (ninS ne_a1_b1 nin0)
  have f26 := f5.keep Kq22 (ninS ne_a1_b1 nin0)
  have f27 := f6.keep Kq22 (ninS ne_a1_b1 nin0)
  have f28 := f7.keep Kq22 (ninS ne_a1_b1 nin0)
  have f29 := f8.keep Kq22 (ninS ne_a1_b1 nin0)
  have K22 : Keep h0 T22.heap [] := K1.trans Kq22 (allS (Or.inr sz_b1) all0)
  have Z22 := Nat.le_trans Z1 Kq22.1
  refine own_s T22 (mkF m 32 #[rv a1, .val x2] [(.ref b1)]) st22 ?_
  exact own_finA X22 hx hret rfl rfl (hb hby own_dwi_32) (own_end (Qv := (own_Qwi Z a1 x2 y1 y2 y3 y4 y5 y6 h0 n0)) X22 (own_some hret) hlk (by decide) (by decide) rfl ⟨⟨_, rfl, g_b1, sz_b1, Eq22, Fq22_0, Fq22_1, Fq22_2, Fq22_3, Fq22_4, Fq22_5, Fq22_6⟩, N22, K22⟩)
abbrev own_y16 : MethodName := ⟨"com/example/tagwright/tagwright/Definition", "id", "()Ljava/lang/String;"⟩
theorem own_dg_id_0 : decode prog_23_method_10_code 0 = .ok (.aload_n 0, 1) := by decide +kernel
theorem own_dg_id_1 : decode prog_23_method_10_code 1 = .ok (.getfield 7, 3) := by decide +kernel
theorem own_dg_id_4 : decode prog_23_method_10_code 4 = .ok (.areturn, 1) := by decide +kernel
theorem own_efg_id (m : MethodId) (x0 : Addr) : entryFrame m #[(.ref x0)] 1 = mkF m 0 #[rv x0] [] := by first | (simp [entryFrame, mkF, argsToLocals, Value.category]; done) | rfl
def own_Qg_id (Z : State) (a1 : Addr) (w : Value) (h0 : Heap) (n0 : Nat) : Option Value → Heap → List Loc → Prop := fun v h L => v = some w ∧ Fr n0 L ∧ h = h0
def own_Rg_id : Room := { frames := 0, cells := 0, slots := 0, locals := 0 }
set_option maxRecDepth 65536 in
set_option maxHeartbeats 40000000 in
theorem own_rmg_id (l : Launch) (Z : State) (a0 : Array Value) (hw : ∀ d ∈ tables_1, d.before a0 Z = true) (ws : List Jvm.Cond) (a1 : Addr) (w : Value) (h0 : Heap) (n0 : Nat) (Z0 : n0 ≤ h0.size) (F1 : Fld Z h0 a1 "com/example/tagwright/tagwright/Definition" "id" "Ljava/lang/String;" w) (rw : w.isRef = true) :
    own_Met l Z own_y16 prog_23_method_10_code 1 (some (.object "java/lang/String")) ws own_Rg_id h0 #[(.ref a1)] (own_Qg_id Z a1 w h0 n0) own_Rg_id.cells own_Rg_id.slots := by
  refine own_start (plainFor_of_name own_pn7) ?_
  intro p e s m below meth c s₁ X0 hx hZ hby hml hret hlk hown hnm e0
  have hown : s.vm.findClass "com/example/tagwright/tagwright/Definition" = some m.cls := hown
  have hml : c.maxLocals = 1 := hml
  have N0 := Fr.nil n0
  refine own_cast (own_efg_id m a1) ?_
  refine own_s s₁ (mkF m 1 #[rv a1] [(.ref a1)]) (fun _ k => XS.aloadN X0.here hx rfl (hb hby own_dg_id_0) rfl rfl k) ?_
  obtain ⟨T1, X1, e1, st1⟩ := getF X0 hx hZ hown (host := "") (Or.inl (own_h hw 92 rfl)) Via.refl e0 F1 (g := (mkF m 1 #[rv a1] [(.ref a1)])) rfl rfl (hb hby own_dg_id_1)
  refine own_s T1 (mkF m 4 #[rv a1] [w]) st1 ?_
  exact own_finA X1 hx hret rfl rw (hb hby own_dg_id_4) (own_end (Qv := (own_Qg_id Z a1 w h0 n0)) X1 (own_some hret) hlk (by decide) (by decide) e1 ⟨rfl, N0, rfl⟩)
abbrev own_y17 : MethodName := ⟨"com/example/tagwright/tagwright/Definition", "className", "()Ljava/lang/String;"⟩
theorem own_dg_className_0 : decode prog_23_method_11_code 0 = .ok (.aload_n 0, 1) := by decide +kernel
theorem own_dg_className_1 : decode prog_23_method_11_code 1 = .ok (.getfield 13, 3) := by decide +kernel
theorem own_dg_className_4 : decode prog_23_method_11_code 4 = .ok (.areturn, 1) := by decide +kernel
theorem own_efg_className (m : MethodId) (x0 : Addr) : entryFrame m #[(.ref x0)] 1 = mkF m 0 #[rv x0] [] := by first | (simp [entryFrame, mkF, argsToLocals, Value.category]; done) | rfl
def own_Qg_className (Z : State) (a1 : Addr) (w : Value) (h0 : Heap) (n0 : Nat) : Option Value → Heap → List Loc → Prop := fun v h L => v = some w ∧ Fr n0 L ∧ h = h0
def own_Rg_className : Room := { frames := 0, cells := 0, slots := 0, locals := 0 }
set_option maxRecDepth 65536 in
set_option maxHeartbeats 40000000 in
theorem own_rmg_className (l : Launch) (Z : State) (a0 : Array Value) (hw : ∀ d ∈ tables_1, d.before a0 Z = true) (ws : List Jvm.Cond) (a1 : Addr) (w : Value) (h0 : Heap) (n0 : Nat) (Z0 : n0 ≤ h0.size) (F1 : Fld Z h0 a1 "com/example/tagwright/tagwright/Definition" "className" "Ljava/lang/String;" w) (rw : w.isRef = true) :
    own_Met l Z own_y17 prog_23_method_11_code 1 (some (.object "java/lang/String")) ws own_Rg_className h0 #[(.ref a1)] (own_Qg_className Z a1 w h0 n0) own_Rg_className.cells own_Rg_className.slots := by
  refine own_start (plainFor_of_name own_pn7) ?_
  intro p e s m below meth c s₁ X0 hx hZ hby hml hret hlk hown hnm e0
  have hown : s.vm.findClass "com/example/tagwright/tagwright/Definition" = some m.cls := hown
  have hml : c.maxLocals = 1 := hml
  have N0 := Fr.nil n0
  refine own_cast (own_efg_className m a1) ?_
  refine own_s s₁ (mkF m 1 #[rv a1] [(.ref a1)]) (fun _ k => XS.aloadN X0.here hx rfl (hb hby own_dg_className_0) rfl rfl k) ?_
  obtain ⟨T1, X1, e1, st1⟩ := getF X0 hx hZ hown (host := "") (Or.inl (own_h hw 94 rfl)) Via.refl e0 F1 (g := (mkF m 1 #[rv a1] [(.ref a1)])) rfl rfl (hb hby own_dg_className_1)
  refine own_s T1 (mkF m 4 #[rv a1] [w]) st1 ?_
  exact own_finA X1 hx hret rfl rw (hb hby own_dg_className_4) (own_end (Qv := (own_Qg_className Z a1 w h0 n0)) X1 (own_some hret) hlk (by decide) (by decide) e1 ⟨rfl, N0, rfl⟩)
abbrev own_y18 : MethodName := ⟨"com/example/tagwright/tagwright/Definition", "value", "()Lcom/example/tagwright/tagwright/Value;"⟩
theorem own_dg_value_0 : decode prog_23_method_12_code 0 = .ok (.aload_n 0, 1) := by decide +kernel
theorem own_dg_value_1 : decode prog_23_method_12_code 1 = .ok (.getfield 16, 3) := by decide +kernel
theorem own_dg_value_4 : decode prog_23_method_12_code 4 = .ok (.areturn, 1) := by decide +kernel
theorem own_efg_value (m : MethodId) (x0 : Addr) : entryFrame m #[(.ref x0)] 1 = mkF m 0 #[rv x0] [] := by first | (simp [entryFrame, mkF, argsToLocals, Value.category]; done) | rfl
def own_Qg_value (Z : State) (a1 : Addr) (w : Value) (h0 : Heap) (n0 : Nat) : Option Value → Heap → List Loc → Prop := fun v h L => v = some w ∧ Fr n0 L ∧ h = h0
def own_Rg_value : Room := { frames := 0, cells := 0, slots := 0, locals := 0 }
set_option maxRecDepth 65536 in
set_option maxHeartbeats 40000000 in
theorem own_rmg_value (l : Launch) (Z : State) (a0 : Array Value) (hw : ∀ d ∈ tables_1, d.before a0 Z = true) (ws : List Jvm.Cond) (a1 : Addr) (w : Value) (h0 : Heap) (n0 : Nat) (Z0 : n0 ≤ h0.size) (F1 : Fld Z h0 a1 "com/example/tagwright/tagwright/Definition" "value" "Lcom/example/tagwright/tagwright/Value;" w) (rw : w.isRef = true) :
    own_Met l Z own_y18 prog_23_method_12_code 1 (some (.object "com/example/tagwright/tagwright/Value")) ws own_Rg_value h0 #[(.ref a1)] (own_Qg_value Z a1 w h0 n0) own_Rg_value.cells own_Rg_value.slots := by
  refine own_start (plainFor_of_name own_pn7) ?_
  intro p e s m below meth c s₁ X0 hx hZ hby hml hret hlk hown hnm e0
  have hown : s.vm.findClass "com/example/tagwright/tagwright/Definition" = some m.cls := hown
  have hml : c.maxLocals = 1 := hml
  have N0 := Fr.nil n0
  refine own_cast (own_efg_value m a1) ?_
  refine own_s s₁ (mkF m 1 #[rv a1] [(.ref a1)]) (fun _ k => XS.aloadN X0.here hx rfl (hb hby own_dg_value_0) rfl rfl k) ?_
  obtain ⟨T1, X1, e1, st1⟩ := getF X0 hx hZ hown (host := "") (Or.inl (own_h hw 96 rfl)) Via.refl e0 F1 (g := (mkF m 1 #[rv a1] [(.ref a1)])) rfl rfl (hb hby own_dg_value_1)
  refine own_s T1 (mkF m 4 #[rv a1] [w]) st1 ?_
  exact own_finA X1 hx hret rfl rw (hb hby own_dg_value_4) (own_end (Qv := (own_Qg_value Z a1 w h0 n0)) X1 (own_some hret) hlk (by decide) (by decide) e1 ⟨rfl, N0, rfl⟩)
abbrev own_y19 : MethodName := ⟨"com/example/tagwright/tagwright/Definition", "arguments", "()Ljava/util/List;"⟩
theorem own_dg_arguments_0 : decode prog_23_method_13_code 0 = .ok (.aload_n 0, 1) := by decide +kernel
theorem own_dg_arguments_1 : decode prog_23_method_13_code 1 = .ok (.getfield 20, 3) := by decide +kernel
theorem own_dg_arguments_4 : decode prog_23_method_13_code 4 = .ok (.areturn, 1) := by decide +kernel
theorem own_efg_arguments (m : MethodId) (x0 : Addr) : entryFrame m #[(.ref x0)] 1 = mkF m 0 #[rv x0] [] := by first | (simp [entryFrame, mkF, argsToLocals, Value.category]; done) | rfl
def own_Qg_arguments (Z : State) (a1 : Addr) (w : Value) (h0 : Heap) (n0 : Nat) : Option Value → Heap → List Loc → Prop := fun v h L => v = some w ∧ Fr n0 L ∧ h = h0
def own_Rg_arguments : Room := { frames := 0, cells := 0, slots := 0, locals := 0 }
set_option maxRecDepth 65536 in
set_option maxHeartbeats 40000000 in
theorem own_rmg_arguments (l : Launch) (Z : State) (a0 : Array Value) (hw : ∀ d ∈ tables_1, d.before a0 Z = true) (ws : List Jvm.Cond) (a1 : Addr) (w : Value) (h0 : Heap) (n0 : Nat) (Z0 : n0 ≤ h0.size) (F1 : Fld Z h0 a1 "com/example/tagwright/tagwright/Definition" "arguments" "Ljava/util/List;" w) (rw : w.isRef = true) :
    own_Met l Z own_y19 prog_23_method_13_code 1 (some (.object "java/util/List")) ws own_Rg_arguments h0 #[(.ref a1)] (own_Qg_arguments Z a1 w h0 n0) own_Rg_arguments.cells own_Rg_arguments.slots := by
  refine own_start (plainFor_of_name own_pn7) ?_
  intro p e s m below meth c s₁ X0 hx hZ hby hml hret hlk hown hnm e0
  have hown : s.vm.findClass "com/example/tagwright/tagwright/Definition" = some m.cls := hown
  have hml : c.maxLocals = 1 := hml
  have N0 := Fr.nil n0
  refine own_cast (own_efg_arguments m a1) ?_
  refine own_s s₁ (mkF m 1 #[rv a1] [(.ref a1)]) (fun _ k => XS.aloadN X0.here hx rfl (hb hby own_dg_arguments_0) rfl rfl k) ?_
  obtain ⟨T1, X1, e1, st1⟩ := getF X0 hx hZ hown (host := "") (Or.inl (own_h hw 98 rfl)) Via.refl e0 F1 (g := (mkF m 1 #[rv a1] [(.ref a1)])) rfl rfl (hb hby own_dg_arguments_1)
  refine own_s T1 (mkF m 4 #[rv a1] [w]) st1 ?_
  exact own_finA X1 hx hret rfl rw (hb hby own_dg_arguments_4) (own_end (Qv := (own_Qg_arguments Z a1 w h0 n0)) X1 (own_some hret) hlk (by decide) (by decide) e1 ⟨rfl, N0, rfl⟩)
abbrev own_y20 : MethodName := ⟨"com/example/tagwright/tagwright/Definition", "properties", "()Ljava/util/List;"⟩
theorem own_dg_properties_0 : decode prog_23_method_14_code 0 = .ok (.aload_n 0, 1) := by decide +kernel
theorem own_dg_properties_1 : decode prog_23_method_14_code 1 = .ok (.getfield 24, 3) := by decide +kernel
theorem own_dg_properties_4 : decode prog_23_method_14_code 4 = .ok (.areturn, 1) := by decide +kernel
theorem own_efg_properties (m : MethodId) (x0 : Addr) : entryFrame m #[(.ref x0)] 1 = mkF m 0 #[rv x0] [] := by first | (simp [entryFrame, mkF, argsToLocals, Value.category]; done) | rfl
def own_Qg_properties (Z : State) (a1 : Addr) (w : Value) (h0 : Heap) (n0 : Nat) : Option Value → Heap → List Loc → Prop := fun v h L => v = some w ∧ Fr n0 L ∧ h = h0
def own_Rg_properties : Room := { frames := 0, cells := 0, slots := 0, locals := 0 }
set_option maxRecDepth 65536 in
set_option maxHeartbeats 40000000 in
theorem own_rmg_properties (l : Launch) (Z : State) (a0 : Array Value) (hw : ∀ d ∈ tables_1, d.before a0 Z = true) (ws : List Jvm.Cond) (a1 : Addr) (w : Value) (h0 : Heap) (n0 : Nat) (Z0 : n0 ≤ h0.size) (F1 : Fld Z h0 a1 "com/example/tagwright/tagwright/Definition" "properties" "Ljava/util/List;" w) (rw : w.isRef = true) :
    own_Met l Z own_y20 prog_23_method_14_code 1 (some (.object "java/util/List")) ws own_Rg_properties h0 #[(.ref a1)] (own_Qg_properties Z a1 w h0 n0) own_Rg_properties.cells own_Rg_properties.slots := by
  refine own_start (plainFor_of_name own_pn7) ?_
  intro p e s m below meth c s₁ X0 hx hZ hby hml hret hlk hown hnm e0
  have hown : s.vm.findClass "com/example/tagwright/tagwright/Definition" = some m.cls := hown
  have hml : c.maxLocals = 1 := hml
  have N0 := Fr.nil n0
  refine own_cast (own_efg_properties m a1) ?_
  refine own_s s₁ (mkF m 1 #[rv a1] [(.ref a1)]) (fun _ k => XS.aloadN X0.here hx rfl (hb hby own_dg_properties_0) rfl rfl k) ?_
  obtain ⟨T1, X1, e1, st1⟩ := getF X0 hx hZ hown (host := "") (Or.inl (own_h hw 100 rfl)) Via.refl e0 F1 (g := (mkF m 1 #[rv a1] [(.ref a1)])) rfl rfl (hb hby own_dg_properties_1)
  refine own_s T1 (mkF m 4 #[rv a1] [w]) st1 ?_
  exact own_finA X1 hx hret rfl rw (hb hby own_dg_properties_4) (own_end (Qv := (own_Qg_properties Z a1 w h0 n0)) X1 (own_some hret) hlk (by decide) (by decide) e1 ⟨rfl, N0, rfl⟩)
abbrev own_y21 : MethodName := ⟨"com/example/tagwright/tagwright/Definition", "lifecycle", "()Lcom/example/tagwright/tagwright/Definition$Lifecycle;"⟩
theorem own_dg_lifecycle_0 : decode prog_23_method_15_code 0 = .ok (.aload_n 0, 1) := by decide +kernel
theorem own_dg_lifecycle_1 : decode prog_23_method_15_code 1 = .ok (.getfield 27, 3) := by decide +kernel
theorem own_dg_lifecycle_4 : decode prog_23_method_15_code 4 = .ok (.areturn, 1) := by decide +kernel
theorem own_efg_lifecycle (m : MethodId) (x0 : Addr) : entryFrame m #[(.ref x0)] 1 = mkF m 0 #[rv x0] [] := by first | (simp [entryFrame, mkF, argsToLocals, Value.category]; done) | rfl
def own_Qg_lifecycle (Z : State) (a1 : Addr) (w : Value) (h0 : Heap) (n0 : Nat) : Option Value → Heap → List Loc → Prop := fun v h L => v = some w ∧ Fr n0 L ∧ h = h0
def own_Rg_lifecycle : Room := { frames := 0, cells := 0, slots := 0, locals := 0 }
set_option maxRecDepth 65536 in
set_option maxHeartbeats 40000000 in
theorem own_rmg_lifecycle (l : Launch) (Z : State) (a0 : Array Value) (hw : ∀ d ∈ tables_1, d.before a0 Z = true) (ws : List Jvm.Cond) (a1 : Addr) (w : Value) (h0 : Heap) (n0 : Nat) (Z0 : n0 ≤ h0.size) (F1 : Fld Z h0 a1 "com/example/tagwright/tagwright/Definition" "lifecycle" "Lcom/example/tagwright/tagwright/Definition$Lifecycle;" w) (rw : w.isRef = true) :
    own_Met l Z own_y21 prog_23_method_15_code 1 (some (.object "com/example/tagwright/tagwright/Definition$Lifecycle")) ws own_Rg_lifecycle h0 #[(.ref a1)] (own_Qg_lifecycle Z a1 w h0 n0) own_Rg_lifecycle.cells own_Rg_lifecycle.slots := by
  refine own_start (plainFor_of_name own_pn7) ?_
  intro p e s m below meth c s₁ X0 hx hZ hby hml hret hlk hown hnm e0
  have hown : s.vm.findClass "com/example/tagwright/tagwright/Definition" = some m.cls := hown
  have hml : c.maxLocals = 1 := hml
  have N0 := Fr.nil n0
  refine own_cast (own_efg_lifecycle m a1) ?_
  refine own_s s₁ (mkF m 1 #[rv a1] [(.ref a1)]) (fun _ k => XS.aloadN X0.here hx rfl (hb hby own_dg_lifecycle_0) rfl rfl k) ?_
  obtain ⟨T1, X1, e1, st1⟩ := getF X0 hx hZ hown (host := "") (Or.inl (own_h hw 102 rfl)) Via.refl e0 F1 (g := (mkF m 1 #[rv a1] [(.ref a1)])) rfl rfl (hb hby own_dg_lifecycle_1)
  refine own_s T1 (mkF m 4 #[rv a1] [w]) st1 ?_
  exact own_finA X1 hx hret rfl rw (hb hby own_dg_lifecycle_4) (own_end (Qv := (own_Qg_lifecycle Z a1 w h0 n0)) X1 (own_some hret) hlk (by decide) (by decide) e1 ⟨rfl, N0, rfl⟩)
abbrev own_y22 : MethodName := ⟨"com/example/tagwright/tagwright/Definition", "location", "()Lcom/example/tagwright/tagwright/Location;"⟩
theorem own_dg_location_0 : decode prog_23_method_16_code 0 = .ok (.aload_n 0, 1) := by decide +kernel
theorem own_dg_location_1 : decode prog_23_method_16_code 1 = .ok (.getfield 31, 3) := by decide +kernel
theorem own_dg_location_4 : decode prog_23_method_16_code 4 = .ok (.areturn, 1) := by decide +kernel
theorem own_efg_location (m : MethodId) (x0 : Addr) : entryFrame m #[(.ref x0)] 1 = mkF m 0 #[rv x0] [] := by first | (simp [entryFrame, mkF, argsToLocals, Value.category]; done) | rfl
def own_Qg_location (Z : State) (a1 : Addr) (w : Value) (h0 : Heap) (n0 : Nat) : Option Value → Heap → List Loc → Prop := fun v h L => v = some w ∧ Fr n0 L ∧ h = h0
def own_Rg_location : Room := { frames := 0, cells := 0, slots := 0, locals := 0 }
set_option maxRecDepth 65536 in
set_option maxHeartbeats 40000000 in
theorem own_rmg_location (l : Launch) (Z : State) (a0 : Array Value) (hw : ∀ d ∈ tables_1, d.before a0 Z = true) (ws : List Jvm.Cond) (a1 : Addr) (w : Value) (h0 : Heap) (n0 : Nat) (Z0 : n0 ≤ h0.size) (F1 : Fld Z h0 a1 "com/example/tagwright/tagwright/Definition" "location" "Lcom/example/tagwright/tagwright/Location;" w) (rw : w.isRef = true) :
    own_Met l Z own_y22 prog_23_method_16_code 1 (some (.object "com/example/tagwright/tagwright/Location")) ws own_Rg_location h0 #[(.ref a1)] (own_Qg_location Z a1 w h0 n0) own_Rg_location.cells own_Rg_location.slots := by
  refine own_start (plainFor_of_name own_pn7) ?_
  intro p e s m below meth c s₁ X0 hx hZ hby hml hret hlk hown hnm e0
  have hown : s.vm.findClass "com/example/tagwright/tagwright/Definition" = some m.cls := hown
  have hml : c.maxLocals = 1 := hml
  have N0 := Fr.nil n0
  refine own_cast (own_efg_location m a1) ?_
  refine own_s s₁ (mkF m 1 #[rv a1] [(.ref a1)]) (fun _ k => XS.aloadN X0.here hx rfl (hb hby own_dg_location_0) rfl rfl k) ?_
  obtain ⟨T1, X1, e1, st1⟩ := getF X0 hx hZ hown (host := "") (Or.inl (own_h hw 104 rfl)) Via.refl e0 F1 (g := (mkF m 1 #[rv a1] [(.ref a1)])) rfl rfl (hb hby own_dg_location_1)
  refine own_s T1 (mkF m 4 #[rv a1] [w]) st1 ?_
  exact own_finA X1 hx hret rfl rw (hb hby own_dg_location_4) (own_end (Qv := (own_Qg_location Z a1 w h0 n0)) X1 (own_some hret) hlk (by decide) (by decide) e1 ⟨rfl, N0, rfl⟩)
abbrev own_y23 : MethodName := ⟨"java/util/AbstractCollection", "<init>", "()V"⟩
theorem own_pn8 : plainName "java/util/AbstractCollection" = true := by first | (simp [plainName, overriddenIn]; done) | decide +kernel
theorem own_dabc_0 : decode jdk_22_method_1_code 0 = .ok (.aload_n 0, 1) := by decide +kernel
theorem own_dabc_1 : decode jdk_22_method_1_code 1 = .ok (.invokespecial 1, 3) := by decide +kernel
theorem own_dabc_4 : decode jdk_22_method_1_code 4 = .ok (.return_, 1) := by decide +kernel
theorem own_efabc (m : MethodId) (x0 : Addr) : entryFrame m #[(.ref x0)] 1 = mkF m 0 #[rv x0] [] := by first | (simp [entryFrame, mkF, argsToLocals, Value.category]; done) | rfl
def own_Qabc (Z : State) (a1 : Addr) (h0 : Heap) (n0 : Nat) : Option Value → Heap → List Loc → Prop := fun v h L => v = none ∧ Fr n0 L ∧ h = h0
def own_Rabc : Room := { frames := 1, cells := 0, slots := 0, locals := 12 }
set_option maxRecDepth 65536 in
set_option maxHeartbeats 40000000 in
theorem own_rmabc (l : Launch) (Z : State) (a0 : Array Value) (hw : ∀ d ∈ tables_1, d.before a0 Z = true) (ws : List Jvm.Cond) (a1 : Addr) (h0 : Heap) (n0 : Nat) (Z0 : n0 ≤ h0.size) :
    own_Met l Z own_y23 jdk_22_method_1_code 1 none ws own_Rabc h0 #[(.ref a1)] (own_Qabc Z a1 h0 n0) own_Rabc.cells own_Rabc.slots := by
  refine own_start (plainFor_of_name own_pn8) ?_
  intro p e s m below meth c s₁ X0 hx hZ hby hml hret hlk hown hnm e0
  have hown : s.vm.findClass "java/util/AbstractCollection" = some m.cls := hown
  have hml : c.maxLocals = 1 := hml
  have N0 := Fr.nil n0
  refine own_cast (own_efabc m a1) ?_
  refine own_s s₁ (mkF m 1 #[rv a1] [(.ref a1)]) (fun _ k => XS.aloadN X0.here hx rfl (hb hby own_dabc_0) rfl rfl k) ?_
  obtain ⟨T1, X1, e1, st1⟩ := initO X0 hx hZ hown (own_h hw 73 rfl) (own_h hw 16 rfl) (own_h hw 17 rfl) e0 (g := (mkF m 1 #[rv a1] [(.ref a1)])) rfl (by rw [hml]; rfl) rfl (hb hby own_dabc_1) (by decide) (W := 0) (by show 2 * 0 + _ ≤ _; exact Nat.le_of_eq rfl) (by decide)
  refine own_s T1 (mkF m 4 #[rv a1] []) st1 ?_
  exact own_finV X1 hx hret (hb hby own_dabc_4) (own_end (Qv := (own_Qabc Z a1 h0 n0)) X1 (fun _ => rfl) hlk (by decide) (by decide) e1 ⟨rfl, N0, rfl⟩)
abbrev own_y24 : MethodName := ⟨"java/util/AbstractList", "<init>", "()V"⟩
theorem own_pn9 : plainName "java/util/AbstractList" = true := by first | (simp [plainName, overriddenIn]; done) | decide +kernel
theorem own_dabl_0 : decode jdk_39_method_1_code 0 = .ok (.aload_n 0, 1) := by decide +kernel
theorem own_dabl_1 : decode jdk_39_method_1_code 1 = .ok (.invokespecial 1, 3) := by decide +kernel
theorem own_dabl_4 : decode jdk_39_method_1_code 4 = .ok (.aload_n 0, 1) := by decide +kernel
theorem own_dabl_5 : decode jdk_39_method_1_code 5 = .ok (.iconst 0, 1) := by decide +kernel
theorem own_dabl_6 : decode jdk_39_method_1_code 6 = .ok (.putfield 7, 3) := by decide +kernel
theorem own_dabl_9 : decode jdk_39_method_1_code 9 = .ok (.return_, 1) := by decide +kernel
theorem own_efabl (m : MethodId) (x0 : Addr) : entryFrame m #[(.ref x0)] 1 = mkF m 0 #[rv x0] [] := by first | (simp [entryFrame, mkF, argsToLocals, Value.category]; done) | rfl
def own_Qabl (Z : State) (a1 : Addr) (h0 : Heap) (n0 : Nat) : Option Value → Heap → List Loc → Prop := fun v h L => v = none ∧ Fr n0 L ∧ Keep h0 h [a1] ∧ Exa Z h a1 "java/util/ArrayList" ∧ Fld Z h a1 "java/util/AbstractList" "modCount" "I" (.int 0) ∧ Fld Z h a1 "java/util/ArrayList" "elementData" "[Ljava/lang/Object;" .null
def own_Rabl : Room := { frames := 2, cells := 0, slots := 0, locals := 24 }
set_option maxRecDepth 65536 in
set_option maxHeartbeats 40000000 in
theorem own_rmabl (l : Launch) (Z : State) (a0 : Array Value) (hw : ∀ d ∈ tables_1, d.before a0 Z = true) (ws : List Jvm.Cond) (a1 : Addr) (h0 : Heap) (n0 : Nat) (Z0 : n0 ≤ h0.size) (g_a1 : n0 ≤ a1) (E1 : Exa Z h0 a1 "java/util/ArrayList") (F1 : Fld Z h0 a1 "java/util/AbstractList" "modCount" "I" (.int 0)) (F2 : Fld Z h0 a1 "java/util/ArrayList" "elementData" "[Ljava/lang/Object;" .null) :
    own_Met l Z own_y24 jdk_39_method_1_code 1 none ws own_Rabl h0 #[(.ref a1)] (own_Qabl Z a1 h0 n0) own_Rabl.cells own_Rabl.slots := by
  refine own_start (plainFor_of_name own_pn9) ?_
  intro p e s m below meth c s₁ X0 hx hZ hby hml hret hlk hown hnm e0
  have hown : s.vm.findClass "java/util/AbstractList" = some m.cls := hown
  have hml : c.maxLocals = 1 := hml
  have N0 := Fr.nil n0
  refine own_cast (own_efabl m a1) ?_
  refine own_s s₁ (mkF m 1 #[rv a1] [(.ref a1)]) (fun _ k => XS.aloadN X0.here hx rfl (hb hby own_dabl_0) rfl rfl k) ?_
  obtain ⟨v1, T1, L1, X1, hQ1, st1⟩ := own_callI X0 hx hZ (y := own_y23) (W := 0) (a := a1) rfl hown (own_h hw 67 rfl) (own_h hw 68 rfl) (own_h hw 71 rfl) (own_h hw 72 rfl) (by decide) (own_rmabc l Z a0 hw [] a1 h0 n0 Z0) (by decide) (by decide) (g := (mkF m 1 #[rv a1] [(.ref a1)])) rfl (by rw [hml]; rfl) (argsL := []) (rest := []) rfl (lenOf own_pd9 rfl) rfl (by show 2 * 0 + _ ≤ _; exact Nat.le_of_eq rfl) (hb hby own_dabl_1) e0 (by decide) (by decide)
  obtain ⟨rfl, Nq1, e1⟩ := hQ1
  have N1 := Fr.app N0 Nq1
  refine own_s T1 (mkF m 4 #[rv a1] []) st1 ?_
  refine own_s T1 (mkF m 6 #[rv a1] [(.int 0), (.ref a1)]) (fun _ k => XS.aloadN X1.here hx rfl (hb hby own_dabl_4) rfl rfl (XS.iconst X1.here hx rfl (hb hby own_dabl_5) k)) ?_
  obtain ⟨T2, h2, X2, e2, W2, st2⟩ := putF X1 hx hZ hown (host := "") (Or.inl (own_h hw 74 rfl)) Via.refl e1 F1 E1 (Or.inl (own_h hw 75 rfl)) (own_h hw 56 rfl) (ty := .int) (by decide) rfl rfl (g := (mkF m 6 #[rv a1] [(.int 0), (.ref a1)])) rfl rfl (hb hby own_dabl_6)
  have Fw2 := Fld.same W2 F1
  have f3 := Exa.wr W2 E1
  have f4 := Fld.other W2 F2 (Or.inr (slot_ne (Or.inl (own_h hw 78 rfl)) (Or.inl (own_h hw 75 rfl)) (by decide) (t := (.array (.object "java/lang/Object"))) (t' := .int) (by decide) (by decide)))
  have K2 : Keep h0 h2 [a1] := (Keep.refl h0 [a1]).wr W2 (Or.inl (List.mem_of_getElem? (i := 0) rfl))
  have Z2 := Nat.le_trans Z0 (Nat.le_of_eq W2.size.symm)
  have N2 := Fr.snoc X2 N1 g_a1
  refine own_s T2 (mkF m 9 #[rv a1] []) st2 ?_
  exact own_finV X2 hx hret (hb hby own_dabl_9) (own_end (Qv := (own_Qabl Z a1 h0 n0)) X2 (fun _ => rfl) hlk (by decide) (by decide) e2 ⟨rfl, N2, K2, f3, Fw2, f4⟩)
abbrev own_y25 : MethodName := ⟨"java/util/ArrayList", "<init>", "()V"⟩
theorem own_pn10 : plainName "java/util/ArrayList" = true := by first | (simp [plainName, overriddenIn]; done) | decide +kernel
theorem own_dal_0 : decode jdk_38_method_2_code 0 = .ok (.aload_n 0, 1) := by decide +kernel
theorem own_dal_1 : decode jdk_38_method_2_code 1 = .ok (.invokespecial 1, 3) := by decide +kernel
theorem own_dal_4 : decode jdk_38_method_2_code 4 = .ok (.aload_n 0, 1) := by decide +kernel
theorem own_dal_5 : decode jdk_38_method_2_code 5 = .ok (.getstatic 39, 3) := by decide +kernel
theorem own_dal_8 : decode jdk_38_method_2_code 8 = .ok (.putfield 9, 3) := by decide +kernel
theorem own_dal_11 : decode jdk_38_method_2_code 11 = .ok (.return_, 1) := by decide +kernel
theorem own_efal (m : MethodId) (x0 : Addr) : entryFrame m #[(.ref x0)] 1 = mkF m 0 #[rv x0] [] := by first | (simp [entryFrame, mkF, argsToLocals, Value.category]; done) | rfl
def own_Qal (Z : State) (a1 : Addr) (oD : Addr) (h0 : Heap) (n0 : Nat) : Option Value → Heap → List Loc → Prop := fun v h L => v = none ∧ Fr n0 L ∧ Keep h0 h [a1] ∧ Exa Z h a1 "java/util/ArrayList"
def own_Ral : Room := { frames := 3, cells := 0, slots := 0, locals := 36 }
set_option maxRecDepth 65536 in
set_option maxHeartbeats 40000000 in
theorem own_rmal (l : Launch) (Z : State) (a0 : Array Value) (hw : ∀ d ∈ tables_1, d.before a0 Z = true) (ws : List Jvm.Cond) (a1 : Addr) (oD : Addr) (h0 : Heap) (n0 : Nat) (Z0 : n0 ≤ h0.size) (g_a1 : n0 ≤ a1) (E1 : Exa Z h0 a1 "java/util/ArrayList") (F1 : Fld Z h0 a1 "java/util/AbstractList" "modCount" "I" (.int 0)) (F2 : Fld Z h0 a1 "java/util/ArrayList" "elementData" "[Ljava/lang/Object;" .null) (SD : Sta Z h0 "java/util/ArrayList" "DEFAULTCAPACITY_EMPTY_ELEMENTDATA" "[Ljava/lang/Object;" (.ref oD)) :
    own_Met l Z own_y25 jdk_38_method_2_code 1 none ws own_Ral h0 #[(.ref a1)] (own_Qal Z a1 oD h0 n0) own_Ral.cells own_Ral.slots := by
  refine own_start (plainFor_of_name own_pn10) ?_
  intro p e s m below meth c s₁ X0 hx hZ hby hml hret hlk hown hnm e0
  have hown : s.vm.findClass "java/util/ArrayList" = some m.cls := hown
  have hml : c.maxLocals = 1 := hml
  have N0 := Fr.nil n0
  refine own_cast (own_efal m a1) ?_
  refine own_s s₁ (mkF m 1 #[rv a1] [(.ref a1)]) (fun _ k => XS.aloadN X0.here hx rfl (hb hby own_dal_0) rfl rfl k) ?_
  obtain ⟨v1, T1, L1, X1, hQ1, st1⟩ := own_callI X0 hx hZ (y := own_y24) (W := 0) (a := a1) rfl hown (own_h hw 61 rfl) (own_h hw 62 rfl) (own_h hw 65 rfl) (own_h hw 66 rfl) (by decide) (own_rmabl l Z a0 hw [] a1 h0 n0 Z0 g_a1 E1 F1 F2) (by decide) (by decide) (g := (mkF m 1 #[rv a1] [(.ref a1)])) rfl (by rw [hml]; rfl) (argsL := []) (rest := []) rfl (lenOf own_pd9 rfl) rfl (by show 2 * 0 + _ ≤ _; exact Nat.le_of_eq rfl) (hb hby own_dal_1) e0 (by decide) (by decide)
  obtain ⟨rfl, Nq1, Kq1, Eq1, Mq1, Dq1⟩ := hQ1
  have N1 := Fr.app N0 Nq1
  have f2 := own_staKeepW SD Kq1 (allS E1.nostat all0)
  have K1 : Keep h0 T1.heap [a1] := (Keep.refl h0 [a1]).trans Kq1 (allS (Or.inl (List.mem_of_getElem? (i := 0) rfl)) all0)
  have Z1 := Nat.le_trans Z0 Kq1.1
  refine own_s T1 (mkF m 4 #[rv a1] []) st1 ?_
  refine own_s T1 (mkF m 5 #[rv a1] [(.ref a1)]) (fun _ k => XS.aloadN X1.here hx rfl (hb hby own_dal_4) rfl rfl k) ?_
  obtain ⟨T3, X3, e3, st3⟩ := getS2 X1 hx hZ hown (host := "") (Or.inl (own_h hw 76 rfl)) Via.refl rfl f2 (g := (mkF m 5 #[rv a1] [(.ref a1)])) rfl (hb hby own_dal_5)
  refine own_s T3 (mkF m 8 #[rv a1] [(.ref oD), (.ref a1)]) st3 ?_
  obtain ⟨T4, h4, X4, e4, W4, st4⟩ := putF X3 hx hZ hown (host := "") (Or.inl (own_h hw 77 rfl)) Via.refl e3 Dq1 Eq1 (Or.inl (own_h hw 78 rfl)) (own_h hw 56 rfl) (ty := (.array (.object "java/lang/Object"))) (by decide) rfl rfl (g := (mkF m 8 #[rv a1] [(.ref oD), (.ref a1)])) rfl rfl (hb hby own_dal_8)
  have Fw4 := Fld.same W4 Dq1
  have f5 := Sta.wr W4 f2
  have f6 := Exa.wr W4 Eq1
  have f7 := Fld.other W4 Mq1 (Or.inr (slot_ne (Or.inl (own_h hw 75 rfl)) (Or.inl (own_h hw 78 rfl)) (by decide) (t := .int) (t' := (.array (.object "java/lang/Object"))) (by decide) (by decide)))
  have K4 : Keep h0 h4 [a1] := K1.wr W4 (Or.inl (List.mem_of_getElem? (i := 0) rfl))
  have Z4 := Nat.le_trans Z1 (Nat.le_of_eq W4.size.symm)
  have N4 := Fr.snoc X4 N1 g_a1
  refine own_s T4 (mkF m 11 #[rv a1] []) st4 ?_
  exact own_finV X4 hx hret (hb hby own_dal_11) (own_end (Qv := (own_Qal Z a1 oD h0 n0)) X4 (fun _ => rfl) hlk (by decide) (by decide) e4 ⟨rfl, N4, K4, f6⟩)
theorem own_pd11 : parseMethodDescriptor "(I)Ljava/lang/String;" = some ⟨[.int], some (.object "java/lang/String")⟩ := by decide +kernel
theorem own_pd12 : parseMethodDescriptor "(Ljava/lang/String;II)V" = some ⟨[(.object "java/lang/String"), .int, .int], none⟩ := by decide +kernel
theorem own_pd13 : parseMethodDescriptor "(Ljava/lang/String;Ljava/lang/String;Ljava/util/List;Ljava/util/List;Lcom/example/tagwright/tagwright/Location;)V" = some ⟨[(.object "java/lang/String"), (.object "java/lang/String"), (.object "java/util/List"), (.object "java/util/List"), (.object "com/example/tagwright/tagwright/Location")], none⟩ := by decide +kernel
theorem own_pd14 : parseMethodDescriptor "(Ljava/lang/String;)Lcom/example/tagwright/tagwright/Definition;" = some ⟨[(.object "java/lang/String")], some (.object "com/example/tagwright/tagwright/Definition")⟩ := by decide +kernel
theorem own_pd15 : parseMethodDescriptor "()Ljava/lang/String;" = some ⟨[], some (.object "java/lang/String")⟩ := by decide +kernel
theorem own_pd16 : parseMethodDescriptor "()Lcom/example/tagwright/tagwright/Value;" = some ⟨[], some (.object "com/example/tagwright/tagwright/Value")⟩ := by decide +kernel
theorem own_pd17 : parseMethodDescriptor "()Ljava/util/List;" = some ⟨[], some (.object "java/util/List")⟩ := by decide +kernel
theorem own_pd18 : parseMethodDescriptor "()Lcom/example/tagwright/tagwright/Definition$Lifecycle;" = some ⟨[], some (.object "com/example/tagwright/tagwright/Definition$Lifecycle")⟩ := by decide +kernel
theorem own_pd19 : parseMethodDescriptor "()Lcom/example/tagwright/tagwright/Location;" = some ⟨[], some (.object "com/example/tagwright/tagwright/Location")⟩ := by decide +kernel
theorem own_ef0 (m : MethodId) (x0 : Int32) (x1 : Int32) (x2 : Int32) (x3 : Int32) (x4 : Int32) (x5 : Int32) : entryFrame m #[(.int x0), (.int x1), (.int x2), (.int x3), (.int x4), (.int x5)] maxLocals = mkF m 0 #[iv x0, iv x1, iv x2, iv x3, iv x4, iv x5, u_, u_, u_, u_, u_, u_, u_, u_, u_, u_, u_] [] := by first | (simp [entryFrame, mkF, argsToLocals, Value.category, maxLocals]; done) | rfl
def own_Q0 (Z : State) (p1 : Int32) (p2 : Int32) (p3 : Int32) (p4 : Int32) (p5 : Int32) (p6 : Int32) (gC : Int32) (oP : Addr) (oD : Addr) (h0 : Heap) (n0 : Nat) : Option Value → Heap → Vm → List Loc → Prop := fun v h vm L => v = some (.int 1) ∧ Fr n0 L
set_option maxRecDepth 65536 in
set_option maxHeartbeats 40000000 in
theorem own_rm0 (l : Launch) (Z : State) (a0 : Array Value) (hw : ∀ d ∈ tables_1, d.before a0 Z = true) (ws : List Jvm.Cond) (p1 : Int32) (p2 : Int32) (p3 : Int32) (p4 : Int32) (p5 : Int32) (p6 : Int32) (gC : Int32) (oP : Addr) (oD : Addr) (h0 : Heap) (n0 : Nat) (Z0 : n0 ≤ h0.size) (SC : Sta Z h0 "java/lang/String" "COMPACT_STRINGS" "Z" (.int gC)) (hG : ¬ gC = (0 : Int32)) (hO : Old Z n0 h0) (hh : Jvm.Lit.constHeld Z "java/lang/String" 7) (hcw : Jvm.Lit.compactW.before a0 Z = true) (SP : Sta Z h0 "com/example/tagwright/tagwright/Definition$Lifecycle" "PLAIN" "Lcom/example/tagwright/tagwright/Definition$Lifecycle;" (.ref oP)) (SD : Sta Z h0 "java/util/ArrayList" "DEFAULTCAPACITY_EMPTY_ELEMENTDATA" "[Ljava/lang/Object;" (.ref oD)) :
    own_MetW l Z x code maxLocals ret ws room_1 h0 (fun vm => own_EL Z vm h0) #[(.int p1), (.int p2), (.int p3), (.int p4), (.int p5), (.int p6)] (own_Q0 Z p1 p2 p3 p4 p5 p6 gC oP oD h0 n0) 48 1216 := by
  refine own_startW (plainFor_of_name own_pn3) ?_
  intro p e s m below meth c s₁ X0 hx hZ hby hml hret hlk hown hnm e0 hS hs0 hJ
  have hk0 : 0 ≤ h0.size := Nat.zero_le _
  have hown : s.vm.findClass "com/example/tagwright/tagwright/DefinitionWithIdPinLaw" = some m.cls := hown
  have hml : c.maxLocals = 17 := hml
  have N0 := Fr.nil n0
  refine own_cast (own_ef0 m p1 p2 p3 p4 p5 p6) ?_
  refine own_s s₁ (mkF m 1 #[iv p1, iv p2, iv p3, iv p4, iv p5, iv p6, u_, u_, u_, u_, u_, u_, u_, u_, u_, u_, u_] [(.int p1)]) (fun _ k => XS.iloadN X0.here hx rfl (hb hby at_0) rfl  k) ?_
  obtain ⟨v1, T1, L1, X1, hQ1, hS, hg1, hZ, hown, st1⟩ := own_callSW (s := s) X0 hx hZ hS hk0 (y := own_y9) (W := 0) hown (own_h hw 0 rfl) (own_h hw 1 rfl) (own_h hw 2 rfl) (own_h hw 3 rfl) (by decide) (own_rmstr l Z a0 hw [] p1 gC h0 n0 Z0 SC hG hO hh hcw) (fun vm' hv => own_ELw hJ hv) (by decide) (by decide) (g := (mkF m 1 #[iv p1, iv p2, iv p3, iv p4, iv p5, iv p6, u_, u_, u_, u_, u_, u_, u_, u_, u_, u_, u_] [(.int p1)])) rfl (by rw [hml]; rfl) (argsL := [(.int p1)]) (rest := []) rfl (lenOf own_pd11 rfl) rfl (by show 2 * 0 + _ ≤ _; exact Nat.le_of_eq rfl) (hb hby at_1) e0 (by decide) (by decide)
  obtain ⟨⟨wv1, rfl, rw1⟩, Nq1, Kq1, hJ⟩ := hQ1
  have N1 := Fr.app N0 Nq1
  have f2 := own_staKeep SC Kq1
  have f3 := Old.keep hO Kq1 all0
  have f4 := own_staKeep SP Kq1
  have f5 := own_staKeep SD Kq1
  have Z1 := Nat.le_trans Z0 Kq1.1
  refine own_s T1 (mkF m 4 #[iv p1, iv p2, iv p3, iv p4, iv p5, iv p6, u_, u_, u_, u_, u_, u_, u_, u_, u_, u_, u_] [wv1]) st1 ?_
  refine own_s T1 (mkF m 7 #[iv p1, iv p2, iv p3, iv p4, iv p5, iv p6, .val wv1, u_, u_, u_, u_, u_, u_, u_, u_, u_, u_] [(.int p2)]) (fun _ k => XS.astore X1.here hx rfl (hb hby at_4) rfl rw1 (l' := #[iv p1, iv p2, iv p3, iv p4, iv p5, iv p6, .val wv1, u_, u_, u_, u_, u_, u_, u_, u_, u_, u_]) (own_stV rw1 rfl (Or.inl rfl) rfl) (XS.iloadN X1.here hx rfl (hb hby at_6) rfl  k)) ?_
  obtain ⟨v6, T6, L6, X6, hQ6, hS, hg6, hZ, hown, st6⟩ := own_callSW (s := s) X1 hx hZ hS (Nat.le_refl _) (y := own_y9) (W := 0) hown (own_h hw 0 rfl) (own_h hw 1 rfl) (own_h hw 2 rfl) (own_h hw 3 rfl) (by decide) (own_rmstr l Z a0 hw [] p2 gC T1.heap n0 Z1 f2 hG f3 hh hcw) (fun vm' hv => own_ELw hJ hv) (by decide) (by decide) (g := (mkF m 7 #[iv p1, iv p2, iv p3, iv p4, iv p5, iv p6, .val wv1, u_, u_, u_, u_, u_, u_, u_, u_, u_, u_] [(.int p2)])) rfl (by rw [hml]; rfl) (argsL := [(.int p2)]) (rest := []) rfl (lenOf own_pd11 rfl) rfl (by show 2 * 0 + _ ≤ _; exact Nat.le_of_eq rfl) (hb hby at_7) rfl (by decide) (by decide)
  obtain ⟨⟨wv6, rfl, rw6⟩, Nq6, Kq6, hJ⟩ := hQ6
  have N6 := Fr.app N1 Nq6
  have f7 := own_staKeep f2 Kq6
  have f8 := Old.keep f3 Kq6 all0
  have f9 := own_staKeep f4 Kq6
  have f10 := own_staKeep f5 Kq6
  have Z6 := Nat.le_trans Z1 Kq6.1
  refine own_s T6 (mkF m 10 #[iv p1, iv p2, iv p3, iv p4, iv p5, iv p6, .val wv1, u_, u_, u_, u_, u_, u_, u_, u_, u_, u_] [wv6]) st6 ?_
  refine own_s T6 (mkF m 13 #[iv p1, iv p2, iv p3, iv p4, iv p5, iv p6, .val wv1, .val wv6, u_, u_, u_, u_, u_, u_, u_, u_, u_] [(.int p3)]) (fun _ k => XS.astore X6.here hx rfl (hb hby at_10) rfl rw6 (l' := #[iv p1, iv p2, iv p3, iv p4, iv p5, iv p6, .val wv1, .val wv6, u_, u_, u_, u_, u_, u_, u_, u_, u_]) (own_stV rw6 rfl (Or.inl rfl) rfl) (XS.iloadN X6.here hx rfl (hb hby at_12) rfl  k)) ?_
  obtain ⟨v11, T11, L11, X11, hQ11, hS, hg11, hZ, hown, st11⟩ := own_callSW (s := s) X6 hx hZ hS (Nat.le_refl _) (y := own_y9) (W := 0) hown (own_h hw 0 rfl) (own_h hw 1 rfl) (own_h hw 2 rfl) (own_h hw 3 rfl) (by decide) (own_rmstr l Z a0 hw [] p3 gC T6.heap n0 Z6 f7 hG f8 hh hcw) (fun vm' hv => own_ELw hJ hv) (by decide) (by decide) (g := (mkF m 13 #[iv p1, iv p2, iv p3, iv p4, iv p5, iv p6, .val wv1, .val wv6, u_, u_, u_, u_, u_, u_, u_, u_, u_] [(.int p3)])) rfl (by rw [hml]; rfl) (argsL := [(.int p3)]) (rest := []) rfl (lenOf own_pd11 rfl) rfl (by show 2 * 0 + _ ≤ _; exact Nat.le_of_eq rfl) (hb hby at_13) rfl (by decide) (by decide)
  obtain ⟨⟨wv11, rfl, rw11⟩, Nq11, Kq11, hJ⟩ := hQ11
  have N11 := Fr.app N6 Nq11
  have f12 := own_staKeep f7 Kq11
  have f13 := Old.keep f8 Kq11 all0
  have f14 := own_staKeep f9 Kq11
  have f15 := own_staKeep f10 Kq11
  have Z11 := Nat.le_trans Z6 Kq11.1
  refine own_s T11 (mkF m 16 #[iv p1, iv p2, iv p3, iv p4, iv p5, iv p6, .val wv1, .val wv6, u_, u_, u_, u_, u_, u_, u_, u_, u_] [wv11]) st11 ?_
  refine own_s T11 (mkF m 18 #[iv p1, iv p2, iv p3, iv p4, iv p5, iv p6, .val wv1, .val wv6, .val wv11, u_, u_, u_, u_, u_, u_, u_, u_] []) (fun _ k => XS.astore X11.here hx rfl (hb hby at_16) rfl rw11 (l' := #[iv p1, iv p2, iv p3, iv p4, iv p5, iv p6, .val wv1, .val wv6, .val wv11, u_, u_, u_, u_, u_, u_, u_, u_]) (own_stV rw11 rfl (Or.inl rfl) rfl) k) ?_
  obtain ⟨T16, h16, X16, e16, E16, A16, D16, -, st16⟩ := newO X11 hx hZ hown (own_h hw 37 rfl) (own_h hw 38 rfl) (own_h hw 39 rfl) rfl (g := (mkF m 18 #[iv p1, iv p2, iv p3, iv p4, iv p5, iv p6, .val wv1, .val wv6, .val wv11, u_, u_, u_, u_, u_, u_, u_, u_] [])) rfl (hb hby at_18) (by decide) (by decide)
  obtain ⟨b16, g16⟩ : ∃ z, z = T11.heap.size := ⟨_, rfl⟩
  have g_b16 : n0 ≤ b16 := Nat.le_trans Z11 (Nat.le_of_eq g16.symm)
  rw [← g16] at A16 D16 st16
  have f17 := Sta.ext E16 f12
  have f18 := Old.ext f13 E16
  have f19 := Sta.ext E16 f14
  have f20 := Sta.ext E16 f15
  have Z16 := Nat.le_trans Z11 E16.1
  have hk16 := Nat.le_trans (Nat.le_refl _) E16.1
  have f21 : Fld Z h16 b16 "com/example/tagwright/tagwright/Location" "file" "Ljava/lang/String;" .null := D16 (Or.inr (own_h hw 50 rfl)) (ty := (.object "java/lang/String")) (by decide)
  have f22 : Fld Z h16 b16 "com/example/tagwright/tagwright/Location" "line" "I" (.int 0) := D16 (Or.inr (own_h hw 52 rfl)) (ty := .int) (by decide)
  have f23 : Fld Z h16 b16 "com/example/tagwright/tagwright/Location" "column" "I" (.int 0) := D16 (Or.inr (own_h hw 54 rfl)) (ty := .int) (by decide)
  refine own_s T16 (mkF m 21 #[iv p1, iv p2, iv p3, iv p4, iv p5, iv p6, .val wv1, .val wv6, .val wv11, u_, u_, u_, u_, u_, u_, u_, u_] [(.ref b16)]) st16 ?_
  have hJ := own_ELe hJ E16
  refine own_s T16 (mkF m 26 #[iv p1, iv p2, iv p3, iv p4, iv p5, iv p6, .val wv1, .val wv6, .val wv11, u_, u_, u_, u_, u_, u_, u_, u_] [(.int ((p6.toUInt32 >>> ((4 : Int32) &&& 31).toUInt32).toInt32)), (.ref b16), (.ref b16)]) (fun _ k => XS.dup X16.here hx rfl (hb hby at_21) rfl rfl (XS.iload X16.here hx rfl (hb hby at_22) rfl  (XS.iconst X16.here hx rfl (hb hby at_24) (XS.iushr X16.here hx rfl (hb hby at_25) rfl k)))) ?_
  obtain ⟨v24, T24, L24, X24, hQ24, hS, hg24, hZ, hown, st24⟩ := own_callSW (s := s) X16 hx hZ hS hk16 (y := own_y9) (W := 2) hown (own_h hw 0 rfl) (own_h hw 1 rfl) (own_h hw 2 rfl) (own_h hw 3 rfl) (by decide) (own_rmstr l Z a0 hw [] ((p6.toUInt32 >>> ((4 : Int32) &&& 31).toUInt32).toInt32) gC h16 n0 Z16 f17 hG f18 hh hcw) (fun vm' hv => own_ELw hJ hv) (by decide) (by decide) (g := (mkF m 26 #[iv p1, iv p2, iv p3, iv p4, iv p5, iv p6, .val wv1, .val wv6, .val wv11, u_, u_, u_, u_, u_, u_, u_, u_] [(.int ((p6.toUInt32 >>> ((4 : Int32) &&& 31).toUInt32).toInt32)), (.ref b16), (.ref b16)])) rfl (by rw [hml]; rfl) (argsL := [(.int ((p6.toUInt32 >>> ((4 : Int32) &&& 31).toUInt32).toInt32))]) (rest := [(.ref b16), (.ref b16)]) rfl (lenOf own_pd11 rfl) rfl (by show 2 * 0 + _ ≤ _; exact Nat.le_of_eq rfl) (hb hby at_26) e16 (by decide) (by decide)
  obtain ⟨⟨wv24, rfl, rw24⟩, Nq24, Kq24, hJ⟩ := hQ24
  have N24 := Fr.app N11 Nq24
  have f25 := own_staKeep f17 Kq24
  have f26 := Old.keep f18 Kq24 all0
  have f27 := own_staKeep f19 Kq24
  have f28 := own_staKeep f20 Kq24
  have f29 := A16.keep Kq24
  have f30 := f21.keep Kq24 nin0
  have f31 := f22.keep Kq24 nin0
  have f32 := f23.keep Kq24 nin0
  have Z24 := Nat.le_trans Z16 Kq24.1
  refine own_s T24 (mkF m 29 #[iv p1, iv p2, iv p3, iv p4, iv p5, iv p6, .val wv1, .val wv6, .val wv11, u_, u_, u_, u_, u_, u_, u_, u_] [wv24, (.ref b16), (.ref b16)]) st24 ?_
  refine own_s T24 (mkF m 32 #[iv p1, iv p2, iv p3, iv p4, iv p5, iv p6, .val wv1, .val wv6, .val wv11, u_, u_, u_, u_, u_, u_, u_, u_] [(.int p5), (.int p4), wv24, (.ref b16), (.ref b16)]) (fun _ k => XS.iloadN X24.here hx rfl (hb hby at_29) rfl  (XS.iload X24.here hx rfl (hb hby at_30) rfl  k)) ?_
  obtain ⟨v33, T33, L33, X33, hQ33, st33⟩ := own_callI X24 hx hZ (y := own_y12) (W := 1) (a := b16) rfl hown (own_h hw 40 rfl) (own_h hw 41 rfl) (own_h hw 39 rfl) (own_h hw 42 rfl) (by decide) (own_rmloc l Z a0 hw [] b16 wv24 p4 p5 T24.heap n0 Z24 g_b16 f29 f30 f31 f32 rw24) (by decide) (by decide) (g := (mkF m 32 #[iv p1, iv p2, iv p3, iv p4, iv p5, iv p6, .val wv1, .val wv6, .val wv11, u_, u_, u_, u_, u_, u_, u_, u_] [(.int p5), (.int p4), wv24, (.ref b16), (.ref b16)])) rfl (by rw [hml]; rfl) (argsL := [wv24, (.int p4), (.int p5)]) (rest := [(.ref b16)]) rfl (lenOf own_pd12 rfl) rfl (by show 2 * 0 + _ ≤ _; exact Nat.le_of_eq rfl) (hb hby at_32) rfl (by decide) (by decide)
  obtain ⟨rfl, Nq33, Kq33, Eq33, Fq33_0, Fq33_1, Fq33_2⟩ := hQ33
  have N33 := Fr.app N24 Nq33
  have f34 := own_staKeepW f25 Kq33 (allS f29.nostat all0)
  have f35 := Old.keep f26 Kq33 (allS g_b16 all0)
  have f36 := own_staKeepW f27 Kq33 (allS f29.nostat all0)
  have f37 := own_staKeepW f28 Kq33 (allS f29.nostat all0)
  have Z33 := Nat.le_trans Z24 Kq33.1
  have hk33 := Nat.le_trans (Nat.le_refl _) Kq33.1
  refine own_s T33 (mkF m 35 #[iv p1, iv p2, iv p3, iv p4, iv p5, iv p6, .val wv1, .val wv6, .val wv11, u_, u_, u_, u_, u_, u_, u_, u_] [(.ref b16)]) st33 ?_
  refine own_s T33 (mkF m 37 #[iv p1, iv p2, iv p3, iv p4, iv p5, iv p6, .val wv1, .val wv6, .val wv11, rv b16, u_, u_, u_, u_, u_, u_, u_] []) (fun _ k => XS.astore X33.here hx rfl (hb hby at_35) rfl rfl (l' := #[iv p1, iv p2, iv p3, iv p4, iv p5, iv p6, .val wv1, .val wv6, .val wv11, rv b16, u_, u_, u_, u_, u_, u_, u_]) rfl k) ?_
  obtain ⟨T38, h38, X38, e38, E38, A38, D38, -, st38⟩ := newO X33 hx hZ hown (own_h hw 55 rfl) (own_h hw 56 rfl) (own_h hw 57 rfl) rfl (g := (mkF m 37 #[iv p1, iv p2, iv p3, iv p4, iv p5, iv p6, .val wv1, .val wv6, .val wv11, rv b16, u_, u_, u_, u_, u_, u_, u_] [])) rfl (hb hby at_37) (by decide) (by decide)
  obtain ⟨b38, g38⟩ : ∃ z, z = T33.heap.size := ⟨_, rfl⟩
  have ne_b16_b38 : b16 ≠ b38 := Nat.ne_of_lt (Nat.lt_of_lt_of_le Eq33.lt (Nat.le_of_eq g38.symm))
  have g_b38 : n0 ≤ b38 := Nat.le_trans Z33 (Nat.le_of_eq g38.symm)
  rw [← g38] at A38 D38 st38
  have f39 := Sta.ext E38 f34
  have f40 := Old.ext f35 E38
  have f41 := Sta.ext E38 f36
  have f42 := Sta.ext E38 f37
  have f43 := Exa.ext E38 Eq33
  have f44 := Fld.ext E38 Fq33_0
  have f45 := Fld.ext E38 Fq33_1
  have f46 := Fld.ext E38 Fq33_2
  have Z38 := Nat.le_trans Z33 E38.1
  have hk38 := Nat.le_trans hk33 E38.1
  have f47 : Fld Z h38 b38 "java/util/AbstractList" "modCount" "I" (.int 0) := D38 (Or.inl (own_h hw 75 rfl)) (ty := .int) (by decide)
  have f48 : Fld Z h38 b38 "java/util/ArrayList" "elementData" "[Ljava/lang/Object;" .null := D38 (Or.inl (own_h hw 78 rfl)) (ty := (.array (.object "java/lang/Object"))) (by decide)
  refine own_s T38 (mkF m 40 #[iv p1, iv p2, iv p3, iv p4, iv p5, iv p6, .val wv1, .val wv6, .val wv11, rv b16, u_, u_, u_, u_, u_, u_, u_] [(.ref b38)]) st38 ?_
  refine own_s T38 (mkF m 41 #[iv p1, iv p2, iv p3, iv p4, iv p5, iv p6, .val wv1, .val wv6, .val wv11, rv b16, u_, u_, u_, u_, u_, u_, u_] [(.ref b38), (.ref b38)]) (fun _ k => XS.dup X38.here hx rfl (hb hby at_40) rfl rfl k) ?_
  obtain ⟨v49, T49, L49, X49, hQ49, st49⟩ := own_callI X38 hx hZ (y := own_y25) (W := 1) (a := b38) rfl hown (own_h hw 58 rfl) (own_h hw 59 rfl) (own_h hw 57 rfl) (own_h hw 60 rfl) (by decide) (own_rmal l Z a0 hw [] b38 oD h38 n0 Z38 g_b38 A38 f47 f48 f42) (by decide) (by decide) (g := (mkF m 41 #[iv p1, iv p2, iv p3, iv p4, iv p5, iv p6, .val wv1, .val wv6, .val wv11, rv b16, u_, u_, u_, u_, u_, u_, u_] [(.ref b38), (.ref b38)])) rfl (by rw [hml]; rfl) (argsL := []) (rest := [(.ref b38)]) rfl (lenOf own_pd9 rfl) rfl (by show 2 * 0 + _ ≤ _; exact Nat.le_of_eq rfl) (hb hby at_41) e38 (by decide) (by decide)
  obtain ⟨rfl, Nq49, Kq49, Eq49⟩ := hQ49
  have N49 := Fr.app N33 Nq49
  have f50 := own_staKeepW f39 Kq49 (allS A38.nostat all0)
  have f51 := Old.keep f40 Kq49 (allS g_b38 all0)
  have f52 := own_staKeepW f41 Kq49 (allS A38.nostat all0)
  have f53 := own_staKeepW f42 Kq49 (allS A38.nostat all0)
  have f54 := f43.keep Kq49
  have f55 := f44.keep Kq49 (ninS ne_b16_b38 nin0)
  have f56 := f45.keep Kq49 (ninS ne_b16_b38 nin0)
  have f57 := f46.keep Kq49 (ninS ne_b16_b38 nin0)
  have Z49 := Nat.le_trans Z38 Kq49.1
  have hk49 := Nat.le_trans hk38 Kq49.1
  refine own_s T49 (mkF m 44 #[iv p1, iv p2, iv p3, iv p4, iv p5, iv p6, .val wv1, .val wv6, .val wv11, rv b16, u_, u_, u_, u_, u_, u_, u_] [(.ref b38)]) st49 ?_
  refine own_s T49 (mkF m 46 #[iv p1, iv p2, iv p3, iv p4, iv p5, iv p6, .val wv1, .val wv6, .val wv11, rv b16, rv b38, u_, u_, u_, u_, u_, u_] []) (fun _ k => XS.astore X49.here hx rfl (hb hby at_44) rfl rfl (l' := #[iv p1, iv p2, iv p3, iv p4, iv p5, iv p6, .val wv1, .val wv6, .val wv11, rv b16, rv b38, u_, u_, u_, u_, u_, u_]) rfl k) ?_
  obtain ⟨T58, h58, X58, e58, E58, A58, D58, -, st58⟩ := newO X49 hx hZ hown (own_h hw 55 rfl) (own_h hw 56 rfl) (own_h hw 57 rfl) rfl (g := (mkF m 46 #[iv p1, iv p2, iv p3, iv p4, iv p5, iv p6, .val wv1, .val wv6, .val wv11, rv b16, rv b38, u_, u_, u_, u_, u_, u_] [])) rfl (hb hby at_46) (by decide) (by decide)
  obtain ⟨b58, g58⟩ : ∃ z, z = T49.heap.size := ⟨_, rfl⟩
  have ne_b16_b58 : b16 ≠ b58 := Nat.ne_of_lt (Nat.lt_of_lt_of_le f54.lt (Nat.le_of_eq g58.symm))
  have ne_b38_b58 : b38 ≠ b58 := Nat.ne_of_lt (Nat.lt_of_lt_of_le Eq49.lt (Nat.le_of_eq g58.symm))
  have g_b58 : n0 ≤ b58 := Nat.le_trans Z49 (Nat.le_of_eq g58.symm)
  rw [← g58] at A58 D58 st58
  have f59 := Sta.ext E58 f50
  have f60 := Old.ext f51 E58
  have f61 := Sta.ext E58 f52
  have f62 := Sta.ext E58 f53
  have f63 := Exa.ext E58 f54
  have f64 := Fld.ext E58 f55
  have f65 := Fld.ext E58 f56
  have f66 := Fld.ext E58 f57
  have f67 := Exa.ext E58 Eq49
  have Z58 := Nat.le_trans Z49 E58.1
  have hk58 := Nat.le_trans hk49 E58.1
  have f68 : Fld Z h58 b58 "java/util/AbstractList" "modCount" "I" (.int 0) := D58 (Or.inl (own_h hw 75 rfl)) (ty := .int) (by decide)
  have f69 : Fld Z h58 b58 "java/util/ArrayList" "elementData" "[Ljava/lang/Object;" .null := D58 (Or.inl (own_h hw 78 rfl)) (ty := (.array (.object "java/lang/Object"))) (by decide)
  refine own_s T58 (mkF m 49 #[iv p1, iv p2, iv p3, iv p4, iv p5, iv p6, .val wv1, .val wv6, .val wv11, rv b16, rv b38, u_, u_, u_, u_, u_, u_] [(.ref b58)]) st58 ?_
  refine own_s T58 (mkF m 50 #[iv p1, iv p2, iv p3, iv p4, iv p5, iv p6, .val wv1, .val wv6, .val wv11, rv b16, rv b38, u_, u_, u_, u_, u_, u_] [(.ref b58), (.ref b58)]) (fun _ k => XS.dup X58.here hx rfl (hb hby at_49) rfl rfl k) ?_
  obtain ⟨v70, T70, L70, X70, hQ70, st70⟩ := own_callI X58 hx hZ (y := own_y25) (W := 1) (a := b58) rfl hown (own_h hw 58 rfl) (own_h hw 59 rfl) (own_h hw 57 rfl) (own_h hw 60 rfl) (by decide) (own_rmal l Z a0 hw [] b58 oD h58 n0 Z58 g_b58 A58 f68 f69 f62) (by decide) (by decide) (g := (mkF m 50 #[iv p1, iv p2, iv p3, iv p4, iv p5, iv p6, .val wv1, .val wv6, .val wv11, rv b16, rv b38, u_, u_, u_, u_, u_, u_] [(.ref b58), (.ref b58)])) rfl (by rw [hml]; rfl) (argsL := []) (rest := [(.ref b58)]) rfl (lenOf own_pd9 rfl) rfl (by show 2 * 0 + _ ≤ _; exact Nat.le_of_eq rfl) (hb hby at_50) e58 (by decide) (by decide)
  obtain ⟨rfl, Nq70, Kq70, Eq70⟩ := hQ70
  have N70 := Fr.app N49 Nq70
  have f71 := own_staKeepW f59 Kq70 (allS A58.nostat all0)
  have f72 := Old.keep f60 Kq70 (allS g_b58 all0)
  have f73 := own_staKeepW f61 Kq70 (allS A58.nostat all0)
  have f74 := own_staKeepW f62 Kq70 (allS A58.nostat all0)
  have f75 := f63.keep Kq70
  have f76 := f64.keep Kq70 (ninS ne_b16_b58 nin0)
  have f77 := f65.keep Kq70 (ninS ne_b16_b58 nin0)
  have f78 := f66.keep Kq70 (ninS ne_b16_b58 nin0)
  have f79 := f67.keep Kq70
  have Z70 := Nat.le_trans Z58 Kq70.1
  have hk70 := Nat.le_trans hk58 Kq70.1
  refine own_s T70 (mkF m 53 #[iv p1, iv p2, iv p3, iv p4, iv p5, iv p6, .val wv1, .val wv6, .val wv11, rv b16, rv b38, u_, u_, u_, u_, u_, u_] [(.ref b58)]) st70 ?_
  refine own_s T70 (mkF m 55 #[iv p1, iv p2, iv p3, iv p4, iv p5, iv p6, .val wv1, .val wv6, .val wv11, rv b16, rv b38, rv b58, u_, u_, u_, u_, u_] []) (fun _ k => XS.astore X70.here hx rfl (hb hby at_53) rfl rfl (l' := #[iv p1, iv p2, iv p3, iv p4, iv p5, iv p6, .val wv1, .val wv6, .val wv11, rv b16, rv b38, rv b58, u_, u_, u_, u_, u_]) rfl k) ?_
  obtain ⟨T80, h80, X80, e80, E80, A80, D80, -, st80⟩ := newO X70 hx hZ hown (own_h hw 79 rfl) (own_h hw 80 rfl) (own_h hw 81 rfl) rfl (g := (mkF m 55 #[iv p1, iv p2, iv p3, iv p4, iv p5, iv p6, .val wv1, .val wv6, .val wv11, rv b16, rv b38, rv b58, u_, u_, u_, u_, u_] [])) rfl (hb hby at_55) (by decide) (by decide)
  obtain ⟨b80, g80⟩ : ∃ z, z = T70.heap.size := ⟨_, rfl⟩
  have ne_b16_b80 : b16 ≠ b80 := Nat.ne_of_lt (Nat.lt_of_lt_of_le f75.lt (Nat.le_of_eq g80.symm))
  have ne_b38_b80 : b38 ≠ b80 := Nat.ne_of_lt (Nat.lt_of_lt_of_le f79.lt (Nat.le_of_eq g80.symm))
  have ne_b58_b80 : b58 ≠ b80 := Nat.ne_of_lt (Nat.lt_of_lt_of_le Eq70.lt (Nat.le_of_eq g80.symm))
  have g_b80 : n0 ≤ b80 := Nat.le_trans Z70 (Nat.le_of_eq g80.symm)
  rw [← g80] at A80 D80 st80
  have f81 := Sta.ext E80 f71
  have f82 := Old.ext f72 E80
  have f83 := Sta.ext E80 f73
  have f84 := Sta.ext E80 f74
  have f85 := Exa.ext E80 f75
  have f86 := Fld.ext E80 f76
  have f87 := Fld.ext E80 f77
  have f88 := Fld.ext E80 f78
  have f89 := Exa.ext E80 f79
  have f90 := Exa.ext E80 Eq70
  have Z80 := Nat.le_trans Z70 E80.1
  have hk80 := Nat.le_trans hk70 E80.1
  have f91 : Fld Z h80 b80 "com/example/tagwright/tagwright/Definition" "id" "Ljava/lang/String;" .null := D80 (Or.inr (own_h hw 93 rfl)) (ty := (.object "java/lang/String")) (by decide)
  have f92 : Fld Z h80 b80 "com/example/tagwright/tagwright/Definition" "className" "Ljava/lang/String;" .null := D80 (Or.inr (own_h hw 95 rfl)) (ty := (.object "java/lang/String")) (by decide)
  have f93 : Fld Z h80 b80 "com/example/tagwright/tagwright/Definition" "value" "Lcom/example/tagwright/tagwright/Value;" .null := D80 (Or.inr (own_h hw 97 rfl)) (ty := (.object "com/example/tagwright/tagwright/Value")) (by decide)
  have f94 : Fld Z h80 b80 "com/example/tagwright/tagwright/Definition" "arguments" "Ljava/util/List;" .null := D80 (Or.inr (own_h hw 99 rfl)) (ty := (.object "java/util/List")) (by decide)
  have f95 : Fld Z h80 b80 "com/example/tagwright/tagwright/Definition" "properties" "Ljava/util/List;" .null := D80 (Or.inr (own_h hw 101 rfl)) (ty := (.object "java/util/List")) (by decide)
  have f96 : Fld Z h80 b80 "com/example/tagwright/tagwright/Definition" "lifecycle" "Lcom/example/tagwright/tagwright/Definition$Lifecycle;" .null := D80 (Or.inr (own_h hw 103 rfl)) (ty := (.object "com/example/tagwright/tagwright/Definition$Lifecycle")) (by decide)
  have f97 : Fld Z h80 b80 "com/example/tagwright/tagwright/Definition" "location" "Lcom/example/tagwright/tagwright/Location;" .null := D80 (Or.inr (own_h hw 105 rfl)) (ty := (.object "com/example/tagwright/tagwright/Location")) (by decide)
  refine own_s T80 (mkF m 58 #[iv p1, iv p2, iv p3, iv p4, iv p5, iv p6, .val wv1, .val wv6, .val wv11, rv b16, rv b38, rv b58, u_, u_, u_, u_, u_] [(.ref b80)]) st80 ?_
  refine own_s T80 (mkF m 67 #[iv p1, iv p2, iv p3, iv p4, iv p5, iv p6, .val wv1, .val wv6, .val wv11, rv b16, rv b38, rv b58, u_, u_, u_, u_, u_] [(.ref b58), (.ref b38), wv11, wv1, (.ref b80), (.ref b80)]) (fun _ k => XS.dup X80.here hx rfl (hb hby at_58) rfl rfl (XS.aload X80.here hx rfl (hb hby at_59) rfl rw1 (XS.aload X80.here hx rfl (hb hby at_61) rfl rw11 (XS.aload X80.here hx rfl (hb hby at_63) rfl rfl (XS.aload X80.here hx rfl (hb hby at_65) rfl rfl k))))) ?_
  refine own_s T80 (mkF m 69 #[iv p1, iv p2, iv p3, iv p4, iv p5, iv p6, .val wv1, .val wv6, .val wv11, rv b16, rv b38, rv b58, u_, u_, u_, u_, u_] [(.ref b16), (.ref b58), (.ref b38), wv11, wv1, (.ref b80), (.ref b80)]) (fun _ k => XS.aload X80.here hx rfl (hb hby at_67) rfl rfl k) ?_
  obtain ⟨v98, T98, L98, X98, hQ98, st98⟩ := own_callI X80 hx hZ (y := own_y14) (W := 1) (a := b80) rfl hown (own_h hw 82 rfl) (own_h hw 83 rfl) (own_h hw 81 rfl) (own_h hw 84 rfl) (by decide) (own_rmd5 l Z a0 hw [] b80 wv1 wv11 (.ref b38) (.ref b58) (.ref b16) oP h80 n0 Z80 g_b80 A80 f91 f92 f93 f94 f95 f96 f97 rw1 rw11 rfl rfl rfl f83) (by decide) (by decide) (g := (mkF m 69 #[iv p1, iv p2, iv p3, iv p4, iv p5, iv p6, .val wv1, .val wv6, .val wv11, rv b16, rv b38, rv b58, u_, u_, u_, u_, u_] [(.ref b16), (.ref b58), (.ref b38), wv11, wv1, (.ref b80), (.ref b80)])) rfl (by rw [hml]; rfl) (argsL := [wv1, wv11, (.ref b38), (.ref b58), (.ref b16)]) (rest := [(.ref b80)]) rfl (lenOf own_pd13 rfl) rfl (by show 2 * 0 + _ ≤ _; exact Nat.le_of_eq rfl) (hb hby at_69) e80 (by decide) (by decide)
  obtain ⟨rfl, Nq98, Kq98, Eq98, Fq98_0, Fq98_1, Fq98_2, Fq98_3, Fq98_4, Fq98_5, Fq98_6⟩ := hQ98
  have N98 := Fr.app N70 Nq98
  have f99 := own_staKeepW f81 Kq98 (allS A80.nostat all0)
  have f100 := Old.keep f82 Kq98 (allS g_b80 all0)
  have f101 := own_staKeepW f83 Kq98 (allS A80.nostat all0)
  have f102 := own_staKeepW f84 Kq98 (allS A80.nostat all0)
  have f103 := f85.keep Kq98
  have f104 := f86.keep Kq98 (ninS ne_b16_b80 nin0)
  have f105 := f87.keep Kq98 (ninS ne_b16_b80 nin0)
  have f106 := f88.keep Kq98 (ninS ne_b16_b80 nin0)
  have f107 := f89.keep Kq98
  have f108 := f90.keep Kq98
  have Z98 := Nat.le_trans Z80 Kq98.1
  have hk98 := Nat.le_trans hk80 Kq98.1
  refine own_s T98 (mkF m 72 #[iv p1, iv p2, iv p3, iv p4, iv p5, iv p6, .val wv1, .val wv6, .val wv11, rv b16, rv b38, rv b58, u_, u_, u_, u_, u_] [(.ref b80)]) st98 ?_
  refine own_s T98 (mkF m 78 #[iv p1, iv p2, iv p3, iv p4, iv p5, iv p6, .val wv1, .val wv6, .val wv11, rv b16, rv b38, rv b58, rv b80, u_, u_, u_, u_] [(.int (p6 &&& (1 : Int32)))]) (fun _ k => XS.astore X98.here hx rfl (hb hby at_72) rfl rfl (l' := #[iv p1, iv p2, iv p3, iv p4, iv p5, iv p6, .val wv1, .val wv6, .val wv11, rv b16, rv b38, rv b58, rv b80, u_, u_, u_, u_]) rfl (XS.iload X98.here hx rfl (hb hby at_74) rfl  (XS.iconst X98.here hx rfl (hb hby at_76) (XS.iand X98.here hx rfl (hb hby at_77) rfl k)))) ?_
  by_cases c78 : (p6 &&& (1 : Int32)) = (0 : Int32)
  · refine own_s T98 (mkF m 97 #[iv p1, iv p2, iv p3, iv p4, iv p5, iv p6, .val wv1, .val wv6, .val wv11, rv b16, rv b38, rv b58, rv b80, .val .null, u_, u_, u_] [(.int 2), (.int p6)]) (fun _ k => XS.ifYes X98.here hx rfl (pc0 := 78) (pc' := 91) rfl (hb hby at_78) rfl ((if0 _ _).trans (teq c78).1) (by decide) (by decide) (XS.aconstNull X98.here hx rfl (hb hby at_91) (XS.astore X98.here hx rfl (hb hby at_92) rfl rfl (l' := #[iv p1, iv p2, iv p3, iv p4, iv p5, iv p6, .val wv1, .val wv6, .val wv11, rv b16, rv b38, rv b58, rv b80, .val .null, u_, u_, u_]) rfl (XS.iload X98.here hx rfl (hb hby at_94) rfl  (XS.iconst X98.here hx rfl (hb hby at_96) k))))) ?_
    refine own_s T98 (mkF m 98 #[iv p1, iv p2, iv p3, iv p4, iv p5, iv p6, .val wv1, .val wv6, .val wv11, rv b16, rv b38, rv b58, rv b80, .val .null, u_, u_, u_] [(.int (p6 &&& (2 : Int32)))]) (fun _ k => XS.iand X98.here hx rfl (hb hby at_97) rfl k) ?_
    by_cases c98 : (p6 &&& (2 : Int32)) = (0 : Int32)
    · refine own_s T98 (mkF m 112 #[iv p1, iv p2, iv p3, iv p4, iv p5, iv p6, .val wv1, .val wv6, .val wv11, rv b16, rv b38, rv b58, rv b80, .val .null, .val .null, u_, u_] []) (fun _ k => XS.ifYes X98.here hx rfl (pc0 := 98) (pc' := 109) rfl (hb hby at_98) rfl ((if0 _ _).trans (teq c98).1) (by decide) (by decide) (XS.aconstNull X98.here hx rfl (hb hby at_109) (XS.astore X98.here hx rfl (hb hby at_110) rfl rfl (l' := #[iv p1, iv p2, iv p3, iv p4, iv p5, iv p6, .val wv1, .val wv6, .val wv11, rv b16, rv b38, rv b58, rv b80, .val .null, .val .null, u_, u_]) rfl k))) ?_
      obtain ⟨T109, h109, X109, e109, E109, A109, D109, -, st109⟩ := newO X98 hx hZ hown (own_h hw 79 rfl) (own_h hw 80 rfl) (own_h hw 81 rfl) rfl (g := (mkF m 112 #[iv p1, iv p2, iv p3, iv p4, iv p5, iv p6, .val wv1, .val wv6, .val wv11, rv b16, rv b38, rv b58, rv b80, .val .null, .val .null, u_, u_] [])) rfl (hb hby at_112) (by decide) (by decide)
      obtain ⟨b109, g109⟩ : ∃ z, z = T98.heap.size := ⟨_, rfl⟩
      have ne_b16_b109 : b16 ≠ b109 := Nat.ne_of_lt (Nat.lt_of_lt_of_le f103.lt (Nat.le_of_eq g109.symm))
      have ne_b38_b109 : b38 ≠ b109 := Nat.ne_of_lt (Nat.lt_of_lt_of_le f107.lt (Nat.le_of_eq g109.symm))
      have ne_b58_b109 : b58 ≠ b109 := Nat.ne_of_lt (Nat.lt_of_lt_of_le f108.lt (Nat.le_of_eq g109.symm))
      have ne_b80_b109 : b80 ≠ b109 := Nat.ne_of_lt (Nat.lt_of_lt_of_le Eq98.lt (Nat.le_of_eq g109.symm))
      have g_b109 : n0 ≤ b109 := Nat.le_trans Z98 (Nat.le_of_eq g109.symm)
      rw [← g109] at A109 D109 st109
      have f110 := Sta.ext E109 f99
      have f111 := Old.ext f100 E109
      have f112 := Sta.ext E109 f101
      have f113 := Sta.ext E109 f102
      have f114 := Exa.ext E109 f103
      have f115 := Fld.ext E109 f104
      have f116 := Fld.ext E109 f105
      have f117 := Fld.ext E109 f106
      have f118 := Exa.ext E109 f107
      have f119 := Exa.ext E109 f108
      have f120 := Exa.ext E109 Eq98
      have f121 := Fld.ext E109 Fq98_0
      have f122 := Fld.ext E109 Fq98_1
      have f123 := Fld.ext E109 Fq98_2
      have f124 := Fld.ext E109 Fq98_3
      have f125 := Fld.ext E109 Fq98_4
      have f126 := Fld.ext E109 Fq98_5
      have f127 := Fld.ext E109 Fq98_6
      have Z109 := Nat.le_trans Z98 E109.1
      have hk109 := Nat.le_trans hk98 E109.1
      have f128 : Fld Z h109 b109 "com/example/tagwright/tagwright/Definition" "id" "Ljava/lang/String;" .null := D109 (Or.inr (own_h hw 93 rfl)) (ty := (.object "java/lang/String")) (by decide)
      have f129 : Fld Z h109 b109 "com/example/tagwright/tagwright/Definition" "className" "Ljava/lang/String;" .null := D109 (Or.inr (own_h hw 95 rfl)) (ty := (.object "java/lang/String")) (by decide)
      have f130 : Fld Z h109 b109 "com/example/tagwright/tagwright/Definition" "value" "Lcom/example/tagwright/tagwright/Value;" .null := D109 (Or.inr (own_h hw 97 rfl)) (ty := (.object "com/example/tagwright/tagwright/Value")) (by decide)
      have f131 : Fld Z h109 b109 "com/example/tagwright/tagwright/Definition" "arguments" "Ljava/util/List;" .null := D109 (Or.inr (own_h hw 99 rfl)) (ty := (.object "java/util/List")) (by decide)
      have f132 : Fld Z h109 b109 "com/example/tagwright/tagwright/Definition" "properties" "Ljava/util/List;" .null := D109 (Or.inr (own_h hw 101 rfl)) (ty := (.object "java/util/List")) (by decide)
      have f133 : Fld Z h109 b109 "com/example/tagwright/tagwright/Definition" "lifecycle" "Lcom/example/tagwright/tagwright/Definition$Lifecycle;" .null := D109 (Or.inr (own_h hw 103 rfl)) (ty := (.object "com/example/tagwright/tagwright/Definition$Lifecycle")) (by decide)
      have f134 : Fld Z h109 b109 "com/example/tagwright/tagwright/Definition" "location" "Lcom/example/tagwright/tagwright/Location;" .null := D109 (Or.inr (own_h hw 105 rfl)) (ty := (.object "com/example/tagwright/tagwright/Location")) (by decide)
      refine own_s T109 (mkF m 115 #[iv p1, iv p2, iv p3, iv p4, iv p5, iv p6, .val wv1, .val wv6, .val wv11, rv b16, rv b38, rv b58, rv b80, .val .null, .val .null, u_, u_] [(.ref b109)]) st109 ?_
      refine own_s T109 (mkF m 124 #[iv p1, iv p2, iv p3, iv p4, iv p5, iv p6, .val wv1, .val wv6, .val wv11, rv b16, rv b38, rv b58, rv b80, .val .null, .val .null, u_, u_] [(.ref b38), .null, wv11, wv1, (.ref b109), (.ref b109)]) (fun _ k => XS.dup X109.here hx rfl (hb hby at_115) rfl rfl (XS.aload X109.here hx rfl (hb hby at_116) rfl rw1 (XS.aload X109.here hx rfl (hb hby at_118) rfl rw11 (XS.aload X109.here hx rfl (hb hby at_120) rfl rfl (XS.aload X109.here hx rfl (hb hby at_122) rfl rfl k))))) ?_
      refine own_s T109 (mkF m 130 #[iv p1, iv p2, iv p3, iv p4, iv p5, iv p6, .val wv1, .val wv6, .val wv11, rv b16, rv b38, rv b58, rv b80, .val .null, .val .null, u_, u_] [(.ref b16), .null, (.ref b58), (.ref b38), .null, wv11, wv1, (.ref b109), (.ref b109)]) (fun _ k => XS.aload X109.here hx rfl (hb hby at_124) rfl rfl (XS.aload X109.here hx rfl (hb hby at_126) rfl rfl (XS.aload X109.here hx rfl (hb hby at_128) rfl rfl k))) ?_
      obtain ⟨v135, T135, L135, X135, hQ135, st135⟩ := own_callI X109 hx hZ (y := own_y13) (W := 1) (a := b109) rfl hown (own_h hw 118 rfl) (own_h hw 89 rfl) (own_h hw 81 rfl) (own_h hw 90 rfl) (by decide) (own_rmd7 l Z a0 hw [] b109 wv1 wv11 .null (.ref b38) (.ref b58) .null (.ref b16) h109 n0 Z109 g_b109 A109 f128 f129 f130 f131 f132 f133 f134 rw1 rw11 rfl rfl rfl rfl rfl) (by decide) (by decide) (g := (mkF m 130 #[iv p1, iv p2, iv p3, iv p4, iv p5, iv p6, .val wv1, .val wv6, .val wv11, rv b16, rv b38, rv b58, rv b80, .val .null, .val .null, u_, u_] [(.ref b16), .null, (.ref b58), (.ref b38), .null, wv11, wv1, (.ref b109), (.ref b109)])) rfl (by rw [hml]; rfl) (argsL := [wv1, wv11, .null, (.ref b38), (.ref b58), .null, (.ref b16)]) (rest := [(.ref b109)]) rfl (lenOf own_pd10 rfl) rfl (by show 2 * 0 + _ ≤ _; exact Nat.le_of_eq rfl) (hb hby at_130) e109 (by decide) (by decide)
      obtain ⟨rfl, Nq135, Kq135, Eq135, Fq135_0, Fq135_1, Fq135_2, Fq135_3, Fq135_4, Fq135_5, Fq135_6⟩ := hQ135
      have N135 := Fr.app N98 Nq135
      have f136 := own_staKeepW f110 Kq135 (allS A109.nostat all0)
      have f137 := Old.keep f111 Kq135 (allS g_b109 all0)
      have f138 := own_staKeepW f112 Kq135 (allS A109.nostat all0)
      have f139 := own_staKeepW f113 Kq135 (allS A109.nostat all0)
      have f140 := f114.keep Kq135
      have f141 := f115.keep Kq135 (ninS ne_b16_b109 nin0)
      have f142 := f116.keep Kq135 (ninS ne_b16_b109 nin0)
      have f143 := f117.keep Kq135 (ninS ne_b16_b109 nin0)
      have f144 := f118.keep Kq135
      have f145 := f119.keep Kq135
      have f146 := f120.keep Kq135
      have f147 := f121.keep Kq135 (ninS ne_b80_b109 nin0)
      have f148 := f122.keep Kq135 (ninS ne_b80_b109 nin0)
      have f149 := f123.keep Kq135 (ninS ne_b80_b109 nin0)
      have f150 := f124.keep Kq135 (ninS ne_b80_b109 nin0)
      have f151 := f125.keep Kq135 (ninS ne_b80_b109 nin0)
      have f152 := f126.keep Kq135 (ninS ne_b80_b109 nin0)
      have f153 := f127.keep Kq135 (ninS ne_b80_b109 nin0)
      have Z135 := Nat.le_trans Z109 Kq135.1
      have hk135 := Nat.le_trans hk109 Kq135.1
      refine own_s T135 (mkF m 133 #[iv p1, iv p2, iv p3, iv p4, iv p5, iv p6, .val wv1, .val wv6, .val wv11, rv b16, rv b38, rv b58, rv b80, .val .null, .val .null, u_, u_] [(.ref b109)]) st135 ?_
      refine own_s T135 (mkF m 139 #[iv p1, iv p2, iv p3, iv p4, iv p5, iv p6, .val wv1, .val wv6, .val wv11, rv b16, rv b38, rv b58, rv b80, .val .null, .val .null, rv b109, u_] [wv6, (.ref b109)]) (fun _ k => XS.astore X135.here hx rfl (hb hby at_133) rfl rfl (l' := #[iv p1, iv p2, iv p3, iv p4, iv p5, iv p6, .val wv1, .val wv6, .val wv11, rv b16, rv b38, rv b58, rv b80, .val .null, .val .null, rv b109, u_]) rfl (XS.aload X135.here hx rfl (hb hby at_135) rfl rfl (XS.aload X135.here hx rfl (hb hby at_137) rfl rw6 k))) ?_
      obtain ⟨v154, T154, L154, X154, hQ154, st154⟩ := own_callV X135 hx hZ (y := own_y15) (z := own_y15) (W := 0) (a := b109) hown (own_h hw 119 rfl) (own_h hw 120 rfl) (notFace_of_selects (args := #[]) (mvT hZ (own_h hw 122 rfl))) (own_h hw 122 rfl) (own_h hw 121 rfl) (own_h hw 81 rfl) (own_h hw 123 rfl) (by decide) (own_rmwi l Z a0 hw [] b109 wv6 wv11 .null (.ref b38) (.ref b58) .null (.ref b16) T135.heap n0 Z135 Eq135 Fq135_1 Fq135_2 Fq135_3 Fq135_4 Fq135_5 Fq135_6 rw6 rw11 rfl rfl rfl rfl rfl) (by decide) (by decide) Eq135 (g := (mkF m 139 #[iv p1, iv p2, iv p3, iv p4, iv p5, iv p6, .val wv1, .val wv6, .val wv11, rv b16, rv b38, rv b58, rv b80, .val .null, .val .null, rv b109, u_] [wv6, (.ref b109)])) rfl (by rw [hml]; rfl) (argsL := [wv6]) (rest := []) rfl (lenOf own_pd14 rfl) rfl (by show 2 * 0 + _ ≤ _; exact Nat.le_of_eq rfl) (hb hby at_139) rfl (by decide) (by decide)
      obtain ⟨⟨b154, rfl, g_b154, sq154, Eq154, Fq154_0, Fq154_1, Fq154_2, Fq154_3, Fq154_4, Fq154_5, Fq154_6⟩, Nq154, Kq154⟩ := hQ154
      have N154 := Fr.app N135 Nq154
      have f155 := own_staKeep f136 Kq154
      have f156 := Old.keep f137 Kq154 all0
      have f157 := own_staKeep f138 Kq154
      have f158 := own_staKeep f139 Kq154
      have f159 := f140.keep Kq154
      have f160 := f141.keep Kq154 nin0
      have f161 := f142.keep Kq154 nin0
      have f162 := f143.keep Kq154 nin0
      have f163 := f144.keep Kq154
      have f164 := f145.keep Kq154
      have f165 := f146.keep Kq154
      have f166 := f147.keep Kq154 nin0
      have f167 := f148.keep Kq154 nin0
      have f168 := f149.keep Kq154 nin0
      have f169 := f150.keep Kq154 nin0
      have f170 := f151.keep Kq154 nin0
      have f171 := f152.keep Kq154 nin0
      have f172 := f153.keep Kq154 nin0
      have f173 := Eq135.keep Kq154
      have f174 := Fq135_0.keep Kq154 nin0
      have f175 := Fq135_1.keep Kq154 nin0
      have f176 := Fq135_2.keep Kq154 nin0
      have f177 := Fq135_3.keep Kq154 nin0
      have f178 := Fq135_4.keep Kq154 nin0
      have f179 := Fq135_5.keep Kq154 nin0
      have f180 := Fq135_6.keep Kq154 nin0
      have Z154 := Nat.le_trans Z135 Kq154.1
      have hk154 := Nat.le_trans hk135 Kq154.1
      refine own_s T154 (mkF m 142 #[iv p1, iv p2, iv p3, iv p4, iv p5, iv p6, .val wv1, .val wv6, .val wv11, rv b16, rv b38, rv b58, rv b80, .val .null, .val .null, rv b109, u_] [(.ref b154)]) st154 ?_
      refine own_s T154 (mkF m 151 #[iv p1, iv p2, iv p3, iv p4, iv p5, iv p6, .val wv1, .val wv6, .val wv11, rv b16, rv b38, rv b58, rv b80, .val .null, .val .null, rv b109, rv b154] [(.ref b154)]) (fun _ k => XS.astore X154.here hx rfl (hb hby at_142) rfl rfl (l' := #[iv p1, iv p2, iv p3, iv p4, iv p5, iv p6, .val wv1, .val wv6, .val wv11, rv b16, rv b38, rv b58, rv b80, .val .null, .val .null, rv b109, rv b154]) rfl (XS.aload X154.here hx rfl (hb hby at_144) rfl rfl (XS.ifnullNo X154.here hx rfl (hb hby at_146) rfl (XS.aload X154.here hx rfl (hb hby at_149) rfl rfl k)))) ?_
      obtain ⟨v181, T181, L181, X181, hQ181, st181⟩ := own_callV X154 hx hZ (y := own_y16) (z := own_y16) (W := 0) (a := b154) hown (own_h hw 125 rfl) (own_h hw 126 rfl) (notFace_of_selects (args := #[]) (mvT hZ (own_h hw 128 rfl))) (own_h hw 128 rfl) (own_h hw 127 rfl) (own_h hw 81 rfl) (own_h hw 129 rfl) (by decide) (own_rmg_id l Z a0 hw [] b154 wv6 T154.heap n0 Z154 Fq154_0 rw6) (by decide) (by decide) Eq154 (g := (mkF m 151 #[iv p1, iv p2, iv p3, iv p4, iv p5, iv p6, .val wv1, .val wv6, .val wv11, rv b16, rv b38, rv b58, rv b80, .val .null, .val .null, rv b109, rv b154] [(.ref b154)])) rfl (by rw [hml]; rfl) (argsL := []) (rest := []) rfl (lenOf own_pd15 rfl) rfl (by show 2 * 0 + _ ≤ _; exact Nat.le_of_eq rfl) (hb hby at_151) rfl (by decide) (by decide)
      obtain ⟨rfl, Nq181, e181⟩ := hQ181
      have N181 := Fr.app N154 Nq181
      refine own_s T181 (mkF m 154 #[iv p1, iv p2, iv p3, iv p4, iv p5, iv p6, .val wv1, .val wv6, .val wv11, rv b16, rv b38, rv b58, rv b80, .val .null, .val .null, rv b109, rv b154] [wv6]) st181 ?_
      refine own_s T181 (mkF m 161 #[iv p1, iv p2, iv p3, iv p4, iv p5, iv p6, .val wv1, .val wv6, .val wv11, rv b16, rv b38, rv b58, rv b80, .val .null, .val .null, rv b109, rv b154] [(.ref b154)]) (fun _ k => XS.aload X181.here hx rfl (hb hby at_154) rfl rw6 (Jvm.RoadKit.acmp (g := (mkF m 156 #[iv p1, iv p2, iv p3, iv p4, iv p5, iv p6, .val wv1, .val wv6, .val wv11, rv b16, rv b38, rv b58, rv b80, .val .null, .val .null, rv b109, rv b154] [wv6, wv6])) X181 hx rfl rw6 rw6 (pc0 := 156) (pc' := 159) (same := true) rfl (hb hby at_156) rfl (decide_eq_true rfl) (by decide) (by decide) (XS.aload X181.here hx rfl (hb hby at_159) rfl rfl k))) ?_
      obtain ⟨v182, T182, L182, X182, hQ182, st182⟩ := own_callV X181 hx hZ (y := own_y17) (z := own_y17) (W := 0) (a := b154) hown (own_h hw 130 rfl) (own_h hw 131 rfl) (notFace_of_selects (args := #[]) (mvT hZ (own_h hw 133 rfl))) (own_h hw 133 rfl) (own_h hw 132 rfl) (own_h hw 81 rfl) (own_h hw 134 rfl) (by decide) (own_rmg_className l Z a0 hw [] b154 wv11 T154.heap n0 Z154 Fq154_1 rw11) (by decide) (by decide) Eq154 (g := (mkF m 161 #[iv p1, iv p2, iv p3, iv p4, iv p5, iv p6, .val wv1, .val wv6, .val wv11, rv b16, rv b38, rv b58, rv b80, .val .null, .val .null, rv b109, rv b154] [(.ref b154)])) rfl (by rw [hml]; rfl) (argsL := []) (rest := []) rfl (lenOf own_pd15 rfl) rfl (by show 2 * 0 + _ ≤ _; exact Nat.le_of_eq rfl) (hb hby at_161) e181 (by decide) (by decide)
      obtain ⟨rfl, Nq182, e182⟩ := hQ182
      have N182 := Fr.app N181 Nq182
      refine own_s T182 (mkF m 164 #[iv p1, iv p2, iv p3, iv p4, iv p5, iv p6, .val wv1, .val wv6, .val wv11, rv b16, rv b38, rv b58, rv b80, .val .null, .val .null, rv b109, rv b154] [wv11]) st182 ?_
      refine own_s T182 (mkF m 171 #[iv p1, iv p2, iv p3, iv p4, iv p5, iv p6, .val wv1, .val wv6, .val wv11, rv b16, rv b38, rv b58, rv b80, .val .null, .val .null, rv b109, rv b154] [(.ref b154)]) (fun _ k => XS.aload X182.here hx rfl (hb hby at_164) rfl rw11 (Jvm.RoadKit.acmp (g := (mkF m 166 #[iv p1, iv p2, iv p3, iv p4, iv p5, iv p6, .val wv1, .val wv6, .val wv11, rv b16, rv b38, rv b58, rv b80, .val .null, .val .null, rv b109, rv b154] [wv11, wv11])) X182 hx rfl rw11 rw11 (pc0 := 166) (pc' := 169) (same := true) rfl (hb hby at_166) rfl (decide_eq_true rfl) (by decide) (by decide) (XS.aload X182.here hx rfl (hb hby at_169) rfl rfl k))) ?_
      obtain ⟨v183, T183, L183, X183, hQ183, st183⟩ := own_callV X182 hx hZ (y := own_y18) (z := own_y18) (W := 0) (a := b154) hown (own_h hw 135 rfl) (own_h hw 136 rfl) (notFace_of_selects (args := #[]) (mvT hZ (own_h hw 138 rfl))) (own_h hw 138 rfl) (own_h hw 137 rfl) (own_h hw 81 rfl) (own_h hw 139 rfl) (by decide) (own_rmg_value l Z a0 hw [] b154 .null T154.heap n0 Z154 Fq154_2 rfl) (by decide) (by decide) Eq154 (g := (mkF m 171 #[iv p1, iv p2, iv p3, iv p4, iv p5, iv p6, .val wv1, .val wv6, .val wv11, rv b16, rv b38, rv b58, rv b80, .val .null, .val .null, rv b109, rv b154] [(.ref b154)])) rfl (by rw [hml]; rfl) (argsL := []) (rest := []) rfl (lenOf own_pd16 rfl) rfl (by show 2 * 0 + _ ≤ _; exact Nat.le_of_eq rfl) (hb hby at_171) e182 (by decide) (by decide)
      obtain ⟨rfl, Nq183, e183⟩ := hQ183
      have N183 := Fr.app N182 Nq183
      refine own_s T183 (mkF m 174 #[iv p1, iv p2, iv p3, iv p4, iv p5, iv p6, .val wv1, .val wv6, .val wv11, rv b16, rv b38, rv b58, rv b80, .val .null, .val .null, rv b109, rv b154] [.null]) st183 ?_
      refine own_s T183 (mkF m 181 #[iv p1, iv p2, iv p3, iv p4, iv p5, iv p6, .val wv1, .val wv6, .val wv11, rv b16, rv b38, rv b58, rv b80, .val .null, .val .null, rv b109, rv b154] [(.ref b154)]) (fun _ k => XS.aload X183.here hx rfl (hb hby at_174) rfl rfl (Jvm.RoadKit.acmp (g := (mkF m 176 #[iv p1, iv p2, iv p3, iv p4, iv p5, iv p6, .val wv1, .val wv6, .val wv11, rv b16, rv b38, rv b58, rv b80, .val .null, .val .null, rv b109, rv b154] [.null, .null])) X183 hx rfl rfl rfl (pc0 := 176) (pc' := 179) (same := true) rfl (hb hby at_176) rfl (decide_eq_true rfl) (by decide) (by decide) (XS.aload X183.here hx rfl (hb hby at_179) rfl rfl k))) ?_
      obtain ⟨v184, T184, L184, X184, hQ184, st184⟩ := own_callV X183 hx hZ (y := own_y19) (z := own_y19) (W := 0) (a := b154) hown (own_h hw 140 rfl) (own_h hw 141 rfl) (notFace_of_selects (args := #[]) (mvT hZ (own_h hw 143 rfl))) (own_h hw 143 rfl) (own_h hw 142 rfl) (own_h hw 81 rfl) (own_h hw 144 rfl) (by decide) (own_rmg_arguments l Z a0 hw [] b154 (.ref b38) T154.heap n0 Z154 Fq154_3 rfl) (by decide) (by decide) Eq154 (g := (mkF m 181 #[iv p1, iv p2, iv p3, iv p4, iv p5, iv p6, .val wv1, .val wv6, .val wv11, rv b16, rv b38, rv b58, rv b80, .val .null, .val .null, rv b109, rv b154] [(.ref b154)])) rfl (by rw [hml]; rfl) (argsL := []) (rest := []) rfl (lenOf own_pd17 rfl) rfl (by show 2 * 0 + _ ≤ _; exact Nat.le_of_eq rfl) (hb hby at_181) e183 (by decide) (by decide)
      obtain ⟨rfl, Nq184, e184⟩ := hQ184
      have N184 := Fr.app N183 Nq184
      refine own_s T184 (mkF m 184 #[iv p1, iv p2, iv p3, iv p4, iv p5, iv p6, .val wv1, .val wv6, .val wv11, rv b16, rv b38, rv b58, rv b80, .val .null, .val .null, rv b109, rv b154] [(.ref b38)]) st184 ?_
      refine own_s T184 (mkF m 191 #[iv p1, iv p2, iv p3, iv p4, iv p5, iv p6, .val wv1, .val wv6, .val wv11, rv b16, rv b38, rv b58, rv b80, .val .null, .val .null, rv b109, rv b154] [(.ref b154)]) (fun _ k => XS.aload X184.here hx rfl (hb hby at_184) rfl rfl (Jvm.RoadKit.acmp (g := (mkF m 186 #[iv p1, iv p2, iv p3, iv p4, iv p5, iv p6, .val wv1, .val wv6, .val wv11, rv b16, rv b38, rv b58, rv b80, .val .null, .val .null, rv b109, rv b154] [(.ref b38), (.ref b38)])) X184 hx rfl rfl rfl (pc0 := 186) (pc' := 189) (same := true) rfl (hb hby at_186) rfl (decide_eq_true rfl) (by decide) (by decide) (XS.aload X184.here hx rfl (hb hby at_189) rfl rfl k))) ?_
      obtain ⟨v185, T185, L185, X185, hQ185, st185⟩ := own_callV X184 hx hZ (y := own_y20) (z := own_y20) (W := 0) (a := b154) hown (own_h hw 145 rfl) (own_h hw 146 rfl) (notFace_of_selects (args := #[]) (mvT hZ (own_h hw 148 rfl))) (own_h hw 148 rfl) (own_h hw 147 rfl) (own_h hw 81 rfl) (own_h hw 149 rfl) (by decide) (own_rmg_properties l Z a0 hw [] b154 (.ref b58) T154.heap n0 Z154 Fq154_4 rfl) (by decide) (by decide) Eq154 (g := (mkF m 191 #[iv p1, iv p2, iv p3, iv p4, iv p5, iv p6, .val wv1, .val wv6, .val wv11, rv b16, rv b38, rv b58, rv b80, .val .null, .val .null, rv b109, rv b154] [(.ref b154)])) rfl (by rw [hml]; rfl) (argsL := []) (rest := []) rfl (lenOf own_pd17 rfl) rfl (by show 2 * 0 + _ ≤ _; exact Nat.le_of_eq rfl) (hb hby at_191) e184 (by decide) (by decide)
      obtain ⟨rfl, Nq185, e185⟩ := hQ185
      have N185 := Fr.app N184 Nq185
      refine own_s T185 (mkF m 194 #[iv p1, iv p2, iv p3, iv p4, iv p5, iv p6, .val wv1, .val wv6, .val wv11, rv b16, rv b38, rv b58, rv b80, .val .null, .val .null, rv b109, rv b154] [(.ref b58)]) st185 ?_
      refine own_s T185 (mkF m 201 #[iv p1, iv p2, iv p3, iv p4, iv p5, iv p6, .val wv1, .val wv6, .val wv11, rv b16, rv b38, rv b58, rv b80, .val .null, .val .null, rv b109, rv b154] [(.ref b154)]) (fun _ k => XS.aload X185.here hx rfl (hb hby at_194) rfl rfl (Jvm.RoadKit.acmp (g := (mkF m 196 #[iv p1, iv p2, iv p3, iv p4, iv p5, iv p6, .val wv1, .val wv6, .val wv11, rv b16, rv b38, rv b58, rv b80, .val .null, .val .null, rv b109, rv b154] [(.ref b58), (.ref b58)])) X185 hx rfl rfl rfl (pc0 := 196) (pc' := 199) (same := true) rfl (hb hby at_196) rfl (decide_eq_true rfl) (by decide) (by decide) (XS.aload X185.here hx rfl (hb hby at_199) rfl rfl k))) ?_
      obtain ⟨v186, T186, L186, X186, hQ186, st186⟩ := own_callV X185 hx hZ (y := own_y21) (z := own_y21) (W := 0) (a := b154) hown (own_h hw 113 rfl) (own_h hw 114 rfl) (notFace_of_selects (args := #[]) (mvT hZ (own_h hw 116 rfl))) (own_h hw 116 rfl) (own_h hw 115 rfl) (own_h hw 81 rfl) (own_h hw 117 rfl) (by decide) (own_rmg_lifecycle l Z a0 hw [] b154 .null T154.heap n0 Z154 Fq154_5 rfl) (by decide) (by decide) Eq154 (g := (mkF m 201 #[iv p1, iv p2, iv p3, iv p4, iv p5, iv p6, .val wv1, .val wv6, .val wv11, rv b16, rv b38, rv b58, rv b80, .val .null, .val .null, rv b109, rv b154] [(.ref b154)])) rfl (by rw [hml]; rfl) (argsL := []) (rest := []) rfl (lenOf own_pd18 rfl) rfl (by show 2 * 0 + _ ≤ _; exact Nat.le_of_eq rfl) (hb hby at_201) e185 (by decide) (by decide)
      obtain ⟨rfl, Nq186, e186⟩ := hQ186
      have N186 := Fr.app N185 Nq186
      refine own_s T186 (mkF m 204 #[iv p1, iv p2, iv p3, iv p4, iv p5, iv p6, .val wv1, .val wv6, .val wv11, rv b16, rv b38, rv b58, rv b80, .val .null, .val .null, rv b109, rv b154] [.null]) st186 ?_
      refine own_s T186 (mkF m 211 #[iv p1, iv p2, iv p3, iv p4, iv p5, iv p6, .val wv1, .val wv6, .val wv11, rv b16, rv b38, rv b58, rv b80, .val .null, .val .null, rv b109, rv b154] [(.ref b154)]) (fun _ k => XS.aload X186.here hx rfl (hb hby at_204) rfl rfl (Jvm.RoadKit.acmp (g := (mkF m 206 #[iv p1, iv p2, iv p3, iv p4, iv p5, iv p6, .val wv1, .val wv6, .val wv11, rv b16, rv b38, rv b58, rv b80, .val .null, .val .null, rv b109, rv b154] [.null, .null])) X186 hx rfl rfl rfl (pc0 := 206) (pc' := 209) (same := true) rfl (hb hby at_206) rfl (decide_eq_true rfl) (by decide) (by decide) (XS.aload X186.here hx rfl (hb hby at_209) rfl rfl k))) ?_
      obtain ⟨v187, T187, L187, X187, hQ187, st187⟩ := own_callV X186 hx hZ (y := own_y22) (z := own_y22) (W := 0) (a := b154) hown (own_h hw 150 rfl) (own_h hw 151 rfl) (notFace_of_selects (args := #[]) (mvT hZ (own_h hw 153 rfl))) (own_h hw 153 rfl) (own_h hw 152 rfl) (own_h hw 81 rfl) (own_h hw 154 rfl) (by decide) (own_rmg_location l Z a0 hw [] b154 (.ref b16) T154.heap n0 Z154 Fq154_6 rfl) (by decide) (by decide) Eq154 (g := (mkF m 211 #[iv p1, iv p2, iv p3, iv p4, iv p5, iv p6, .val wv1, .val wv6, .val wv11, rv b16, rv b38, rv b58, rv b80, .val .null, .val .null, rv b109, rv b154] [(.ref b154)])) rfl (by rw [hml]; rfl) (argsL := []) (rest := []) rfl (lenOf own_pd19 rfl) rfl (by show 2 * 0 + _ ≤ _; exact Nat.le_of_eq rfl) (hb hby at_211) e186 (by decide) (by decide)
      obtain ⟨rfl, Nq187, e187⟩ := hQ187
      have N187 := Fr.app N186 Nq187
      refine own_s T187 (mkF m 214 #[iv p1, iv p2, iv p3, iv p4, iv p5, iv p6, .val wv1, .val wv6, .val wv11, rv b16, rv b38, rv b58, rv b80, .val .null, .val .null, rv b109, rv b154] [(.ref b16)]) st187 ?_
      refine own_s T187 (mkF m 224 #[iv p1, iv p2, iv p3, iv p4, iv p5, iv p6, .val wv1, .val wv6, .val wv11, rv b16, rv b38, rv b58, rv b80, .val .null, .val .null, rv b109, rv b154] [(.int 1)]) (fun _ k => XS.aload X187.here hx rfl (hb hby at_214) rfl rfl (Jvm.RoadKit.acmp (g := (mkF m 216 #[iv p1, iv p2, iv p3, iv p4, iv p5, iv p6, .val wv1, .val wv6, .val wv11, rv b16, rv b38, rv b58, rv b80, .val .null, .val .null, rv b109, rv b154] [(.ref b16), (.ref b16)])) X187 hx rfl rfl rfl (pc0 := 216) (pc' := 219) (same := true) rfl (hb hby at_216) rfl (decide_eq_true rfl) (by decide) (by decide) (XS.iconst X187.here hx rfl (hb hby at_219) (XS.goto X187.here hx rfl (pc0 := 220) (pc' := 224) rfl (hb hby at_220) (by decide) (by decide) k)))) ?_
      exact own_finZ X187 hx (t := .boolean) hret (by simp) (z' := (1 : Int32)) rfl (hb hby at_224) (own_endW (Qv := (own_Q0 Z p1 p2 p3 p4 p5 p6 gC oP oD h0 n0)) X187 hS (own_some hret) hlk (by decide) (by decide) e187 hk154 (fun vm' hv' => ⟨rfl, N187⟩))
    · refine own_s T98 (mkF m 103 #[iv p1, iv p2, iv p3, iv p4, iv p5, iv p6, .val wv1, .val wv6, .val wv11, rv b16, rv b38, rv b58, rv b80, .val .null, u_, u_, u_] [(.ref b80)]) (fun _ k => XS.ifNo X98.here hx rfl (hb hby at_98) rfl ((if0 _ _).trans (feq c98).1) (XS.aload X98.here hx rfl (hb hby at_101) rfl rfl k)) ?_
      obtain ⟨v188, T188, L188, X188, hQ188, st188⟩ := own_callV X98 hx hZ (y := own_y21) (z := own_y21) (W := 0) (a := b80) hown (own_h hw 113 rfl) (own_h hw 114 rfl) (notFace_of_selects (args := #[]) (mvT hZ (own_h hw 116 rfl))) (own_h hw 116 rfl) (own_h hw 115 rfl) (own_h hw 81 rfl) (own_h hw 117 rfl) (by decide) (own_rmg_lifecycle l Z a0 hw [] b80 (.ref oP) T98.heap n0 Z98 Fq98_5 rfl) (by decide) (by decide) Eq98 (g := (mkF m 103 #[iv p1, iv p2, iv p3, iv p4, iv p5, iv p6, .val wv1, .val wv6, .val wv11, rv b16, rv b38, rv b58, rv b80, .val .null, u_, u_, u_] [(.ref b80)])) rfl (by rw [hml]; rfl) (argsL := []) (rest := []) rfl (lenOf own_pd18 rfl) rfl (by show 2 * 0 + _ ≤ _; exact Nat.le_of_eq rfl) (hb hby at_103) rfl (by decide) (by decide)
      obtain ⟨rfl, Nq188, e188⟩ := hQ188
      have N188 := Fr.app N98 Nq188
      refine own_s T188 (mkF m 106 #[iv p1, iv p2, iv p3, iv p4, iv p5, iv p6, .val wv1, .val wv6, .val wv11, rv b16, rv b38, rv b58, rv b80, .val .null, u_, u_, u_] [(.ref oP)]) st188 ?_
      refine own_s T188 (mkF m 112 #[iv p1, iv p2, iv p3, iv p4, iv p5, iv p6, .val wv1, .val wv6, .val wv11, rv b16, rv b38, rv b58, rv b80, .val .null, rv oP, u_, u_] []) (fun _ k => XS.goto X188.here hx rfl (pc0 := 106) (pc' := 110) rfl (hb hby at_106) (by decide) (by decide) (XS.astore X188.here hx rfl (hb hby at_110) rfl rfl (l' := #[iv p1, iv p2, iv p3, iv p4, iv p5, iv p6, .val wv1, .val wv6, .val wv11, rv b16, rv b38, rv b58, rv b80, .val .null, rv oP, u_, u_]) rfl k)) ?_
      obtain ⟨T189, h189, X189, e189, E189, A189, D189, -, st189⟩ := newO X188 hx hZ hown (own_h hw 79 rfl) (own_h hw 80 rfl) (own_h hw 81 rfl) e188 (g := (mkF m 112 #[iv p1, iv p2, iv p3, iv p4, iv p5, iv p6, .val wv1, .val wv6, .val wv11, rv b16, rv b38, rv b58, rv b80, .val .null, rv oP, u_, u_] [])) rfl (hb hby at_112) (by decide) (by decide)
      obtain ⟨b189, g189⟩ : ∃ z, z = T98.heap.size := ⟨_, rfl⟩
      have ne_b16_b189 : b16 ≠ b189 := Nat.ne_of_lt (Nat.lt_of_lt_of_le f103.lt (Nat.le_of_eq g189.symm))
      have ne_b38_b189 : b38 ≠ b189 := Nat.ne_of_lt (Nat.lt_of_lt_of_le f107.lt (Nat.le_of_eq g189.symm))
      have ne_b58_b189 : b58 ≠ b189 := Nat.ne_of_lt (Nat.lt_of_lt_of_le f108.lt (Nat.le_of_eq g189.symm))
      have ne_b80_b189 : b80 ≠ b189 := Nat.ne_of_lt (Nat.lt_of_lt_of_le Eq98.lt (Nat.le_of_eq g189.symm))
      have g_b189 : n0 ≤ b189 := Nat.le_trans Z98 (Nat.le_of_eq g189.symm)
      rw [← g189] at A189 D189 st189
      have f190 := Sta.ext E189 f99
      have f191 := Old.ext f100 E189
      have f192 := Sta.ext E189 f101
      have f193 := Sta.ext E189 f102
      have f194 := Exa.ext E189 f103
      have f195 := Fld.ext E189 f104
      have f196 := Fld.ext E189 f105
      have f197 := Fld.ext E189 f106
      have f198 := Exa.ext E189 f107
      have f199 := Exa.ext E189 f108
      have f200 := Exa.ext E189 Eq98
      have f201 := Fld.ext E189 Fq98_0
      have f202 := Fld.ext E189 Fq98_1
      have f203 := Fld.ext E189 Fq98_2
      have f204 := Fld.ext E189 Fq98_3
      have f205 := Fld.ext E189 Fq98_4
      have f206 := Fld.ext E189 Fq98_5
      have f207 := Fld.ext E189 Fq98_6
      have Z189 := Nat.le_trans Z98 E189.1
      have hk189 := Nat.le_trans hk98 E189.1
      have f208 : Fld Z h189 b189 "com/example/tagwright/tagwright/Definition" "id" "Ljava/lang/String;" .null := D189 (Or.inr (own_h hw 93 rfl)) (ty := (.object "java/lang/String")) (by decide)
      have f209 : Fld Z h189 b189 "com/example/tagwright/tagwright/Definition" "className" "Ljava/lang/String;" .null := D189 (Or.inr (own_h hw 95 rfl)) (ty := (.object "java/lang/String")) (by decide)
      have f210 : Fld Z h189 b189 "com/example/tagwright/tagwright/Definition" "value" "Lcom/example/tagwright/tagwright/Value;" .null := D189 (Or.inr (own_h hw 97 rfl)) (ty := (.object "com/example/tagwright/tagwright/Value")) (by decide)
      have f211 : Fld Z h189 b189 "com/example/tagwright/tagwright/Definition" "arguments" "Ljava/util/List;" .null := D189 (Or.inr (own_h hw 99 rfl)) (ty := (.object "java/util/List")) (by decide)
      have f212 : Fld Z h189 b189 "com/example/tagwright/tagwright/Definition" "properties" "Ljava/util/List;" .null := D189 (Or.inr (own_h hw 101 rfl)) (ty := (.object "java/util/List")) (by decide)
      have f213 : Fld Z h189 b189 "com/example/tagwright/tagwright/Definition" "lifecycle" "Lcom/example/tagwright/tagwright/Definition$Lifecycle;" .null := D189 (Or.inr (own_h hw 103 rfl)) (ty := (.object "com/example/tagwright/tagwright/Definition$Lifecycle")) (by decide)
      have f214 : Fld Z h189 b189 "com/example/tagwright/tagwright/Definition" "location" "Lcom/example/tagwright/tagwright/Location;" .null := D189 (Or.inr (own_h hw 105 rfl)) (ty := (.object "com/example/tagwright/tagwright/Location")) (by decide)
      refine own_s T189 (mkF m 115 #[iv p1, iv p2, iv p3, iv p4, iv p5, iv p6, .val wv1, .val wv6, .val wv11, rv b16, rv b38, rv b58, rv b80, .val .null, rv oP, u_, u_] [(.ref b189)]) st189 ?_
      refine own_s T189 (mkF m 124 #[iv p1, iv p2, iv p3, iv p4, iv p5, iv p6, .val wv1, .val wv6, .val wv11, rv b16, rv b38, rv b58, rv b80, .val .null, rv oP, u_, u_] [(.ref b38), .null, wv11, wv1, (.ref b189), (.ref b189)]) (fun _ k => XS.dup X189.here hx rfl (hb hby at_115) rfl rfl (XS.aload X189.here hx rfl (hb hby at_116) rfl rw1 (XS.aload X189.here hx rfl (hb hby at_118) rfl rw11 (XS.aload X189.here hx rfl (hb hby at_120) rfl rfl (XS.aload X189.here hx rfl (hb hby at_122) rfl rfl k))))) ?_
      refine own_s T189 (mkF m 130 #[iv p1, iv p2, iv p3, iv p4, iv p5, iv p6, .val wv1, .val wv6, .val wv11, rv b16, rv b38, rv b58, rv b80, .val .null, rv oP, u_, u_] [(.ref b16), (.ref oP), (.ref b58), (.ref b38), .null, wv11, wv1, (.ref b189), (.ref b189)]) (fun _ k => XS.aload X189.here hx rfl (hb hby at_124) rfl rfl (XS.aload X189.here hx rfl (hb hby at_126) rfl rfl (XS.aload X189.here hx rfl (hb hby at_128) rfl rfl k))) ?_
      obtain ⟨v215, T215, L215, X215, hQ215, st215⟩ := own_callI X189 hx hZ (y := own_y13) (W := 1) (a := b189) rfl hown (own_h hw 118 rfl) (own_h hw 89 rfl) (own_h hw 81 rfl) (own_h hw 90 rfl) (by decide) (own_rmd7 l Z a0 hw [] b189 wv1 wv11 .null (.ref b38) (.ref b58) (.ref oP) (.ref b16) h189 n0 Z189 g_b189 A189 f208 f209 f210 f211 f212 f213 f214 rw1 rw11 rfl rfl rfl rfl rfl) (by decide) (by decide) (g := (mkF m 130 #[iv p1, iv p2, iv p3, iv p4, iv p5, iv p6, .val wv1, .val wv6, .val wv11, rv b16, rv b38, rv b58, rv b80, .val .null, rv oP, u_, u_] [(.ref b16), (.ref oP), (.ref b58), (.ref b38), .null, wv11, wv1, (.ref b189), (.ref b189)])) rfl (by rw [hml]; rfl) (argsL := [wv1, wv11, .null, (.ref b38), (.ref b58), (.ref oP), (.ref b16)]) (rest := [(.ref b189)]) rfl (lenOf own_pd10 rfl) rfl (by show 2 * 0 + _ ≤ _; exact Nat.le_of_eq rfl) (hb hby at_130) e189 (by decide) (by decide)
      obtain ⟨rfl, Nq215, Kq215, Eq215, Fq215_0, Fq215_1, Fq215_2, Fq215_3, Fq215_4, Fq215_5, Fq215_6⟩ := hQ215
      have N215 := Fr.app N188 Nq215
      have f216 := own_staKeepW f190 Kq215 (allS A189.nostat all0)
      have f217 := Old.keep f191 Kq215 (allS g_b189 all0)
      have f218 := own_staKeepW f192 Kq215 (allS A189.nostat all0)
      have f219 := own_staKeepW f193 Kq215 (allS A189.nostat all0)
      have f220 := f194.keep Kq215
      have f221 := f195.keep Kq215 (ninS ne_b16_b189 nin0)
      have f222 := f196.keep Kq215 (ninS ne_b16_b189 nin0)
      have f223 := f197.keep Kq215 (ninS ne_b16_b189 nin0)
      have f224 := f198.keep Kq215
      have f225 := f199.keep Kq215
      have f226 := f200.keep Kq215
      have f227 := f201.keep Kq215 (ninS ne_b80_b189 nin0)
      have f228 := f202.keep Kq215 (ninS ne_b80_b189 nin0)
      have f229 := f203.keep Kq215 (ninS ne_b80_b189 nin0)
      have f230 := f204.keep Kq215 (ninS ne_b80_b189 nin0)
      have f231 := f205.keep Kq215 (ninS ne_b80_b189 nin0)
      have f232 := f206.keep Kq215 (ninS ne_b80_b189 nin0)
      have f233 := f207.keep Kq215 (ninS ne_b80_b189 nin0)
      have Z215 := Nat.le_trans Z189 Kq215.1
      have hk215 := Nat.le_trans hk189 Kq215.1
      refine own_s T215 (mkF m 133 #[iv p1, iv p2, iv p3, iv p4, iv p5, iv p6, .val wv1, .val wv6, .val wv11, rv b16, rv b38, rv b58, rv b80, .val .null, rv oP, u_, u_] [(.ref b189)]) st215 ?_
      refine own_s T215 (mkF m 139 #[iv p1, iv p2, iv p3, iv p4, iv p5, iv p6, .val wv1, .val wv6, .val wv11, rv b16, rv b38, rv b58, rv b80, .val .null, rv oP, rv b189, u_] [wv6, (.ref b189)]) (fun _ k => XS.astore X215.here hx rfl (hb hby at_133) rfl rfl (l' := #[iv p1, iv p2, iv p3, iv p4, iv p5, iv p6, .val wv1, .val wv6, .val wv11, rv b16, rv b38, rv b58, rv b80, .val .null, rv oP, rv b189, u_]) rfl (XS.aload X215.here hx rfl (hb hby at_135) rfl rfl (XS.aload X215.here hx rfl (hb hby at_137) rfl rw6 k))) ?_
      obtain ⟨v234, T234, L234, X234, hQ234, st234⟩ := own_callV X215 hx hZ (y := own_y15) (z := own_y15) (W := 0) (a := b189) hown (own_h hw 119 rfl) (own_h hw 120 rfl) (notFace_of_selects (args := #[]) (mvT hZ (own_h hw 122 rfl))) (own_h hw 122 rfl) (own_h hw 121 rfl) (own_h hw 81 rfl) (own_h hw 123 rfl) (by decide) (own_rmwi l Z a0 hw [] b189 wv6 wv11 .null (.ref b38) (.ref b58) (.ref oP) (.ref b16) T215.heap n0 Z215 Eq215 Fq215_1 Fq215_2 Fq215_3 Fq215_4 Fq215_5 Fq215_6 rw6 rw11 rfl rfl rfl rfl rfl) (by decide) (by decide) Eq215 (g := (mkF m 139 #[iv p1, iv p2, iv p3, iv p4, iv p5, iv p6, .val wv1, .val wv6, .val wv11, rv b16, rv b38, rv b58, rv b80, .val .null, rv oP, rv b189, u_] [wv6, (.ref b189)])) rfl (by rw [hml]; rfl) (argsL := [wv6]) (rest := []) rfl (lenOf own_pd14 rfl) rfl (by show 2 * 0 + _ ≤ _; exact Nat.le_of_eq rfl) (hb hby at_139) rfl (by decide) (by decide)
      obtain ⟨⟨b234, rfl, g_b234, sq234, Eq234, Fq234_0, Fq234_1, Fq234_2, Fq234_3, Fq234_4, Fq234_5, Fq234_6⟩, Nq234, Kq234⟩ := hQ234
      have N234 := Fr.app N215 Nq234
      have f235 := own_staKeep f216 Kq234
      have f236 := Old.keep f217 Kq234 all0
      have f237 := own_staKeep f218 Kq234
      have f238 := own_staKeep f219 Kq234
      have f239 := f220.keep Kq234
      have f240 := f221.keep Kq234 nin0
      have f241 := f222.keep Kq234 nin0
      have f242 := f223.keep Kq234 nin0
      have f243 := f224.keep Kq234
      have f244 := f225.keep Kq234
      have f245 := f226.keep Kq234
      have f246 := f227.keep Kq234 nin0
      have f247 := f228.keep Kq234 nin0
      have f248 := f229.keep Kq234 nin0
      have f249 := f230.keep Kq234 nin0
      have f250 := f231.keep Kq234 nin0
      have f251 := f232.keep Kq234 nin0
      have f252 := f233.keep Kq234 nin0
      have f253 := Eq215.keep Kq234
      have f254 := Fq215_0.keep Kq234 nin0
      have f255 := Fq215_1.keep Kq234 nin0
      have f256 := Fq215_2.keep Kq234 nin0
      have f257 := Fq215_3.keep Kq234 nin0
      have f258 := Fq215_4.keep Kq234 nin0
      have f259 := Fq215_5.keep Kq234 nin0
      have f260 := Fq215_6.keep Kq234 nin0
      have Z234 := Nat.le_trans Z215 Kq234.1
      have hk234 := Nat.le_trans hk215 Kq234.1
      refine own_s T234 (mkF m 142 #[iv p1, iv p2, iv p3, iv p4, iv p5, iv p6, .val wv1, .val wv6, .val wv11, rv b16, rv b38, rv b58, rv b80, .val .null, rv oP, rv b189, u_] [(.ref b234)]) st234 ?_
      refine own_s T234 (mkF m 151 #[iv p1, iv p2, iv p3, iv p4, iv p5, iv p6, .val wv1, .val wv6, .val wv11, rv b16, rv b38, rv b58, rv b80, .val .null, rv oP, rv b189, rv b234] [(.ref b234)]) (fun _ k => XS.astore X234.here hx rfl (hb hby at_142) rfl rfl (l' := #[iv p1, iv p2, iv p3, iv p4, iv p5, iv p6, .val wv1, .val wv6, .val wv11, rv b16, rv b38, rv b58, rv b80, .val .null, rv oP, rv b189, rv b234]) rfl (XS.aload X234.here hx rfl (hb hby at_144) rfl rfl (XS.ifnullNo X234.here hx rfl (hb hby at_146) rfl (XS.aload X234.here hx rfl (hb hby at_149) rfl rfl k)))) ?_
      obtain ⟨v261, T261, L261, X261, hQ261, st261⟩ := own_callV X234 hx hZ (y := own_y16) (z := own_y16) (W := 0) (a := b234) hown (own_h hw 125 rfl) (own_h hw 126 rfl) (notFace_of_selects (args := #[]) (mvT hZ (own_h hw 128 rfl))) (own_h hw 128 rfl) (own_h hw 127 rfl) (own_h hw 81 rfl) (own_h hw 129 rfl) (by decide) (own_rmg_id l Z a0 hw [] b234 wv6 T234.heap n0 Z234 Fq234_0 rw6) (by decide) (by decide) Eq234 (g := (mkF m 151 #[iv p1, iv p2, iv p3, iv p4, iv p5, iv p6, .val wv1, .val wv6, .val wv11, rv b16, rv b38, rv b58, rv b80, .val .null, rv oP, rv b189, rv b234] [(.ref b234)])) rfl (by rw [hml]; rfl) (argsL := []) (rest := []) rfl (lenOf own_pd15 rfl) rfl (by show 2 * 0 + _ ≤ _; exact Nat.le_of_eq rfl) (hb hby at_151) rfl (by decide) (by decide)
      obtain ⟨rfl, Nq261, e261⟩ := hQ261
      have N261 := Fr.app N234 Nq261
      refine own_s T261 (mkF m 154 #[iv p1, iv p2, iv p3, iv p4, iv p5, iv p6, .val wv1, .val wv6, .val wv11, rv b16, rv b38, rv b58, rv b80, .val .null, rv oP, rv b189, rv b234] [wv6]) st261 ?_
      refine own_s T261 (mkF m 161 #[iv p1, iv p2, iv p3, iv p4, iv p5, iv p6, .val wv1, .val wv6, .val wv11, rv b16, rv b38, rv b58, rv b80, .val .null, rv oP, rv b189, rv b234] [(.ref b234)]) (fun _ k => XS.aload X261.here hx rfl (hb hby at_154) rfl rw6 (Jvm.RoadKit.acmp (g := (mkF m 156 #[iv p1, iv p2, iv p3, iv p4, iv p5, iv p6, .val wv1, .val wv6, .val wv11, rv b16, rv b38, rv b58, rv b80, .val .null, rv oP, rv b189, rv b234] [wv6, wv6])) X261 hx rfl rw6 rw6 (pc0 := 156) (pc' := 159) (same := true) rfl (hb hby at_156) rfl (decide_eq_true rfl) (by decide) (by decide) (XS.aload X261.here hx rfl (hb hby at_159) rfl rfl k))) ?_
      obtain ⟨v262, T262, L262, X262, hQ262, st262⟩ := own_callV X261 hx hZ (y := own_y17) (z := own_y17) (W := 0) (a := b234) hown (own_h hw 130 rfl) (own_h hw 131 rfl) (notFace_of_selects (args := #[]) (mvT hZ (own_h hw 133 rfl))) (own_h hw 133 rfl) (own_h hw 132 rfl) (own_h hw 81 rfl) (own_h hw 134 rfl) (by decide) (own_rmg_className l Z a0 hw [] b234 wv11 T234.heap n0 Z234 Fq234_1 rw11) (by decide) (by decide) Eq234 (g := (mkF m 161 #[iv p1, iv p2, iv p3, iv p4, iv p5, iv p6, .val wv1, .val wv6, .val wv11, rv b16, rv b38, rv b58, rv b80, .val .null, rv oP, rv b189, rv b234] [(.ref b234)])) rfl (by rw [hml]; rfl) (argsL := []) (rest := []) rfl (lenOf own_pd15 rfl) rfl (by show 2 * 0 + _ ≤ _; exact Nat.le_of_eq rfl) (hb hby at_161) e261 (by decide) (by decide)
      obtain ⟨rfl, Nq262, e262⟩ := hQ262
      have N262 := Fr.app N261 Nq262
      refine own_s T262 (mkF m 164 #[iv p1, iv p2, iv p3, iv p4, iv p5, iv p6, .val wv1, .val wv6, .val wv11, rv b16, rv b38, rv b58, rv b80, .val .null, rv oP, rv b189, rv b234] [wv11]) st262 ?_
      refine own_s T262 (mkF m 171 #[iv p1, iv p2, iv p3, iv p4, iv p5, iv p6, .val wv1, .val wv6, .val wv11, rv b16, rv b38, rv b58, rv b80, .val .null, rv oP, rv b189, rv b234] [(.ref b234)]) (fun _ k => XS.aload X262.here hx rfl (hb hby at_164) rfl rw11 (Jvm.RoadKit.acmp (g := (mkF m 166 #[iv p1, iv p2, iv p3, iv p4, iv p5, iv p6, .val wv1, .val wv6, .val wv11, rv b16, rv b38, rv b58, rv b80, .val .null, rv oP, rv b189, rv b234] [wv11, wv11])) X262 hx rfl rw11 rw11 (pc0 := 166) (pc' := 169) (same := true) rfl (hb hby at_166) rfl (decide_eq_true rfl) (by decide) (by decide) (XS.aload X262.here hx rfl (hb hby at_169) rfl rfl k))) ?_
      obtain ⟨v263, T263, L263, X263, hQ263, st263⟩ := own_callV X262 hx hZ (y := own_y18) (z := own_y18) (W := 0) (a := b234) hown (own_h hw 135 rfl) (own_h hw 136 rfl) (notFace_of_selects (args := #[]) (mvT hZ (own_h hw 138 rfl))) (own_h hw 138 rfl) (own_h hw 137 rfl) (own_h hw 81 rfl) (own_h hw 139 rfl) (by decide) (own_rmg_value l Z a0 hw [] b234 .null T234.heap n0 Z234 Fq234_2 rfl) (by decide) (by decide) Eq234 (g := (mkF m 171 #[iv p1, iv p2, iv p3, iv p4, iv p5, iv p6, .val wv1, .val wv6, .val wv11, rv b16, rv b38, rv b58, rv b80, .val .null, rv oP, rv b189, rv b234] [(.ref b234)])) rfl (by rw [hml]; rfl) (argsL := []) (rest := []) rfl (lenOf own_pd16 rfl) rfl (by show 2 * 0 + _ ≤ _; exact Nat.le_of_eq rfl) (hb hby at_171) e262 (by decide) (by decide)
      obtain ⟨rfl, Nq263, e263⟩ := hQ263
      have N263 := Fr.app N262 Nq263
      refine own_s T263 (mkF m 174 #[iv p1, iv p2, iv p3, iv p4, iv p5, iv p6, .val wv1, .val wv6, .val wv11, rv b16, rv b38, rv b58, rv b80, .val .null, rv oP, rv b189, rv b234] [.null]) st263 ?_
      refine own_s T263 (mkF m 181 #[iv p1, iv p2, iv p3, iv p4, iv p5, iv p6, .val wv1, .val wv6, .val wv11, rv b16, rv b38, rv b58, rv b80, .val .null, rv oP, rv b189, rv b234] [(.ref b234)]) (fun _ k => XS.aload X263.here hx rfl (hb hby at_174) rfl rfl (Jvm.RoadKit.acmp (g := (mkF m 176 #[iv p1, iv p2, iv p3, iv p4, iv p5, iv p6, .val wv1, .val wv6, .val wv11, rv b16, rv b38, rv b58, rv b80, .val .null, rv oP, rv b189, rv b234] [.null, .null])) X263 hx rfl rfl rfl (pc0 := 176) (pc' := 179) (same := true) rfl (hb hby at_176) rfl (decide_eq_true rfl) (by decide) (by decide) (XS.aload X263.here hx rfl (hb hby at_179) rfl rfl k))) ?_
      obtain ⟨v264, T264, L264, X264, hQ264, st264⟩ := own_callV X263 hx hZ (y := own_y19) (z := own_y19) (W := 0) (a := b234) hown (own_h hw 140 rfl) (own_h hw 141 rfl) (notFace_of_selects (args := #[]) (mvT hZ (own_h hw 143 rfl))) (own_h hw 143 rfl) (own_h hw 142 rfl) (own_h hw 81 rfl) (own_h hw 144 rfl) (by decide) (own_rmg_arguments l Z a0 hw [] b234 (.ref b38) T234.heap n0 Z234 Fq234_3 rfl) (by decide) (by decide) Eq234 (g := (mkF m 181 #[iv p1, iv p2, iv p3, iv p4, iv p5, iv p6, .val wv1, .val wv6, .val wv11, rv b16, rv b38, rv b58, rv b80, .val .null, rv oP, rv b189, rv b234] [(.ref b234)])) rfl (by rw [hml]; rfl) (argsL := []) (rest := []) rfl (lenOf own_pd17 rfl) rfl (by show 2 * 0 + _ ≤ _; exact Nat.le_of_eq rfl) (hb hby at_181) e263 (by decide) (by decide)
      obtain ⟨rfl, Nq264, e264⟩ := hQ264
      have N264 := Fr.app N263 Nq264
      refine own_s T264 (mkF m 184 #[iv p1, iv p2, iv p3, iv p4, iv p5, iv p6, .val wv1, .val wv6, .val wv11, rv b16, rv b38, rv b58, rv b80, .val .null, rv oP, rv b189, rv b234] [(.ref b38)]) st264 ?_
      refine own_s T264 (mkF m 191 #[iv p1, iv p2, iv p3, iv p4, iv p5, iv p6, .val wv1, .val wv6, .val wv11, rv b16, rv b38, rv b58, rv b80, .val .null, rv oP, rv b189, rv b234] [(.ref b234)]) (fun _ k => XS.aload X264.here hx rfl (hb hby at_184) rfl rfl (Jvm.RoadKit.acmp (g := (mkF m 186 #[iv p1, iv p2, iv p3, iv p4, iv p5, iv p6, .val wv1, .val wv6, .val wv11, rv b16, rv b38, rv b58, rv b80, .val .null, rv oP, rv b189, rv b234] [(.ref b38), (.ref b38)])) X264 hx rfl rfl rfl (pc0 := 186) (pc' := 189) (same := true) rfl (hb hby at_186) rfl (decide_eq_true rfl) (by decide) (by decide) (XS.aload X264.here hx rfl (hb hby at_189) rfl rfl k))) ?_
      obtain ⟨v265, T265, L265, X265, hQ265, st265⟩ := own_callV X264 hx hZ (y := own_y20) (z := own_y20) (W := 0) (a := b234) hown (own_h hw 145 rfl) (own_h hw 146 rfl) (notFace_of_selects (args := #[]) (mvT hZ (own_h hw 148 rfl))) (own_h hw 148 rfl) (own_h hw 147 rfl) (own_h hw 81 rfl) (own_h hw 149 rfl) (by decide) (own_rmg_properties l Z a0 hw [] b234 (.ref b58) T234.heap n0 Z234 Fq234_4 rfl) (by decide) (by decide) Eq234 (g := (mkF m 191 #[iv p1, iv p2, iv p3, iv p4, iv p5, iv p6, .val wv1, .val wv6, .val wv11, rv b16, rv b38, rv b58, rv b80, .val .null, rv oP, rv b189, rv b234] [(.ref b234)])) rfl (by rw [hml]; rfl) (argsL := []) (rest := []) rfl (lenOf own_pd17 rfl) rfl (by show 2 * 0 + _ ≤ _; exact Nat.le_of_eq rfl) (hb hby at_191) e264 (by decide) (by decide)
      obtain ⟨rfl, Nq265, e265⟩ := hQ265
      have N265 := Fr.app N264 Nq265
      refine own_s T265 (mkF m 194 #[iv p1, iv p2, iv p3, iv p4, iv p5, iv p6, .val wv1, .val wv6, .val wv11, rv b16, rv b38, rv b58, rv b80, .val .null, rv oP, rv b189, rv b234] [(.ref b58)]) st265 ?_
      refine own_s T265 (mkF m 201 #[iv p1, iv p2, iv p3, iv p4, iv p5, iv p6, .val wv1, .val wv6, .val wv11, rv b16, rv b38, rv b58, rv b80, .val .null, rv oP, rv b189, rv b234] [(.ref b234)]) (fun _ k => XS.aload X265.here hx rfl (hb hby at_194) rfl rfl (Jvm.RoadKit.acmp (g := (mkF m 196 #[iv p1, iv p2, iv p3, iv p4, iv p5, iv p6, .val wv1, .val wv6, .val wv11, rv b16, rv b38, rv b58, rv b80, .val .null, rv oP, rv b189, rv b234] [(.ref b58), (.ref b58)])) X265 hx rfl rfl rfl (pc0 := 196) (pc' := 199) (same := true) rfl (hb hby at_196) rfl (decide_eq_true rfl) (by decide) (by decide) (XS.aload X265.here hx rfl (hb hby at_199) rfl rfl k))) ?_
      obtain ⟨v266, T266, L266, X266, hQ266, st266⟩ := own_callV X265 hx hZ (y := own_y21) (z := own_y21) (W := 0) (a := b234) hown (own_h hw 113 rfl) (own_h hw 114 rfl) (notFace_of_selects (args := #[]) (mvT hZ (own_h hw 116 rfl))) (own_h hw 116 rfl) (own_h hw 115 rfl) (own_h hw 81 rfl) (own_h hw 117 rfl) (by decide) (own_rmg_lifecycle l Z a0 hw [] b234 (.ref oP) T234.heap n0 Z234 Fq234_5 rfl) (by decide) (by decide) Eq234 (g := (mkF m 201 #[iv p1, iv p2, iv p3, iv p4, iv p5, iv p6, .val wv1, .val wv6, .val wv11, rv b16, rv b38, rv b58, rv b80, .val .null, rv oP, rv b189, rv b234] [(.ref b234)])) rfl (by rw [hml]; rfl) (argsL := []) (rest := []) rfl (lenOf own_pd18 rfl) rfl (by show 2 * 0 + _ ≤ _; exact Nat.le_of_eq rfl) (hb hby at_201) e265 (by decide) (by decide)
      obtain ⟨rfl, Nq266, e266⟩ := hQ266
      have N266 := Fr.app N265 Nq266
      refine own_s T266 (mkF m 204 #[iv p1, iv p2, iv p3, iv p4, iv p5, iv p6, .val wv1, .val wv6, .val wv11, rv b16, rv b38, rv b58, rv b80, .val .null, rv oP, rv b189, rv b234] [(.ref oP)]) st266 ?_
      refine own_s T266 (mkF m 211 #[iv p1, iv p2, iv p3, iv p4, iv p5, iv p6, .val wv1, .val wv6, .val wv11, rv b16, rv b38, rv b58, rv b80, .val .null, rv oP, rv b189, rv b234] [(.ref b234)]) (fun _ k => XS.aload X266.here hx rfl (hb hby at_204) rfl rfl (Jvm.RoadKit.acmp (g := (mkF m 206 #[iv p1, iv p2, iv p3, iv p4, iv p5, iv p6, .val wv1, .val wv6, .val wv11, rv b16, rv b38, rv b58, rv b80, .val .null, rv oP, rv b189, rv b234] [(.ref oP), (.ref oP)])) X266 hx rfl rfl rfl (pc0 := 206) (pc' := 209) (same := true) rfl (hb hby at_206) rfl (decide_eq_true rfl) (by decide) (by decide) (XS.aload X266.here hx rfl (hb hby at_209) rfl rfl k))) ?_
      obtain ⟨v267, T267, L267, X267, hQ267, st267⟩ := own_callV X266 hx hZ (y := own_y22) (z := own_y22) (W := 0) (a := b234) hown (own_h hw 150 rfl) (own_h hw 151 rfl) (notFace_of_selects (args := #[]) (mvT hZ (own_h hw 153 rfl))) (own_h hw 153 rfl) (own_h hw 152 rfl) (own_h hw 81 rfl) (own_h hw 154 rfl) (by decide) (own_rmg_location l Z a0 hw [] b234 (.ref b16) T234.heap n0 Z234 Fq234_6 rfl) (by decide) (by decide) Eq234 (g := (mkF m 211 #[iv p1, iv p2, iv p3, iv p4, iv p5, iv p6, .val wv1, .val wv6, .val wv11, rv b16, rv b38, rv b58, rv b80, .val .null, rv oP, rv b189, rv b234] [(.ref b234)])) rfl (by rw [hml]; rfl) (argsL := []) (rest := []) rfl (lenOf own_pd19 rfl) rfl (by show 2 * 0 + _ ≤ _; exact Nat.le_of_eq rfl) (hb hby at_211) e266 (by decide) (by decide)
      obtain ⟨rfl, Nq267, e267⟩ := hQ267
      have N267 := Fr.app N266 Nq267
      refine own_s T267 (mkF m 214 #[iv p1, iv p2, iv p3, iv p4, iv p5, iv p6, .val wv1, .val wv6, .val wv11, rv b16, rv b38, rv b58, rv b80, .val .null, rv oP, rv b189, rv b234] [(.ref b16)]) st267 ?_
      refine own_s T267 (mkF m 224 #[iv p1, iv p2, iv p3, iv p4, iv p5, iv p6, .val wv1, .val wv6, .val wv11, rv b16, rv b38, rv b58, rv b80, .val .null, rv oP, rv b189, rv b234] [(.int 1)]) (fun _ k => XS.aload X267.here hx rfl (hb hby at_214) rfl rfl (Jvm.RoadKit.acmp (g := (mkF m 216 #[iv p1, iv p2, iv p3, iv p4, iv p5, iv p6, .val wv1, .val wv6, .val wv11, rv b16, rv b38, rv b58, rv b80, .val .null, rv oP, rv b189, rv b234] [(.ref b16), (.ref b16)])) X267 hx rfl rfl rfl (pc0 := 216) (pc' := 219) (same := true) rfl (hb hby at_216) rfl (decide_eq_true rfl) (by decide) (by decide) (XS.iconst X267.here hx rfl (hb hby at_219) (XS.goto X267.here hx rfl (pc0 := 220) (pc' := 224) rfl (hb hby at_220) (by decide) (by decide) k)))) ?_
      exact own_finZ X267 hx (t := .boolean) hret (by simp) (z' := (1 : Int32)) rfl (hb hby at_224) (own_endW (Qv := (own_Q0 Z p1 p2 p3 p4 p5 p6 gC oP oD h0 n0)) X267 hS (own_some hret) hlk (by decide) (by decide) e267 hk234 (fun vm' hv' => ⟨rfl, N267⟩))
  · refine own_s T98 (mkF m 81 #[iv p1, iv p2, iv p3, iv p4, iv p5, iv p6, .val wv1, .val wv6, .val wv11, rv b16, rv b38, rv b58, rv b80, u_, u_, u_, u_] []) (fun _ k => XS.ifNo X98.here hx rfl (hb hby at_78) rfl ((if0 _ _).trans (feq c78).1) k) ?_
    obtain ⟨T268, h268, X268, e268, E268, A268, D268, -, st268⟩ := newO X98 hx hZ hown (own_h hw 106 rfl) (own_h hw 107 rfl) (own_h hw 108 rfl) rfl (g := (mkF m 81 #[iv p1, iv p2, iv p3, iv p4, iv p5, iv p6, .val wv1, .val wv6, .val wv11, rv b16, rv b38, rv b58, rv b80, u_, u_, u_, u_] [])) rfl (hb hby at_81) (by decide) (by decide)
    obtain ⟨b268, g268⟩ : ∃ z, z = T98.heap.size := ⟨_, rfl⟩
    have ne_b16_b268 : b16 ≠ b268 := Nat.ne_of_lt (Nat.lt_of_lt_of_le f103.lt (Nat.le_of_eq g268.symm))
    have ne_b38_b268 : b38 ≠ b268 := Nat.ne_of_lt (Nat.lt_of_lt_of_le f107.lt (Nat.le_of_eq g268.symm))
    have ne_b58_b268 : b58 ≠ b268 := Nat.ne_of_lt (Nat.lt_of_lt_of_le f108.lt (Nat.le_of_eq g268.symm))
    have ne_b80_b268 : b80 ≠ b268 := Nat.ne_of_lt (Nat.lt_of_lt_of_le Eq98.lt (Nat.le_of_eq g268.symm))
    have g_b268 : n0 ≤ b268 := Nat.le_trans Z98 (Nat.le_of_eq g268.symm)
    rw [← g268] at A268 D268 st268
    have f269 := Sta.ext E268 f99
    have f270 := Old.ext f100 E268
    have f271 := Sta.ext E268 f101
    have f272 := Sta.ext E268 f102
    have f273 := Exa.ext E268 f103
    have f274 := Fld.ext E268 f104
    have f275 := Fld.ext E268 f105
    have f276 := Fld.ext E268 f106
    have f277 := Exa.ext E268 f107
    have f278 := Exa.ext E268 f108
    have f279 := Exa.ext E268 Eq98
    have f280 := Fld.ext E268 Fq98_0
    have f281 := Fld.ext E268 Fq98_1
    have f282 := Fld.ext E268 Fq98_2
    have f283 := Fld.ext E268 Fq98_3
    have f284 := Fld.ext E268 Fq98_4
    have f285 := Fld.ext E268 Fq98_5
    have f286 := Fld.ext E268 Fq98_6
    have Z268 := Nat.le_trans Z98 E268.1
    have hk268 := Nat.le_trans hk98 E268.1
    refine own_s T268 (mkF m 84 #[iv p1, iv p2, iv p3, iv p4, iv p5, iv p6, .val wv1, .val wv6, .val wv11, rv b16, rv b38, rv b58, rv b80, u_, u_, u_, u_] [(.ref b268)]) st268 ?_
    refine own_s T268 (mkF m 85 #[iv p1, iv p2, iv p3, iv p4, iv p5, iv p6, .val wv1, .val wv6, .val wv11, rv b16, rv b38, rv b58, rv b80, u_, u_, u_, u_] [(.ref b268), (.ref b268)]) (fun _ k => XS.dup X268.here hx rfl (hb hby at_84) rfl rfl k) ?_
    obtain ⟨v287, T287, L287, X287, hQ287, st287⟩ := own_callI X268 hx hZ (y := own_y11) (W := 1) (a := b268) rfl hown (own_h hw 109 rfl) (own_h hw 110 rfl) (own_h hw 108 rfl) (own_h hw 111 rfl) (by decide) (own_rmnv l Z a0 hw [] b268 h268 n0 Z268) (by decide) (by decide) (g := (mkF m 85 #[iv p1, iv p2, iv p3, iv p4, iv p5, iv p6, .val wv1, .val wv6, .val wv11, rv b16, rv b38, rv b58, rv b80, u_, u_, u_, u_] [(.ref b268), (.ref b268)])) rfl (by rw [hml]; rfl) (argsL := []) (rest := [(.ref b268)]) rfl (lenOf own_pd9 rfl) rfl (by show 2 * 0 + _ ≤ _; exact Nat.le_of_eq rfl) (hb hby at_85) e268 (by decide) (by decide)
    obtain ⟨rfl, Nq287, e287⟩ := hQ287
    have N287 := Fr.app N98 Nq287
    refine own_s T287 (mkF m 88 #[iv p1, iv p2, iv p3, iv p4, iv p5, iv p6, .val wv1, .val wv6, .val wv11, rv b16, rv b38, rv b58, rv b80, u_, u_, u_, u_] [(.ref b268)]) st287 ?_
    refine own_s T287 (mkF m 98 #[iv p1, iv p2, iv p3, iv p4, iv p5, iv p6, .val wv1, .val wv6, .val wv11, rv b16, rv b38, rv b58, rv b80, rv b268, u_, u_, u_] [(.int (p6 &&& (2 : Int32)))]) (fun _ k => XS.goto X287.here hx rfl (pc0 := 88) (pc' := 92) rfl (hb hby at_88) (by decide) (by decide) (XS.astore X287.here hx rfl (hb hby at_92) rfl rfl (l' := #[iv p1, iv p2, iv p3, iv p4, iv p5, iv p6, .val wv1, .val wv6, .val wv11, rv b16, rv b38, rv b58, rv b80, rv b268, u_, u_, u_]) rfl (XS.iload X287.here hx rfl (hb hby at_94) rfl  (XS.iconst X287.here hx rfl (hb hby at_96) (XS.iand X287.here hx rfl (hb hby at_97) rfl k))))) ?_
    by_cases c98 : (p6 &&& (2 : Int32)) = (0 : Int32)
    · refine own_s T287 (mkF m 112 #[iv p1, iv p2, iv p3, iv p4, iv p5, iv p6, .val wv1, .val wv6, .val wv11, rv b16, rv b38, rv b58, rv b80, rv b268, .val .null, u_, u_] []) (fun _ k => XS.ifYes X287.here hx rfl (pc0 := 98) (pc' := 109) rfl (hb hby at_98) rfl ((if0 _ _).trans (teq c98).1) (by decide) (by decide) (XS.aconstNull X287.here hx rfl (hb hby at_109) (XS.astore X287.here hx rfl (hb hby at_110) rfl rfl (l' := #[iv p1, iv p2, iv p3, iv p4, iv p5, iv p6, .val wv1, .val wv6, .val wv11, rv b16, rv b38, rv b58, rv b80, rv b268, .val .null, u_, u_]) rfl k))) ?_
      obtain ⟨T288, h288, X288, e288, E288, A288, D288, -, st288⟩ := newO X287 hx hZ hown (own_h hw 79 rfl) (own_h hw 80 rfl) (own_h hw 81 rfl) e287 (g := (mkF m 112 #[iv p1, iv p2, iv p3, iv p4, iv p5, iv p6, .val wv1, .val wv6, .val wv11, rv b16, rv b38, rv b58, rv b80, rv b268, .val .null, u_, u_] [])) rfl (hb hby at_112) (by decide) (by decide)
      obtain ⟨b288, g288⟩ : ∃ z, z = h268.size := ⟨_, rfl⟩
      have ne_b16_b288 : b16 ≠ b288 := Nat.ne_of_lt (Nat.lt_of_lt_of_le f273.lt (Nat.le_of_eq g288.symm))
      have ne_b38_b288 : b38 ≠ b288 := Nat.ne_of_lt (Nat.lt_of_lt_of_le f277.lt (Nat.le_of_eq g288.symm))
      have ne_b58_b288 : b58 ≠ b288 := Nat.ne_of_lt (Nat.lt_of_lt_of_le f278.lt (Nat.le_of_eq g288.symm))
      have ne_b80_b288 : b80 ≠ b288 := Nat.ne_of_lt (Nat.lt_of_lt_of_le f279.lt (Nat.le_of_eq g288.symm))
      have ne_b268_b288 : b268 ≠ b288 := Nat.ne_of_lt (Nat.lt_of_lt_of_le A268.lt (Nat.le_of_eq g288.symm))
      have g_b288 : n0 ≤ b288 := Nat.le_trans Z268 (Nat.le_of_eq g288.symm)
      rw [← g288] at A288 D288 st288
      have f289 := Sta.ext E288 f269
      have f290 := Old.ext f270 E288
      have f291 := Sta.ext E288 f271
      have f292 := Sta.ext E288 f272
      have f293 := Exa.ext E288 f273
      have f294 := Fld.ext E288 f274
      have f295 := Fld.ext E288 f275
      have f296 := Fld.ext E288 f276
      have f297 := Exa.ext E288 f277
      have f298 := Exa.ext E288 f278
      have f299 := Exa.ext E288 f279
      have f300 := Fld.ext E288 f280
      have f301 := Fld.ext E288 f281
      have f302 := Fld.ext E288 f282
      have f303 := Fld.ext E288 f283
      have f304 := Fld.ext E288 f284
      have f305 := Fld.ext E288 f285
      have f306 := Fld.ext E288 f286
      have f307 := Exa.ext E288 A268
      have Z288 := Nat.le_trans Z268 E288.1
      have hk288 := Nat.le_trans hk268 E288.1
      have f308 : Fld Z h288 b288 "com/example/tagwright/tagwright/Definition" "id" "Ljava/lang/String;" .null := D288 (Or.inr (own_h hw 93 rfl)) (ty := (.object "java/lang/String")) (by decide)
      have f309 : Fld Z h288 b288 "com/example/tagwright/tagwright/Definition" "className" "Ljava/lang/String;" .null := D288 (Or.inr (own_h hw 95 rfl)) (ty := (.object "java/lang/String")) (by decide)
      have f310 : Fld Z h288 b288 "com/example/tagwright/tagwright/Definition" "value" "Lcom/example/tagwright/tagwright/Value;" .null := D288 (Or.inr (own_h hw 97 rfl)) (ty := (.object "com/example/tagwright/tagwright/Value")) (by decide)
      have f311 : Fld Z h288 b288 "com/example/tagwright/tagwright/Definition" "arguments" "Ljava/util/List;" .null := D288 (Or.inr (own_h hw 99 rfl)) (ty := (.object "java/util/List")) (by decide)
      have f312 : Fld Z h288 b288 "com/example/tagwright/tagwright/Definition" "properties" "Ljava/util/List;" .null := D288 (Or.inr (own_h hw 101 rfl)) (ty := (.object "java/util/List")) (by decide)
      have f313 : Fld Z h288 b288 "com/example/tagwright/tagwright/Definition" "lifecycle" "Lcom/example/tagwright/tagwright/Definition$Lifecycle;" .null := D288 (Or.inr (own_h hw 103 rfl)) (ty := (.object "com/example/tagwright/tagwright/Definition$Lifecycle")) (by decide)
      have f314 : Fld Z h288 b288 "com/example/tagwright/tagwright/Definition" "location" "Lcom/example/tagwright/tagwright/Location;" .null := D288 (Or.inr (own_h hw 105 rfl)) (ty := (.object "com/example/tagwright/tagwright/Location")) (by decide)
      refine own_s T288 (mkF m 115 #[iv p1, iv p2, iv p3, iv p4, iv p5, iv p6, .val wv1, .val wv6, .val wv11, rv b16, rv b38, rv b58, rv b80, rv b268, .val .null, u_, u_] [(.ref b288)]) st288 ?_
      refine own_s T288 (mkF m 124 #[iv p1, iv p2, iv p3, iv p4, iv p5, iv p6, .val wv1, .val wv6, .val wv11, rv b16, rv b38, rv b58, rv b80, rv b268, .val .null, u_, u_] [(.ref b38), (.ref b268), wv11, wv1, (.ref b288), (.ref b288)]) (fun _ k => XS.dup X288.here hx rfl (hb hby at_115) rfl rfl (XS.aload X288.here hx rfl (hb hby at_116) rfl rw1 (XS.aload X288.here hx rfl (hb hby at_118) rfl rw11 (XS.aload X288.here hx rfl (hb hby at_120) rfl rfl (XS.aload X288.here hx rfl (hb hby at_122) rfl rfl k))))) ?_
      refine own_s T288 (mkF m 130 #[iv p1, iv p2, iv p3, iv p4, iv p5, iv p6, .val wv1, .val wv6, .val wv11, rv b16, rv b38, rv b58, rv b80, rv b268, .val .null, u_, u_] [(.ref b16), .null, (.ref b58), (.ref b38), (.ref b268), wv11, wv1, (.ref b288), (.ref b288)]) (fun _ k => XS.aload X288.here hx rfl (hb hby at_124) rfl rfl (XS.aload X288.here hx rfl (hb hby at_126) rfl rfl (XS.aload X288.here hx rfl (hb hby at_128) rfl rfl k))) ?_
      obtain ⟨v315, T315, L315, X315, hQ315, st315⟩ := own_callI X288 hx hZ (y := own_y13) (W := 1) (a := b288) rfl hown (own_h hw 118 rfl) (own_h hw 89 rfl) (own_h hw 81 rfl) (own_h hw 90 rfl) (by decide) (own_rmd7 l Z a0 hw [] b288 wv1 wv11 (.ref b268) (.ref b38) (.ref b58) .null (.ref b16) h288 n0 Z288 g_b288 A288 f308 f309 f310 f311 f312 f313 f314 rw1 rw11 rfl rfl rfl rfl rfl) (by decide) (by decide) (g := (mkF m 130 #[iv p1, iv p2, iv p3, iv p4, iv p5, iv p6, .val wv1, .val wv6, .val wv11, rv b16, rv b38, rv b58, rv b80, rv b268, .val .null, u_, u_] [(.ref b16), .null, (.ref b58), (.ref b38), (.ref b268), wv11, wv1, (.ref b288), (.ref b288)])) rfl (by rw [hml]; rfl) (argsL := [wv1, wv11, (.ref b268), (.ref b38), (.ref b58), .null, (.ref b16)]) (rest := [(.ref b288)]) rfl (lenOf own_pd10 rfl) rfl (by show 2 * 0 + _ ≤ _; exact Nat.le_of_eq rfl) (hb hby at_130) e288 (by decide) (by decide)
      obtain ⟨rfl, Nq315, Kq315, Eq315, Fq315_0, Fq315_1, Fq315_2, Fq315_3, Fq315_4, Fq315_5, Fq315_6⟩ := hQ315
      have N315 := Fr.app N287 Nq315
      have f316 := own_staKeepW f289 Kq315 (allS A288.nostat all0)
      have f317 := Old.keep f290 Kq315 (allS g_b288 all0)
      have f318 := own_staKeepW f291 Kq315 (allS A288.nostat all0)
      have f319 := own_staKeepW f292 Kq315 (allS A288.nostat all0)
      have f320 := f293.keep Kq315
      have f321 := f294.keep Kq315 (ninS ne_b16_b288 nin0)
      have f322 := f295.keep Kq315 (ninS ne_b16_b288 nin0)
      have f323 := f296.keep Kq315 (ninS ne_b16_b288 nin0)
      have f324 := f297.keep Kq315
      have f325 := f298.keep Kq315
      have f326 := f299.keep Kq315
      have f327 := f300.keep Kq315 (ninS ne_b80_b288 nin0)
      have f328 := f301.keep Kq315 (ninS ne_b80_b288 nin0)
      have f329 := f302.keep Kq315 (ninS ne_b80_b288 nin0)
      have f330 := f303.keep Kq315 (ninS ne_b80_b288 nin0)
      have f331 := f304.keep Kq315 (ninS ne_b80_b288 nin0)
      have f332 := f305.keep Kq315 (ninS ne_b80_b288 nin0)
      have f333 := f306.keep Kq315 (ninS ne_b80_b288 nin0)
      have f334 := f307.keep Kq315
      have Z315 := Nat.le_trans Z288 Kq315.1
      have hk315 := Nat.le_trans hk288 Kq315.1
      refine own_s T315 (mkF m 133 #[iv p1, iv p2, iv p3, iv p4, iv p5, iv p6, .val wv1, .val wv6, .val wv11, rv b16, rv b38, rv b58, rv b80, rv b268, .val .null, u_, u_] [(.ref b288)]) st315 ?_
      refine own_s T315 (mkF m 139 #[iv p1, iv p2, iv p3, iv p4, iv p5, iv p6, .val wv1, .val wv6, .val wv11, rv b16, rv b38, rv b58, rv b80, rv b268, .val .null, rv b288, u_] [wv6, (.ref b288)]) (fun _ k => XS.astore X315.here hx rfl (hb hby at_133) rfl rfl (l' := #[iv p1, iv p2, iv p3, iv p4, iv p5, iv p6, .val wv1, .val wv6, .val wv11, rv b16, rv b38, rv b58, rv b80, rv b268, .val .null, rv b288, u_]) rfl (XS.aload X315.here hx rfl (hb hby at_135) rfl rfl (XS.aload X315.here hx rfl (hb hby at_137) rfl rw6 k))) ?_
      obtain ⟨v335, T335, L335, X335, hQ335, st335⟩ := own_callV X315 hx hZ (y := own_y15) (z := own_y15) (W := 0) (a := b288) hown (own_h hw 119 rfl) (own_h hw 120 rfl) (notFace_of_selects (args := #[]) (mvT hZ (own_h hw 122 rfl))) (own_h hw 122 rfl) (own_h hw 121 rfl) (own_h hw 81 rfl) (own_h hw 123 rfl) (by decide) (own_rmwi l Z a0 hw [] b288 wv6 wv11 (.ref b268) (.ref b38) (.ref b58) .null (.ref b16) T315.heap n0 Z315 Eq315 Fq315_1 Fq315_2 Fq315_3 Fq315_4 Fq315_5 Fq315_6 rw6 rw11 rfl rfl rfl rfl rfl) (by decide) (by decide) Eq315 (g := (mkF m 139 #[iv p1, iv p2, iv p3, iv p4, iv p5, iv p6, .val wv1, .val wv6, .val wv11, rv b16, rv b38, rv b58, rv b80, rv b268, .val .null, rv b288, u_] [wv6, (.ref b288)])) rfl (by rw [hml]; rfl) (argsL := [wv6]) (rest := []) rfl (lenOf own_pd14 rfl) rfl (by show 2 * 0 + _ ≤ _; exact Nat.le_of_eq rfl) (hb hby at_139) rfl (by decide) (by decide)
      obtain ⟨⟨b335, rfl, g_b335, sq335, Eq335, Fq335_0, Fq335_1, Fq335_2, Fq335_3, Fq335_4, Fq335_5, Fq335_6⟩, Nq335, Kq335⟩ := hQ335
      have N335 := Fr.app N315 Nq335
      have f336 := own_staKeep f316 Kq335
      have f337 := Old.keep f317 Kq335 all0
      have f338 := own_staKeep f318 Kq335
      have f339 := own_staKeep f319 Kq335
      have f340 := f320.keep Kq335
      have f341 := f321.keep Kq335 nin0
      have f342 := f322.keep Kq335 nin0
      have f343 := f323.keep Kq335 nin0
      have f344 := f324.keep Kq335
      have f345 := f325.keep Kq335
      have f346 := f326.keep Kq335
      have f347 := f327.keep Kq335 nin0
      have f348 := f328.keep Kq335 nin0
      have f349 := f329.keep Kq335 nin0
      have f350 := f330.keep Kq335 nin0
      have f351 := f331.keep Kq335 nin0
      have f352 := f332.keep Kq335 nin0
      have f353 := f333.keep Kq335 nin0
      have f354 := f334.keep Kq335
      have f355 := Eq315.keep Kq335
      have f356 := Fq315_0.keep Kq335 nin0
      have f357 := Fq315_1.keep Kq335 nin0
      have f358 := Fq315_2.keep Kq335 nin0
      have f359 := Fq315_3.keep Kq335 nin0
      have f360 := Fq315_4.keep Kq335 nin0
      have f361 := Fq315_5.keep Kq335 nin0
      have f362 := Fq315_6.keep Kq335 nin0
      have Z335 := Nat.le_trans Z315 Kq335.1
      have hk335 := Nat.le_trans hk315 Kq335.1
      refine own_s T335 (mkF m 142 #[iv p1, iv p2, iv p3, iv p4, iv p5, iv p6, .val wv1, .val wv6, .val wv11, rv b16, rv b38, rv b58, rv b80, rv b268, .val .null, rv b288, u_] [(.ref b335)]) st335 ?_
      refine own_s T335 (mkF m 151 #[iv p1, iv p2, iv p3, iv p4, iv p5, iv p6, .val wv1, .val wv6, .val wv11, rv b16, rv b38, rv b58, rv b80, rv b268, .val .null, rv b288, rv b335] [(.ref b335)]) (fun _ k => XS.astore X335.here hx rfl (hb hby at_142) rfl rfl (l' := #[iv p1, iv p2, iv p3, iv p4, iv p5, iv p6, .val wv1, .val wv6, .val wv11, rv b16, rv b38, rv b58, rv b80, rv b268, .val .null, rv b288, rv b335]) rfl (XS.aload X335.here hx rfl (hb hby at_144) rfl rfl (XS.ifnullNo X335.here hx rfl (hb hby at_146) rfl (XS.aload X335.here hx rfl (hb hby at_149) rfl rfl k)))) ?_
      obtain ⟨v363, T363, L363, X363, hQ363, st363⟩ := own_callV X335 hx hZ (y := own_y16) (z := own_y16) (W := 0) (a := b335) hown (own_h hw 125 rfl) (own_h hw 126 rfl) (notFace_of_selects (args := #[]) (mvT hZ (own_h hw 128 rfl))) (own_h hw 128 rfl) (own_h hw 127 rfl) (own_h hw 81 rfl) (own_h hw 129 rfl) (by decide) (own_rmg_id l Z a0 hw [] b335 wv6 T335.heap n0 Z335 Fq335_0 rw6) (by decide) (by decide) Eq335 (g := (mkF m 151 #[iv p1, iv p2, iv p3, iv p4, iv p5, iv p6, .val wv1, .val wv6, .val wv11, rv b16, rv b38, rv b58, rv b80, rv b268, .val .null, rv b288, rv b335] [(.ref b335)])) rfl (by rw [hml]; rfl) (argsL := []) (rest := []) rfl (lenOf own_pd15 rfl) rfl (by show 2 * 0 + _ ≤ _; exact Nat.le_of_eq rfl) (hb hby at_151) rfl (by decide) (by decide)
      obtain ⟨rfl, Nq363, e363⟩ := hQ363
      have N363 := Fr.app N335 Nq363
      refine own_s T363 (mkF m 154 #[iv p1, iv p2, iv p3, iv p4, iv p5, iv p6, .val wv1, .val wv6, .val wv11, rv b16, rv b38, rv b58, rv b80, rv b268, .val .null, rv b288, rv b335] [wv6]) st363 ?_
      refine own_s T363 (mkF m 161 #[iv p1, iv p2, iv p3, iv p4, iv p5, iv p6, .val wv1, .val wv6, .val wv11, rv b16, rv b38, rv b58, rv b80, rv b268, .val .null, rv b288, rv b335] [(.ref b335)]) (fun _ k => XS.aload X363.here hx rfl (hb hby at_154) rfl rw6 (Jvm.RoadKit.acmp (g := (mkF m 156 #[iv p1, iv p2, iv p3, iv p4, iv p5, iv p6, .val wv1, .val wv6, .val wv11, rv b16, rv b38, rv b58, rv b80, rv b268, .val .null, rv b288, rv b335] [wv6, wv6])) X363 hx rfl rw6 rw6 (pc0 := 156) (pc' := 159) (same := true) rfl (hb hby at_156) rfl (decide_eq_true rfl) (by decide) (by decide) (XS.aload X363.here hx rfl (hb hby at_159) rfl rfl k))) ?_
      obtain ⟨v364, T364, L364, X364, hQ364, st364⟩ := own_callV X363 hx hZ (y := own_y17) (z := own_y17) (W := 0) (a := b335) hown (own_h hw 130 rfl) (own_h hw 131 rfl) (notFace_of_selects (args := #[]) (mvT hZ (own_h hw 133 rfl))) (own_h hw 133 rfl) (own_h hw 132 rfl) (own_h hw 81 rfl) (own_h hw 134 rfl) (by decide) (own_rmg_className l Z a0 hw [] b335 wv11 T335.heap n0 Z335 Fq335_1 rw11) (by decide) (by decide) Eq335 (g := (mkF m 161 #[iv p1, iv p2, iv p3, iv p4, iv p5, iv p6, .val wv1, .val wv6, .val wv11, rv b16, rv b38, rv b58, rv b80, rv b268, .val .null, rv b288, rv b335] [(.ref b335)])) rfl (by rw [hml]; rfl) (argsL := []) (rest := []) rfl (lenOf own_pd15 rfl) rfl (by show 2 * 0 + _ ≤ _; exact Nat.le_of_eq rfl) (hb hby at_161) e363 (by decide) (by decide)
      obtain ⟨rfl, Nq364, e364⟩ := hQ364
      have N364 := Fr.app N363 Nq364
      refine own_s T364 (mkF m 164 #[iv p1, iv p2, iv p3, iv p4, iv p5, iv p6, .val wv1, .val wv6, .val wv11, rv b16, rv b38, rv b58, rv b80, rv b268, .val .null, rv b288, rv b335] [wv11]) st364 ?_
      refine own_s T364 (mkF m 171 #[iv p1, iv p2, iv p3, iv p4, iv p5, iv p6, .val wv1, .val wv6, .val wv11, rv b16, rv b38, rv b58, rv b80, rv b268, .val .null, rv b288, rv b335] [(.ref b335)]) (fun _ k => XS.aload X364.here hx rfl (hb hby at_164) rfl rw11 (Jvm.RoadKit.acmp (g := (mkF m 166 #[iv p1, iv p2, iv p3, iv p4, iv p5, iv p6, .val wv1, .val wv6, .val wv11, rv b16, rv b38, rv b58, rv b80, rv b268, .val .null, rv b288, rv b335] [wv11, wv11])) X364 hx rfl rw11 rw11 (pc0 := 166) (pc' := 169) (same := true) rfl (hb hby at_166) rfl (decide_eq_true rfl) (by decide) (by decide) (XS.aload X364.here hx rfl (hb hby at_169) rfl rfl k))) ?_
      obtain ⟨v365, T365, L365, X365, hQ365, st365⟩ := own_callV X364 hx hZ (y := own_y18) (z := own_y18) (W := 0) (a := b335) hown (own_h hw 135 rfl) (own_h hw 136 rfl) (notFace_of_selects (args := #[]) (mvT hZ (own_h hw 138 rfl))) (own_h hw 138 rfl) (own_h hw 137 rfl) (own_h hw 81 rfl) (own_h hw 139 rfl) (by decide) (own_rmg_value l Z a0 hw [] b335 (.ref b268) T335.heap n0 Z335 Fq335_2 rfl) (by decide) (by decide) Eq335 (g := (mkF m 171 #[iv p1, iv p2, iv p3, iv p4, iv p5, iv p6, .val wv1, .val wv6, .val wv11, rv b16, rv b38, rv b58, rv b80, rv b268, .val .null, rv b288, rv b335] [(.ref b335)])) rfl (by rw [hml]; rfl) (argsL := []) (rest := []) rfl (lenOf own_pd16 rfl) rfl (by show 2 * 0 + _ ≤ _; exact Nat.le_of_eq rfl) (hb hby at_171) e364 (by decide) (by decide)
      obtain ⟨rfl, Nq365, e365⟩ := hQ365
      have N365 := Fr.app N364 Nq365
      refine own_s T365 (mkF m 174 #[iv p1, iv p2, iv p3, iv p4, iv p5, iv p6, .val wv1, .val wv6, .val wv11, rv b16, rv b38, rv b58, rv b80, rv b268, .val .null, rv b288, rv b335] [(.ref b268)]) st365 ?_
      refine own_s T365 (mkF m 181 #[iv p1, iv p2, iv p3, iv p4, iv p5, iv p6, .val wv1, .val wv6, .val wv11, rv b16, rv b38, rv b58, rv b80, rv b268, .val .null, rv b288, rv b335] [(.ref b335)]) (fun _ k => XS.aload X365.here hx rfl (hb hby at_174) rfl rfl (Jvm.RoadKit.acmp (g := (mkF m 176 #[iv p1, iv p2, iv p3, iv p4, iv p5, iv p6, .val wv1, .val wv6, .val wv11, rv b16, rv b38, rv b58, rv b80, rv b268, .val .null, rv b288, rv b335] [(.ref b268), (.ref b268)])) X365 hx rfl rfl rfl (pc0 := 176) (pc' := 179) (same := true) rfl (hb hby at_176) rfl (decide_eq_true rfl) (by decide) (by decide) (XS.aload X365.here hx rfl (hb hby at_179) rfl rfl k))) ?_
      obtain ⟨v366, T366, L366, X366, hQ366, st366⟩ := own_callV X365 hx hZ (y := own_y19) (z := own_y19) (W := 0) (a := b335) hown (own_h hw 140 rfl) (own_h hw 141 rfl) (notFace_of_selects (args := #[]) (mvT hZ (own_h hw 143 rfl))) (own_h hw 143 rfl) (own_h hw 142 rfl) (own_h hw 81 rfl) (own_h hw 144 rfl) (by decide) (own_rmg_arguments l Z a0 hw [] b335 (.ref b38) T335.heap n0 Z335 Fq335_3 rfl) (by decide) (by decide) Eq335 (g := (mkF m 181 #[iv p1, iv p2, iv p3, iv p4, iv p5, iv p6, .val wv1, .val wv6, .val wv11, rv b16, rv b38, rv b58, rv b80, rv b268, .val .null, rv b288, rv b335] [(.ref b335)])) rfl (by rw [hml]; rfl) (argsL := []) (rest := []) rfl (lenOf own_pd17 rfl) rfl (by show 2 * 0 + _ ≤ _; exact Nat.le_of_eq rfl) (hb hby at_181) e365 (by decide) (by decide)
      obtain ⟨rfl, Nq366, e366⟩ := hQ366
      have N366 := Fr.app N365 Nq366
      refine own_s T366 (mkF m 184 #[iv p1, iv p2, iv p3, iv p4, iv p5, iv p6, .val wv1, .val wv6, .val wv11, rv b16, rv b38, rv b58, rv b80, rv b268, .val .null, rv b288, rv b335] [(.ref b38)]) st366 ?_
      refine own_s T366 (mkF m 191 #[iv p1, iv p2, iv p3, iv p4, iv p5, iv p6, .val wv1, .val wv6, .val wv11, rv b16, rv b38, rv b58, rv b80, rv b268, .val .null, rv b288, rv b335] [(.ref b335)]) (fun _ k => XS.aload X366.here hx rfl (hb hby at_184) rfl rfl (Jvm.RoadKit.acmp (g := (mkF m 186 #[iv p1, iv p2, iv p3, iv p4, iv p5, iv p6, .val wv1, .val wv6, .val wv11, rv b16, rv b38, rv b58, rv b80, rv b268, .val .null, rv b288, rv b335] [(.ref b38), (.ref b38)])) X366 hx rfl rfl rfl (pc0 := 186) (pc' := 189) (same := true) rfl (hb hby at_186) rfl (decide_eq_true rfl) (by decide) (by decide) (XS.aload X366.here hx rfl (hb hby at_189) rfl rfl k))) ?_
      obtain ⟨v367, T367, L367, X367, hQ367, st367⟩ := own_callV X366 hx hZ (y := own_y20) (z := own_y20) (W := 0) (a := b335) hown (own_h hw 145 rfl) (own_h hw 146 rfl) (notFace_of_selects (args := #[]) (mvT hZ (own_h hw 148 rfl))) (own_h hw 148 rfl) (own_h hw 147 rfl) (own_h hw 81 rfl) (own_h hw 149 rfl) (by decide) (own_rmg_properties l Z a0 hw [] b335 (.ref b58) T335.heap n0 Z335 Fq335_4 rfl) (by decide) (by decide) Eq335 (g := (mkF m 191 #[iv p1, iv p2, iv p3, iv p4, iv p5, iv p6, .val wv1, .val wv6, .val wv11, rv b16, rv b38, rv b58, rv b80, rv b268, .val .null, rv b288, rv b335] [(.ref b335)])) rfl (by rw [hml]; rfl) (argsL := []) (rest := []) rfl (lenOf own_pd17 rfl) rfl (by show 2 * 0 + _ ≤ _; exact Nat.le_of_eq rfl) (hb hby at_191) e366 (by decide) (by decide)
      obtain ⟨rfl, Nq367, e367⟩ := hQ367
      have N367 := Fr.app N366 Nq367
      refine own_s T367 (mkF m 194 #[iv p1, iv p2, iv p3, iv p4, iv p5, iv p6, .val wv1, .val wv6, .val wv11, rv b16, rv b38, rv b58, rv b80, rv b268, .val .null, rv b288, rv b335] [(.ref b58)]) st367 ?_
      refine own_s T367 (mkF m 201 #[iv p1, iv p2, iv p3, iv p4, iv p5, iv p6, .val wv1, .val wv6, .val wv11, rv b16, rv b38, rv b58, rv b80, rv b268, .val .null, rv b288, rv b335] [(.ref b335)]) (fun _ k => XS.aload X367.here hx rfl (hb hby at_194) rfl rfl (Jvm.RoadKit.acmp (g := (mkF m 196 #[iv p1, iv p2, iv p3, iv p4, iv p5, iv p6, .val wv1, .val wv6, .val wv11, rv b16, rv b38, rv b58, rv b80, rv b268, .val .null, rv b288, rv b335] [(.ref b58), (.ref b58)])) X367 hx rfl rfl rfl (pc0 := 196) (pc' := 199) (same := true) rfl (hb hby at_196) rfl (decide_eq_true rfl) (by decide) (by decide) (XS.aload X367.here hx rfl (hb hby at_199) rfl rfl k))) ?_
      obtain ⟨v368, T368, L368, X368, hQ368, st368⟩ := own_callV X367 hx hZ (y := own_y21) (z := own_y21) (W := 0) (a := b335) hown (own_h hw 113 rfl) (own_h hw 114 rfl) (notFace_of_selects (args := #[]) (mvT hZ (own_h hw 116 rfl))) (own_h hw 116 rfl) (own_h hw 115 rfl) (own_h hw 81 rfl) (own_h hw 117 rfl) (by decide) (own_rmg_lifecycle l Z a0 hw [] b335 .null T335.heap n0 Z335 Fq335_5 rfl) (by decide) (by decide) Eq335 (g := (mkF m 201 #[iv p1, iv p2, iv p3, iv p4, iv p5, iv p6, .val wv1, .val wv6, .val wv11, rv b16, rv b38, rv b58, rv b80, rv b268, .val .null, rv b288, rv b335] [(.ref b335)])) rfl (by rw [hml]; rfl) (argsL := []) (rest := []) rfl (lenOf own_pd18 rfl) rfl (by show 2 * 0 + _ ≤ _; exact Nat.le_of_eq rfl) (hb hby at_201) e367 (by decide) (by decide)
      obtain ⟨rfl, Nq368, e368⟩ := hQ368
      have N368 := Fr.app N367 Nq368
      refine own_s T368 (mkF m 204 #[iv p1, iv p2, iv p3, iv p4, iv p5, iv p6, .val wv1, .val wv6, .val wv11, rv b16, rv b38, rv b58, rv b80, rv b268, .val .null, rv b288, rv b335] [.null]) st368 ?_
      refine own_s T368 (mkF m 211 #[iv p1, iv p2, iv p3, iv p4, iv p5, iv p6, .val wv1, .val wv6, .val wv11, rv b16, rv b38, rv b58, rv b80, rv b268, .val .null, rv b288, rv b335] [(.ref b335)]) (fun _ k => XS.aload X368.here hx rfl (hb hby at_204) rfl rfl (Jvm.RoadKit.acmp (g := (mkF m 206 #[iv p1, iv p2, iv p3, iv p4, iv p5, iv p6, .val wv1, .val wv6, .val wv11, rv b16, rv b38, rv b58, rv b80, rv b268, .val .null, rv b288, rv b335] [.null, .null])) X368 hx rfl rfl rfl (pc0 := 206) (pc' := 209) (same := true) rfl (hb hby at_206) rfl (decide_eq_true rfl) (by decide) (by decide) (XS.aload X368.here hx rfl (hb hby at_209) rfl rfl k))) ?_
      obtain ⟨v369, T369, L369, X369, hQ369, st369⟩ := own_callV X368 hx hZ (y := own_y22) (z := own_y22) (W := 0) (a := b335) hown (own_h hw 150 rfl) (own_h hw 151 rfl) (notFace_of_selects (args := #[]) (mvT hZ (own_h hw 153 rfl))) (own_h hw 153 rfl) (own_h hw 152 rfl) (own_h hw 81 rfl) (own_h hw 154 rfl) (by decide) (own_rmg_location l Z a0 hw [] b335 (.ref b16) T335.heap n0 Z335 Fq335_6 rfl) (by decide) (by decide) Eq335 (g := (mkF m 211 #[iv p1, iv p2, iv p3, iv p4, iv p5, iv p6, .val wv1, .val wv6, .val wv11, rv b16, rv b38, rv b58, rv b80, rv b268, .val .null, rv b288, rv b335] [(.ref b335)])) rfl (by rw [hml]; rfl) (argsL := []) (rest := []) rfl (lenOf own_pd19 rfl) rfl (by show 2 * 0 + _ ≤ _; exact Nat.le_of_eq rfl) (hb hby at_211) e368 (by decide) (by decide)
      obtain ⟨rfl, Nq369, e369⟩ := hQ369
      have N369 := Fr.app N368 Nq369
      refine own_s T369 (mkF m 214 #[iv p1, iv p2, iv p3, iv p4, iv p5, iv p6, .val wv1, .val wv6, .val wv11, rv b16, rv b38, rv b58, rv b80, rv b268, .val .null, rv b288, rv b335] [(.ref b16)]) st369 ?_
      refine own_s T369 (mkF m 224 #[iv p1, iv p2, iv p3, iv p4, iv p5, iv p6, .val wv1, .val wv6, .val wv11, rv b16, rv b38, rv b58, rv b80, rv b268, .val .null, rv b288, rv b335] [(.int 1)]) (fun _ k => XS.aload X369.here hx rfl (hb hby at_214) rfl rfl (Jvm.RoadKit.acmp (g := (mkF m 216 #[iv p1, iv p2, iv p3, iv p4, iv p5, iv p6, .val wv1, .val wv6, .val wv11, rv b16, rv b38, rv b58, rv b80, rv b268, .val .null, rv b288, rv b335] [(.ref b16), (.ref b16)])) X369 hx rfl rfl rfl (pc0 := 216) (pc' := 219) (same := true) rfl (hb hby at_216) rfl (decide_eq_true rfl) (by decide) (by decide) (XS.iconst X369.here hx rfl (hb hby at_219) (XS.goto X369.here hx rfl (pc0 := 220) (pc' := 224) rfl (hb hby at_220) (by decide) (by decide) k)))) ?_
      exact own_finZ X369 hx (t := .boolean) hret (by simp) (z' := (1 : Int32)) rfl (hb hby at_224) (own_endW (Qv := (own_Q0 Z p1 p2 p3 p4 p5 p6 gC oP oD h0 n0)) X369 hS (own_some hret) hlk (by decide) (by decide) e369 hk335 (fun vm' hv' => ⟨rfl, N369⟩))
    · refine own_s T287 (mkF m 103 #[iv p1, iv p2, iv p3, iv p4, iv p5, iv p6, .val wv1, .val wv6, .val wv11, rv b16, rv b38, rv b58, rv b80, rv b268, u_, u_, u_] [(.ref b80)]) (fun _ k => XS.ifNo X287.here hx rfl (hb hby at_98) rfl ((if0 _ _).trans (feq c98).1) (XS.aload X287.here hx rfl (hb hby at_101) rfl rfl k)) ?_
      obtain ⟨v370, T370, L370, X370, hQ370, st370⟩ := own_callV X287 hx hZ (y := own_y21) (z := own_y21) (W := 0) (a := b80) hown (own_h hw 113 rfl) (own_h hw 114 rfl) (notFace_of_selects (args := #[]) (mvT hZ (own_h hw 116 rfl))) (own_h hw 116 rfl) (own_h hw 115 rfl) (own_h hw 81 rfl) (own_h hw 117 rfl) (by decide) (own_rmg_lifecycle l Z a0 hw [] b80 (.ref oP) h268 n0 Z268 f285 rfl) (by decide) (by decide) f279 (g := (mkF m 103 #[iv p1, iv p2, iv p3, iv p4, iv p5, iv p6, .val wv1, .val wv6, .val wv11, rv b16, rv b38, rv b58, rv b80, rv b268, u_, u_, u_] [(.ref b80)])) rfl (by rw [hml]; rfl) (argsL := []) (rest := []) rfl (lenOf own_pd18 rfl) rfl (by show 2 * 0 + _ ≤ _; exact Nat.le_of_eq rfl) (hb hby at_103) e287 (by decide) (by decide)
      obtain ⟨rfl, Nq370, e370⟩ := hQ370
      have N370 := Fr.app N287 Nq370
      refine own_s T370 (mkF m 106 #[iv p1, iv p2, iv p3, iv p4, iv p5, iv p6, .val wv1, .val wv6, .val wv11, rv b16, rv b38, rv b58, rv b80, rv b268, u_, u_, u_] [(.ref oP)]) st370 ?_
      refine own_s T370 (mkF m 112 #[iv p1, iv p2, iv p3, iv p4, iv p5, iv p6, .val wv1, .val wv6, .val wv11, rv b16, rv b38, rv b58, rv b80, rv b268, rv oP, u_, u_] []) (fun _ k => XS.goto X370.here hx rfl (pc0 := 106) (pc' := 110) rfl (hb hby at_106) (by decide) (by decide) (XS.astore X370.here hx rfl (hb hby at_110) rfl rfl (l' := #[iv p1, iv p2, iv p3, iv p4, iv p5, iv p6, .val wv1, .val wv6, .val wv11, rv b16, rv b38, rv b58, rv b80, rv b268, rv oP, u_, u_]) rfl k)) ?_
      obtain ⟨T371, h371, X371, e371, E371, A371, D371, -, st371⟩ := newO X370 hx hZ hown (own_h hw 79 rfl) (own_h hw 80 rfl) (own_h hw 81 rfl) e370 (g := (mkF m 112 #[iv p1, iv p2, iv p3, iv p4, iv p5, iv p6, .val wv1, .val wv6, .val wv11, rv b16, rv b38, rv b58, rv b80, rv b268, rv oP, u_, u_] [])) rfl (hb hby at_112) (by decide) (by decide)
      obtain ⟨b371, g371⟩ : ∃ z, z = h268.size := ⟨_, rfl⟩
      have ne_b16_b371 : b16 ≠ b371 := Nat.ne_of_lt (Nat.lt_of_lt_of_le f273.lt (Nat.le_of_eq g371.symm))
      have ne_b38_b371 : b38 ≠ b371 := Nat.ne_of_lt (Nat.lt_of_lt_of_le f277.lt (Nat.le_of_eq g371.symm))
      have ne_b58_b371 : b58 ≠ b371 := Nat.ne_of_lt (Nat.lt_of_lt_of_le f278.lt (Nat.le_of_eq g371.symm))
      have ne_b80_b371 : b80 ≠ b371 := Nat.ne_of_lt (Nat.lt_of_lt_of_le f279.lt (Nat.le_of_eq g371.symm))
      have ne_b268_b371 : b268 ≠ b371 := Nat.ne_of_lt (Nat.lt_of_lt_of_le A268.lt (Nat.le_of_eq g371.symm))
      have g_b371 : n0 ≤ b371 := Nat.le_trans Z268 (Nat.le_of_eq g371.symm)
      rw [← g371] at A371 D371 st371
      have f372 := Sta.ext E371 f269
      have f373 := Old.ext f270 E371
      have f374 := Sta.ext E371 f271
      have f375 := Sta.ext E371 f272
      have f376 := Exa.ext E371 f273
      have f377 := Fld.ext E371 f274
      have f378 := Fld.ext E371 f275
      have f379 := Fld.ext E371 f276
      have f380 := Exa.ext E371 f277
      have f381 := Exa.ext E371 f278
      have f382 := Exa.ext E371 f279
      have f383 := Fld.ext E371 f280
      have f384 := Fld.ext E371 f281
      have f385 := Fld.ext E371 f282
      have f386 := Fld.ext E371 f283
      have f387 := Fld.ext E371 f284
      have f388 := Fld.ext E371 f285
      have f389 := Fld.ext E371 f286
      have f390 := Exa.ext E371 A268
      have Z371 := Nat.le_trans Z268 E371.1
      have hk371 := Nat.le_trans hk268 E371.1
      have f391 : Fld Z h371 b371 "com/example/tagwright/tagwright/Definition" "id" "Ljava/lang/String;" .null := D371 (Or.inr (own_h hw 93 rfl)) (ty := (.object "java/lang/String")) (by decide)
      have f392 : Fld Z h371 b371 "com/example/tagwright/tagwright/Definition" "className" "Ljava/lang/String;" .null := D371 (Or.inr (own_h hw 95 rfl)) (ty := (.object "java/lang/String")) (by decide)
      have f393 : Fld Z h371 b371 "com/example/tagwright/tagwright/Definition" "value" "Lcom/example/tagwright/tagwright/Value;" .null := D371 (Or.inr (own_h hw 97 rfl)) (ty := (.object "com/example/tagwright/tagwright/Value")) (by decide)
      have f394 : Fld Z h371 b371 "com/example/tagwright/tagwright/Definition" "arguments" "Ljava/util/List;" .null := D371 (Or.inr (own_h hw 99 rfl)) (ty := (.object "java/util/List")) (by decide)
      have f395 : Fld Z h371 b371 "com/example/tagwright/tagwright/Definition" "properties" "Ljava/util/List;" .null := D371 (Or.inr (own_h hw 101 rfl)) (ty := (.object "java/util/List")) (by decide)
      have f396 : Fld Z h371 b371 "com/example/tagwright/tagwright/Definition" "lifecycle" "Lcom/example/tagwright/tagwright/Definition$Lifecycle;" .null := D371 (Or.inr (own_h hw 103 rfl)) (ty := (.object "com/example/tagwright/tagwright/Definition$Lifecycle")) (by decide)
      have f397 : Fld Z h371 b371 "com/example/tagwright/tagwright/Definition" "location" "Lcom/example/tagwright/tagwright/Location;" .null := D371 (Or.inr (own_h hw 105 rfl)) (ty := (.object "com/example/tagwright/tagwright/Location")) (by decide)
      refine own_s T371 (mkF m 115 #[iv p1, iv p2, iv p3, iv p4, iv p5, iv p6, .val wv1, .val wv6, .val wv11, rv b16, rv b38, rv b58, rv b80, rv b268, rv oP, u_, u_] [(.ref b371)]) st371 ?_
      refine own_s T371 (mkF m 124 #[iv p1, iv p2, iv p3, iv p4, iv p5, iv p6, .val wv1, .val wv6, .val wv11, rv b16, rv b38, rv b58, rv b80, rv b268, rv oP, u_, u_] [(.ref b38), (.ref b268), wv11, wv1, (.ref b371), (.ref b371)]) (fun _ k => XS.dup X371.here hx rfl (hb hby at_115) rfl rfl (XS.aload X371.here hx rfl (hb hby at_116) rfl rw1 (XS.aload X371.here hx rfl (hb hby at_118) rfl rw11 (XS.aload X371.here hx rfl (hb hby at_120) rfl rfl (XS.aload X371.here hx rfl (hb hby at_122) rfl rfl k))))) ?_
      refine own_s T371 (mkF m 130 #[iv p1, iv p2, iv p3, iv p4, iv p5, iv p6, .val wv1, .val wv6, .val wv11, rv b16, rv b38, rv b58, rv b80, rv b268, rv oP, u_, u_] [(.ref b16), (.ref oP), (.ref b58), (.ref b38), (.ref b268), wv11, wv1, (.ref b371), (.ref b371)]) (fun _ k => XS.aload X371.here hx rfl (hb hby at_124) rfl rfl (XS.aload X371.here hx rfl (hb hby at_126) rfl rfl (XS.aload X371.here hx rfl (hb hby at_128) rfl rfl k))) ?_
      obtain ⟨v398, T398, L398, X398, hQ398, st398⟩ := own_callI X371 hx hZ (y := own_y13) (W := 1) (a := b371) rfl hown (own_h hw 118 rfl) (own_h hw 89 rfl) (own_h hw 81 rfl) (own_h hw 90 rfl) (by decide) (own_rmd7 l Z a0 hw [] b371 wv1 wv11 (.ref b268) (.ref b38) (.ref b58) (.ref oP) (.ref b16) h371 n0 Z371 g_b371 A371 f391 f392 f393 f394 f395 f396 f397 rw1 rw11 rfl rfl rfl rfl rfl) (by decide) (by decide) (g := (mkF m 130 #[iv p1, iv p2, iv p3, iv p4, iv p5, iv p6, .val wv1, .val wv6, .val wv11, rv b16, rv b38, rv b58, rv b80, rv b268, rv oP, u_, u_] [(.ref b16), (.ref oP), (.ref b58), (.ref b38), (.ref b268), wv11, wv1, (.ref b371), (.ref b371)])) rfl (by rw [hml]; rfl) (argsL := [wv1, wv11, (.ref b268), (.ref b38), (.ref b58), (.ref oP), (.ref b16)]) (rest := [(.ref b371)]) rfl (lenOf own_pd10 rfl) rfl (by show 2 * 0 + _ ≤ _; exact Nat.le_of_eq rfl) (hb hby at_130) e371 (by decide) (by decide)
      obtain ⟨rfl, Nq398, Kq398, Eq398, Fq398_0, Fq398_1, Fq398_2, Fq398_3, Fq398_4, Fq398_5, Fq398_6⟩ := hQ398
      have N398 := Fr.app N370 Nq398
      have f399 := own_staKeepW f372 Kq398 (allS A371.nostat all0)
      have f400 := Old.keep f373 Kq398 (allS g_b371 all0)
      have f401 := own_staKeepW f374 Kq398 (allS A371.nostat all0)
      have f402 := own_staKeepW f375 Kq398 (allS A371.nostat all0)
      have f403 := f376.keep Kq398
      have f404 := f377.keep Kq398 (ninS ne_b16_b371 nin0)
      have f405 := f378.keep Kq398 (ninS ne_b16_b371 nin0)
      have f406 := f379.keep Kq398 (ninS ne_b16_b371 nin0)
      have f407 := f380.keep Kq398
      have f408 := f381.keep Kq398
      have f409 := f382.keep Kq398
      have f410 := f383.keep Kq398 (ninS ne_b80_b371 nin0)
      have f411 := f384.keep Kq398 (ninS ne_b80_b371 nin0)
      have f412 := f385.keep Kq398 (ninS ne_b80_b371 nin0)
      have f413 := f386.keep Kq398 (ninS ne_b80_b371 nin0)
      have f414 := f387.keep Kq398 (ninS ne_b80_b371 nin0)
      have f415 := f388.keep Kq398 (ninS ne_b80_b371 nin0)
      have f416 := f389.keep Kq398 (ninS ne_b80_b371 nin0)
      have f417 := f390.keep Kq398
      have Z398 := Nat.le_trans Z371 Kq398.1
      have hk398 := Nat.le_trans hk371 Kq398.1
      refine own_s T398 (mkF m 133 #[iv p1, iv p2, iv p3, iv p4, iv p5, iv p6, .val wv1, .val wv6, .val wv11, rv b16, rv b38, rv b58, rv b80, rv b268, rv oP, u_, u_] [(.ref b371)]) st398 ?_
      refine own_s T398 (mkF m 139 #[iv p1, iv p2, iv p3, iv p4, iv p5, iv p6, .val wv1, .val wv6, .val wv11, rv b16, rv b38, rv b58, rv b80, rv b268, rv oP, rv b371, u_] [wv6, (.ref b371)]) (fun _ k => XS.astore X398.here hx rfl (hb hby at_133) rfl rfl (l' := #[iv p1, iv p2, iv p3, iv p4, iv p5, iv p6, .val wv1, .val wv6, .val wv11, rv b16, rv b38, rv b58, rv b80, rv b268, rv oP, rv b371, u_]) rfl (XS.aload X398.here hx rfl (hb hby at_135) rfl rfl (XS.aload X398.here hx rfl (hb hby at_137) rfl rw6 k))) ?_
      obtain ⟨v418, T418, L418, X418, hQ418, st418⟩ := own_callV X398 hx hZ (y := own_y15) (z := own_y15) (W := 0) (a := b371) hown (own_h hw 119 rfl) (own_h hw 120 rfl) (notFace_of_selects (args := #[]) (mvT hZ (own_h hw 122 rfl))) (own_h hw 122 rfl) (own_h hw 121 rfl) (own_h hw 81 rfl) (own_h hw 123 rfl) (by decide) (own_rmwi l Z a0 hw [] b371 wv6 wv11 (.ref b268) (.ref b38) (.ref b58) (.ref oP) (.ref b16) T398.heap n0 Z398 Eq398 Fq398_1 Fq398_2 Fq398_3 Fq398_4 Fq398_5 Fq398_6 rw6 rw11 rfl rfl rfl rfl rfl) (by decide) (by decide) Eq398 (g := (mkF m 139 #[iv p1, iv p2, iv p3, iv p4, iv p5, iv p6, .val wv1, .val wv6, .val wv11, rv b16, rv b38, rv b58, rv b80, rv b268, rv oP, rv b371, u_] [wv6, (.ref b371)])) rfl (by rw [hml]; rfl) (argsL := [wv6]) (rest := []) rfl (lenOf own_pd14 rfl) rfl (by show 2 * 0 + _ ≤ _; exact Nat.le_of_eq rfl) (hb hby at_139) rfl (by decide) (by decide)
      obtain ⟨⟨b418, rfl, g_b418, sq418, Eq418, Fq418_0, Fq418_1, Fq418_2, Fq418_3, Fq418_4, Fq418_5, Fq418_6⟩, Nq418, Kq418⟩ := hQ418
      have N418 := Fr.app N398 Nq418
      have f419 := own_staKeep f399 Kq418
      have f420 := Old.keep f400 Kq418 all0
      have f421 := own_staKeep f401 Kq418
      have f422 := own_staKeep f402 Kq418
      have f423 := f403.keep Kq418
      have f424 := f404.keep Kq418 nin0
      have f425 := f405.keep Kq418 nin0
      have f426 := f406.keep Kq418 nin0
      have f427 := f407.keep Kq418
      have f428 := f408.keep Kq418
      have f429 := f409.keep Kq418
      have f430 := f410.keep Kq418 nin0
      have f431 := f411.keep Kq418 nin0
      have f432 := f412.keep Kq418 nin0
      have f433 := f413.keep Kq418 nin0
      have f434 := f414.keep Kq418 nin0
      have f435 := f415.keep Kq418 nin0
      have f436 := f416.keep Kq418 nin0
      have f437 := f417.keep Kq418
      have f438 := Eq398.keep Kq418
      have f439 := Fq398_0.keep Kq418 nin0
      have f440 := Fq398_1.keep Kq418 nin0
      have f441 := Fq398_2.keep Kq418 nin0
      have f442 := Fq398_3.keep Kq418 nin0
      have f443 := Fq398_4.keep Kq418 nin0
      have f444 := Fq398_5.keep Kq418 nin0
      have f445 := Fq398_6.keep Kq418 nin0
      have Z418 := Nat.le_trans Z398 Kq418.1
      have hk418 := Nat.le_trans hk398 Kq418.1
      refine own_s T418 (mkF m 142 #[iv p1, iv p2, iv p3, iv p4, iv p5, iv p6, .val wv1, .val wv6, .val wv11, rv b16, rv b38, rv b58, rv b80, rv b268, rv oP, rv b371, u_] [(.ref b418)]) st418 ?_
      refine own_s T418 (mkF m 151 #[iv p1, iv p2, iv p3, iv p4, iv p5, iv p6, .val wv1, .val wv6, .val wv11, rv b16, rv b38, rv b58, rv b80, rv b268, rv oP, rv b371, rv b418] [(.ref b418)]) (fun _ k => XS.astore X418.here hx rfl (hb hby at_142) rfl rfl (l' := #[iv p1, iv p2, iv p3, iv p4, iv p5, iv p6, .val wv1, .val wv6, .val wv11, rv b16, rv b38, rv b58, rv b80, rv b268, rv oP, rv b371, rv b418]) rfl (XS.aload X418.here hx rfl (hb hby at_144) rfl rfl (XS.ifnullNo X418.here hx rfl (hb hby at_146) rfl (XS.aload X418.here hx rfl (hb hby at_149) rfl rfl k)))) ?_
      obtain ⟨v446, T446, L446, X446, hQ446, st446⟩ := own_callV X418 hx hZ (y := own_y16) (z := own_y16) (W := 0) (a := b418) hown (own_h hw 125 rfl) (own_h hw 126 rfl) (notFace_of_selects (args := #[]) (mvT hZ (own_h hw 128 rfl))) (own_h hw 128 rfl) (own_h hw 127 rfl) (own_h hw 81 rfl) (own_h hw 129 rfl) (by decide) (own_rmg_id l Z a0 hw [] b418 wv6 T418.heap n0 Z418 Fq418_0 rw6) (by decide) (by decide) Eq418 (g := (mkF m 151 #[iv p1, iv p2, iv p3, iv p4, iv p5, iv p6, .val wv1, .val wv6, .val wv11, rv b16, rv b38, rv b58, rv b80, rv b268, rv oP, rv b371, rv b418] [(.ref b418)])) rfl (by rw [hml]; rfl) (argsL := []) (rest := []) rfl (lenOf own_pd15 rfl) rfl (by show 2 * 0 + _ ≤ _; exact Nat.le_of_eq rfl) (hb hby at_151) rfl (by decide) (by decide)
      obtain ⟨rfl, Nq446, e446⟩ := hQ446
      have N446 := Fr.app N418 Nq446
      refine own_s T446 (mkF m 154 #[iv p1, iv p2, iv p3, iv p4, iv p5, iv p6, .val wv1, .val wv6, .val wv11, rv b16, rv b38, rv b58, rv b80, rv b268, rv oP, rv b371, rv b418] [wv6]) st446 ?_
      refine own_s T446 (mkF m 161 #[iv p1, iv p2, iv p3, iv p4, iv p5, iv p6, .val wv1, .val wv6, .val wv11, rv b16, rv b38, rv b58, rv b80, rv b268, rv oP, rv b371, rv b418] [(.ref b418)]) (fun _ k => XS.aload X446.here hx rfl (hb hby at_154) rfl rw6 (Jvm.RoadKit.acmp (g := (mkF m 156 #[iv p1, iv p2, iv p3, iv p4, iv p5, iv p6, .val wv1, .val wv6, .val wv11, rv b16, rv b38, rv b58, rv b80, rv b268, rv oP, rv b371, rv b418] [wv6, wv6])) X446 hx rfl rw6 rw6 (pc0 := 156) (pc' := 159) (same := true) rfl (hb hby at_156) rfl (decide_eq_true rfl) (by decide) (by decide) (XS.aload X446.here hx rfl (hb hby at_159) rfl rfl k))) ?_
      obtain ⟨v447, T447, L447, X447, hQ447, st447⟩ := own_callV X446 hx hZ (y := own_y17) (z := own_y17) (W := 0) (a := b418) hown (own_h hw 130 rfl) (own_h hw 131 rfl) (notFace_of_selects (args := #[]) (mvT hZ (own_h hw 133 rfl))) (own_h hw 133 rfl) (own_h hw 132 rfl) (own_h hw 81 rfl) (own_h hw 134 rfl) (by decide) (own_rmg_className l Z a0 hw [] b418 wv11 T418.heap n0 Z418 Fq418_1 rw11) (by decide) (by decide) Eq418 (g := (mkF m 161 #[iv p1, iv p2, iv p3, iv p4, iv p5, iv p6, .val wv1, .val wv6, .val wv11, rv b16, rv b38, rv b58, rv b80, rv b268, rv oP, rv b371, rv b418] [(.ref b418)])) rfl (by rw [hml]; rfl) (argsL := []) (rest := []) rfl (lenOf own_pd15 rfl) rfl (by show 2 * 0 + _ ≤ _; exact Nat.le_of_eq rfl) (hb hby at_161) e446 (by decide) (by decide)
      obtain ⟨rfl, Nq447, e447⟩ := hQ447
      have N447 := Fr.app N446 Nq447
      refine own_s T447 (mkF m 164 #[iv p1, iv p2, iv p3, iv p4, iv p5, iv p6, .val wv1, .val wv6, .val wv11, rv b16, rv b38, rv b58, rv b80, rv b268, rv oP, rv b371, rv b418] [wv11]) st447 ?_
      refine own_s T447 (mkF m 171 #[iv p1, iv p2, iv p3, iv p4, iv p5, iv p6, .val wv1, .val wv6, .val wv11, rv b16, rv b38, rv b58, rv b80, rv b268, rv oP, rv b371, rv b418] [(.ref b418)]) (fun _ k => XS.aload X447.here hx rfl (hb hby at_164) rfl rw11 (Jvm.RoadKit.acmp (g := (mkF m 166 #[iv p1, iv p2, iv p3, iv p4, iv p5, iv p6, .val wv1, .val wv6, .val wv11, rv b16, rv b38, rv b58, rv b80, rv b268, rv oP, rv b371, rv b418] [wv11, wv11])) X447 hx rfl rw11 rw11 (pc0 := 166) (pc' := 169) (same := true) rfl (hb hby at_166) rfl (decide_eq_true rfl) (by decide) (by decide) (XS.aload X447.here hx rfl (hb hby at_169) rfl rfl k))) ?_
      obtain ⟨v448, T448, L448, X448, hQ448, st448⟩ := own_callV X447 hx hZ (y := own_y18) (z := own_y18) (W := 0) (a := b418) hown (own_h hw 135 rfl) (own_h hw 136 rfl) (notFace_of_selects (args := #[]) (mvT hZ (own_h hw 138 rfl))) (own_h hw 138 rfl) (own_h hw 137 rfl) (own_h hw 81 rfl) (own_h hw 139 rfl) (by decide) (own_rmg_value l Z a0 hw [] b418 (.ref b268) T418.heap n0 Z418 Fq418_2 rfl) (by decide) (by decide) Eq418 (g := (mkF m 171 #[iv p1, iv p2, iv p3, iv p4, iv p5, iv p6, .val wv1, .val wv6, .val wv11, rv b16, rv b38, rv b58, rv b80, rv b268, rv oP, rv b371, rv b418] [(.ref b418)])) rfl (by rw [hml]; rfl) (argsL := []) (rest := []) rfl (lenOf own_pd16 rfl) rfl (by show 2 * 0 + _ ≤ _; exact Nat.le_of_eq rfl) (hb hby at_171) e447 (by decide) (by decide)
      obtain ⟨rfl, Nq448, e448⟩ := hQ448
      have N448 := Fr.app N447 Nq448
      refine own_s T448 (mkF m 174 #[iv p1, iv p2, iv p3, iv p4, iv p5, iv p6, .val wv1, .val wv6, .val wv11, rv b16, rv b38, rv b58, rv b80, rv b268, rv oP, rv b371, rv b418] [(.ref b268)]) st448 ?_
      refine own_s T448 (mkF m 181 #[iv p1, iv p2, iv p3, iv p4, iv p5, iv p6, .val wv1, .val wv6, .val wv11, rv b16, rv b38, rv b58, rv b80, rv b268, rv oP, rv b371, rv b418] [(.ref b418)]) (fun _ k => XS.aload X448.here hx rfl (hb hby at_174) rfl rfl (Jvm.RoadKit.acmp (g := (mkF m 176 #[iv p1, iv p2, iv p3, iv p4, iv p5, iv p6, .val wv1, .val wv6, .val wv11, rv b16, rv b38, rv b58, rv b80, rv b268, rv oP, rv b371, rv b418] [(.ref b268), (.ref b268)])) X448 hx rfl rfl rfl (pc0 := 176) (pc' := 179) (same := true) rfl (hb hby at_176) rfl (decide_eq_true rfl) (by decide) (by decide) (XS.aload X448.here hx rfl (hb hby at_179) rfl rfl k))) ?_
      obtain ⟨v449, T449, L449, X449, hQ449, st449⟩ := own_callV X448 hx hZ (y := own_y19) (z := own_y19) (W := 0) (a := b418) hown (own_h hw 140 rfl) (own_h hw 141 rfl) (notFace_of_selects (args := #[]) (mvT hZ (own_h hw 143 rfl))) (own_h hw 143 rfl) (own_h hw 142 rfl) (own_h hw 81 rfl) (own_h hw 144 rfl) (by decide) (own_rmg_arguments l Z a0 hw [] b418 (.ref b38) T418.heap n0 Z418 Fq418_3 rfl) (by decide) (by decide) Eq418 (g := (mkF m 181 #[iv p1, iv p2, iv p3, iv p4, iv p5, iv p6, .val wv1, .val wv6, .val wv11, rv b16, rv b38, rv b58, rv b80, rv b268, rv oP, rv b371, rv b418] [(.ref b418)])) rfl (by rw [hml]; rfl) (argsL := []) (rest := []) rfl (lenOf own_pd17 rfl) rfl (by show 2 * 0 + _ ≤ _; exact Nat.le_of_eq rfl) (hb hby at_181) e448 (by decide) (by decide)
      obtain ⟨rfl, Nq449, e449⟩ := hQ449
      have N449 := Fr.app N448 Nq449
      refine own_s T449 (mkF m 184 #[iv p1, iv p2, iv p3, iv p4, iv p5, iv p6, .val wv1, .val wv6, .val wv11, rv b16, rv b38, rv b58, rv b80, rv b268, rv oP, rv b371, rv b418] [(.ref b38)]) st449 ?_
      refine own_s T449 (mkF m 191 #[iv p1, iv p2, iv p3, iv p4, iv p5, iv p6, .val wv1, .val wv6, .val wv11, rv b16, rv b38, rv b58, rv b80, rv b268, rv oP, rv b371, rv b418] [(.ref b418)]) (fun _ k => XS.aload X449.here hx rfl (hb hby at_184) rfl rfl (Jvm.RoadKit.acmp (g := (mkF m 186 #[iv p1, iv p2, iv p3, iv p4, iv p5, iv p6, .val wv1, .val wv6, .val wv11, rv b16, rv b38, rv b58, rv b80, rv b268, rv oP, rv b371, rv b418] [(.ref b38), (.ref b38)])) X449 hx rfl rfl rfl (pc0 := 186) (pc' := 189) (same := true) rfl (hb hby at_186) rfl (decide_eq_true rfl) (by decide) (by decide) (XS.aload X449.here hx rfl (hb hby at_189) rfl rfl k))) ?_
      obtain ⟨v450, T450, L450, X450, hQ450, st450⟩ := own_callV X449 hx hZ (y := own_y20) (z := own_y20) (W := 0) (a := b418) hown (own_h hw 145 rfl) (own_h hw 146 rfl) (notFace_of_selects (args := #[]) (mvT hZ (own_h hw 148 rfl))) (own_h hw 148 rfl) (own_h hw 147 rfl) (own_h hw 81 rfl) (own_h hw 149 rfl) (by decide) (own_rmg_properties l Z a0 hw [] b418 (.ref b58) T418.heap n0 Z418 Fq418_4 rfl) (by decide) (by decide) Eq418 (g := (mkF m 191 #[iv p1, iv p2, iv p3, iv p4, iv p5, iv p6, .val wv1, .val wv6, .val wv11, rv b16, rv b38, rv b58, rv b80, rv b268, rv oP, rv b371, rv b418] [(.ref b418)])) rfl (by rw [hml]; rfl) (argsL := []) (rest := []) rfl (lenOf own_pd17 rfl) rfl (by show 2 * 0 + _ ≤ _; exact Nat.le_of_eq rfl) (hb hby at_191) e449 (by decide) (by decide)
      obtain ⟨rfl, Nq450, e450⟩ := hQ450
      have N450 := Fr.app N449 Nq450
      refine own_s T450 (mkF m 194 #[iv p1, iv p2, iv p3, iv p4, iv p5, iv p6, .val wv1, .val wv6, .val wv11, rv b16, rv b38, rv b58, rv b80, rv b268, rv oP, rv b371, rv b418] [(.ref b58)]) st450 ?_
      refine own_s T450 (mkF m 201 #[iv p1, iv p2, iv p3, iv p4, iv p5, iv p6, .val wv1, .val wv6, .val wv11, rv b16, rv b38, rv b58, rv b80, rv b268, rv oP, rv b371, rv b418] [(.ref b418)]) (fun _ k => XS.aload X450.here hx rfl (hb hby at_194) rfl rfl (Jvm.RoadKit.acmp (g := (mkF m 196 #[iv p1, iv p2, iv p3, iv p4, iv p5, iv p6, .val wv1, .val wv6, .val wv11, rv b16, rv b38, rv b58, rv b80, rv b268, rv oP, rv b371, rv b418] [(.ref b58), (.ref b58)])) X450 hx rfl rfl rfl (pc0 := 196) (pc' := 199) (same := true) rfl (hb hby at_196) rfl (decide_eq_true rfl) (by decide) (by decide) (XS.aload X450.here hx rfl (hb hby at_199) rfl rfl k))) ?_
      obtain ⟨v451, T451, L451, X451, hQ451, st451⟩ := own_callV X450 hx hZ (y := own_y21) (z := own_y21) (W := 0) (a := b418) hown (own_h hw 113 rfl) (own_h hw 114 rfl) (notFace_of_selects (args := #[]) (mvT hZ (own_h hw 116 rfl))) (own_h hw 116 rfl) (own_h hw 115 rfl) (own_h hw 81 rfl) (own_h hw 117 rfl) (by decide) (own_rmg_lifecycle l Z a0 hw [] b418 (.ref oP) T418.heap n0 Z418 Fq418_5 rfl) (by decide) (by decide) Eq418 (g := (mkF m 201 #[iv p1, iv p2, iv p3, iv p4, iv p5, iv p6, .val wv1, .val wv6, .val wv11, rv b16, rv b38, rv b58, rv b80, rv b268, rv oP, rv b371, rv b418] [(.ref b418)])) rfl (by rw [hml]; rfl) (argsL := []) (rest := []) rfl (lenOf own_pd18 rfl) rfl (by show 2 * 0 + _ ≤ _; exact Nat.le_of_eq rfl) (hb hby at_201) e450 (by decide) (by decide)
      obtain ⟨rfl, Nq451, e451⟩ := hQ451
      have N451 := Fr.app N450 Nq451
      refine own_s T451 (mkF m 204 #[iv p1, iv p2, iv p3, iv p4, iv p5, iv p6, .val wv1, .val wv6, .val wv11, rv b16, rv b38, rv b58, rv b80, rv b268, rv oP, rv b371, rv b418] [(.ref oP)]) st451 ?_
      refine own_s T451 (mkF m 211 #[iv p1, iv p2, iv p3, iv p4, iv p5, iv p6, .val wv1, .val wv6, .val wv11, rv b16, rv b38, rv b58, rv b80, rv b268, rv oP, rv b371, rv b418] [(.ref b418)]) (fun _ k => XS.aload X451.here hx rfl (hb hby at_204) rfl rfl (Jvm.RoadKit.acmp (g := (mkF m 206 #[iv p1, iv p2, iv p3, iv p4, iv p5, iv p6, .val wv1, .val wv6, .val wv11, rv b16, rv b38, rv b58, rv b80, rv b268, rv oP, rv b371, rv b418] [(.ref oP), (.ref oP)])) X451 hx rfl rfl rfl (pc0 := 206) (pc' := 209) (same := true) rfl (hb hby at_206) rfl (decide_eq_true rfl) (by decide) (by decide) (XS.aload X451.here hx rfl (hb hby at_209) rfl rfl k))) ?_
      obtain ⟨v452, T452, L452, X452, hQ452, st452⟩ := own_callV X451 hx hZ (y := own_y22) (z := own_y22) (W := 0) (a := b418) hown (own_h hw 150 rfl) (own_h hw 151 rfl) (notFace_of_selects (args := #[]) (mvT hZ (own_h hw 153 rfl))) (own_h hw 153 rfl) (own_h hw 152 rfl) (own_h hw 81 rfl) (own_h hw 154 rfl) (by decide) (own_rmg_location l Z a0 hw [] b418 (.ref b16) T418.heap n0 Z418 Fq418_6 rfl) (by decide) (by decide) Eq418 (g := (mkF m 211 #[iv p1, iv p2, iv p3, iv p4, iv p5, iv p6, .val wv1, .val wv6, .val wv11, rv b16, rv b38, rv b58, rv b80, rv b268, rv oP, rv b371, rv b418] [(.ref b418)])) rfl (by rw [hml]; rfl) (argsL := []) (rest := []) rfl (lenOf own_pd19 rfl) rfl (by show 2 * 0 + _ ≤ _; exact Nat.le_of_eq rfl) (hb hby at_211) e451 (by decide) (by decide)
      obtain ⟨rfl, Nq452, e452⟩ := hQ452
      have N452 := Fr.app N451 Nq452
      refine own_s T452 (mkF m 214 #[iv p1, iv p2, iv p3, iv p4, iv p5, iv p6, .val wv1, .val wv6, .val wv11, rv b16, rv b38, rv b58, rv b80, rv b268, rv oP, rv b371, rv b418] [(.ref b16)]) st452 ?_
      refine own_s T452 (mkF m 224 #[iv p1, iv p2, iv p3, iv p4, iv p5, iv p6, .val wv1, .val wv6, .val wv11, rv b16, rv b38, rv b58, rv b80, rv b268, rv oP, rv b371, rv b418] [(.int 1)]) (fun _ k => XS.aload X452.here hx rfl (hb hby at_214) rfl rfl (Jvm.RoadKit.acmp (g := (mkF m 216 #[iv p1, iv p2, iv p3, iv p4, iv p5, iv p6, .val wv1, .val wv6, .val wv11, rv b16, rv b38, rv b58, rv b80, rv b268, rv oP, rv b371, rv b418] [(.ref b16), (.ref b16)])) X452 hx rfl rfl rfl (pc0 := 216) (pc' := 219) (same := true) rfl (hb hby at_216) rfl (decide_eq_true rfl) (by decide) (by decide) (XS.iconst X452.here hx rfl (hb hby at_219) (XS.goto X452.here hx rfl (pc0 := 220) (pc' := 224) rfl (hb hby at_220) (by decide) (by decide) k)))) ?_
      exact own_finZ X452 hx (t := .boolean) hret (by simp) (z' := (1 : Int32)) rfl (hb hby at_224) (own_endW (Qv := (own_Q0 Z p1 p2 p3 p4 p5 p6 gC oP oD h0 n0)) X452 hS (own_some hret) hlk (by decide) (by decide) e452 hk418 (fun vm' hv' => ⟨rfl, N452⟩))
set_option maxRecDepth 65536 in
set_option maxHeartbeats 40000000 in
theorem comes_1 {Post : Tables → Env → Array Value → State → Outcome → State → Prop} (hpost : ∀ tb e args s v u, (limb_1_1.after args s (.returned v) u = true ∧ limb_1_2.after args s (.returned v) u = true ∧ True) → ReturnedEndW s (.returned v) u (Jvm.fieldLocs frame_1_writes args s ++ Jvm.arrayLocs frame_1_arrays args s ++ Jvm.staticLocs frame_1_statics s) 48 1216 → Post tb e args s (.returned v) u) :
    ArmFor flags0 classFile x code maxLocals ret World_1 tables_1 room_1 Calls_1 rest_1 Pre_1 Post := by
  intro l hfl _ _ p e ha hc hk s m args below hf hA hF happ hP
  obtain ⟨hcalls, hrest, hpre⟩ := hP
  obtain ⟨-, -, -, hnamed, -, -, -, hat⟩ := (Spec.applies_iff hf).mp happ
  obtain ⟨hg, hn⟩ := and_e (Cond.before_iff.mp (show (Jvm.Cond.and given_1 narrow_1).before args s = true from hpre))
  obtain ⟨g1, g2⟩ := and_e hg
  obtain ⟨g3, g4⟩ := and_e g2
  obtain ⟨g5, g6⟩ := and_e g4
  obtain ⟨g7, g8⟩ := and_e g6
  obtain ⟨g9, g10⟩ := and_e g8
  obtain ⟨g11, g12⟩ := and_e g10
  obtain ⟨w0, w1, w2, w3, w4, w5, rfl⟩ : ∃ w0 w1 w2 w3 w4 w5 : Value, args = #[w0, w1, w2, w3, w4, w5] := by
    have hs : args.size = 6 := by simpa [Cond.value, given_1] using g1
    obtain ⟨L⟩ := args
    match L, hs with
    | [w0, w1, w2, w3, w4, w5], _ => exact ⟨w0, w1, w2, w3, w4, w5, rfl⟩
  have hw := fun d (hd : d ∈ tables_1) => atoms_spec (ws := Jvm.Cond.code x code maxLocals ret :: tables_1) hat d (List.mem_cons_of_mem _ hd)
  have hfit : Fit s := fun {y c} hc i hi => by
    obtain ⟨ha, rfl⟩ := Array.getElem?_eq_some_iff.mp hc
    have q := List.all_eq_true.mp ((Array.all_eq_true_iff_forall_mem.mp hF) _ (Array.getElem_mem ha)) i (List.mem_range.mpr hi)
    simpa [Array.getElem?_eq_getElem hi] using q
  obtain ⟨hsets, hown0⟩ := atoms_of _ (rest_1_c_eq ▸ (show rest_1_c.before _ s = true from hrest))
  have hr0 := Cond.before_iff.mp hown0
  obtain ⟨i0, ei0⟩ := is_v g3
  obtain rfl : w0 = (.int i0) := Option.some.inj ei0
  obtain ⟨i1, ei1⟩ := is_v g5
  obtain rfl : w1 = (.int i1) := Option.some.inj ei1
  obtain ⟨i2, ei2⟩ := is_v g7
  obtain rfl : w2 = (.int i2) := Option.some.inj ei2
  obtain ⟨i3, ei3⟩ := is_v g9
  obtain rfl : w3 = (.int i3) := Option.some.inj ei3
  obtain ⟨i4, ei4⟩ := is_v g11
  obtain rfl : w4 = (.int i4) := Option.some.inj ei4
  obtain ⟨i5, ei5⟩ := is_v g12
  obtain rfl : w5 = (.int i5) := Option.some.inj ei5
  obtain ⟨gC, SC, eG⟩ := own_staI (Cond.before_iff.mp (hsets _ (List.mem_of_getElem? (i := 1) rfl))) (hsets _ (List.mem_of_getElem? (i := 0) rfl))
  have hG := own_not0 eG (Cond.before_iff.mp (hsets _ (List.mem_of_getElem? (i := 2) rfl)))
  have hcw : Jvm.Lit.compactW.before _ s = true := hsets _ (List.mem_of_getElem? (i := 2) rfl)
  have hh : Jvm.Lit.constHeld s "java/lang/String" 7 := hcalls.1 ("java/lang/String", 7) (by simp [consts_1])
  obtain ⟨oP, evP⟩ := exa_v hn
  have SP := Sta.start evP (Or.inr ⟨(own_h hw 86 rfl), (own_h hw 87 rfl)⟩)
  obtain ⟨oD, evD⟩ := arr_v (Cond.before_iff.mp (hsets _ (List.mem_of_getElem? (i := 15) rfl)))
  have SD := Sta.start evD (Or.inr ⟨(own_h hw 57 rfl), hsets _ (List.mem_of_getElem? (i := 11) rfl)⟩)
  obtain ⟨n, o, h1, h2, h3, _, L, rfl, ⟨rfl, N⟩, hq⟩ := own_rm0 l s _ hw tables_1 i0 i1 i2 i3 i4 i5 gC oP oD s.heap s.heap.size (Nat.le_refl _) SC hG (Old.start s) hh hcw SP SD p e ha hc hk s m _ below hf ((Spec.applies_iff_loose hf).mp happ).1 ⟨rfl, State.Warmed39.refl s, rfl, Or.inl IB.start⟩ trivial
  refine ⟨n, _, h1, h2, h3, hpost _ _ _ _ _ _ ⟨Cond.after_iff.mpr rfl, Cond.after_iff.mpr (eq_i res_at (Term.int_eval (1)) rfl), trivial⟩ ⟨hq.1, hq.2.1, hq.2.2.1, (hq.2.2.2.sift fun y hy => Or.inr (N y hy)).mono (by decide) (by decide)⟩⟩
theorem main_1_1 : Claimed_1_1 := comes_1 fun _ _ _ _ _ _ h hF => ⟨h.1, hF⟩
theorem main_1_2 : Claimed_1_2 := comes_1 fun _ _ _ _ _ _ h hF => ⟨h.2.1, hF⟩
end Jvm.Pilot.@@N@@
namespace Jvm.Pilot.@@N@@
open Jvm Jvm.ClassFile Sem Op Lib Jvm.Free Jvm.Stand Jvm.Pilot.@@N@@.Jvm.D
/-! MADE BY PROGRAM (witnessworld.py) out of the Statement's table words and the real class files: 34 classes; the members and pool entries that the words name. The judged class is class 1, her method 2. -/
namespace start1
open Jvm.ClassFile
def u (s : String) : CpInfo := .utf8 (stringToUtf16 s)
/-- a pool by its gaps: so many unusable entries, then the entry; so many at the end -/
def gap : Nat → List CpInfo → List CpInfo
  | 0, r => r
  | n + 1, r => .unusable :: gap n r
def poolList (es : List (Nat × CpInfo)) (last : Nat) : List CpInfo := es.foldr (fun e r => gap e.1 (e.2 :: r)) (gap last [])
def pool (es : List (Nat × CpInfo)) (last : Nat) : Array CpInfo := ⟨poolList es last⟩
def fileOf (pool : Array CpInfo) (this : Nat) (attrs : Array Attribute := #[]) (ms : Array MethodInfo := #[]) (fl : Nat := 33) (sup : Nat := 0) (ifs : Array Nat := #[]) (fds : Array FieldInfo := #[]) : ClassFile where
  minorVersion := 0
  majorVersion := 65
  constantPool := pool
  accessFlags := fl
  thisClass := this
  superClass := sup
  interfaces := ifs
  fields := fds
  methods := ms
  attributes := attrs
def plain (name : String) (sup : Option ClassId) : Class where
  name := name
  kind := .ordinary
  loader := none
  accessFlags := 33
  super := sup
  interfaces := #[]
  cf := none
  fields := #[]
  methods := #[]
  instanceTypes := #[]
  staticTypes := #[]
  resolved := #[]
  callSites := []
  init := .initialized
  statics := none
  mirror := none

def pool0 : Array CpInfo := pool [(5, u "<init>"), (0, u "()V"), (1, .class_ 10), (1, u "java/lang/Object")] 113

def k0c0 : Code := { maxStack := 0, maxLocals := 1, code := object_method_1_code, exceptionTable := #[], attributes := #[] }
def k0m0 : Method := { name := "<init>", desc := "()V", sig := { parameters := [], returnType := none }, accessFlags := 1, code := some k0c0 }
/-- java/lang/Object -/
def k0 : Class := { plain "java/lang/Object" none with
  accessFlags := 33
  interfaces := #[]
  cf := some (fileOf pool0 8 #[] #[{ accessFlags := 1, nameIndex := 5, descriptorIndex := 6, attributes := #[] }] 33 0 #[] #[])
  fields := #[]
  methods := #[k0m0]
  instanceTypes := #[]
  staticTypes := #[]
  resolved := Array.replicate 124 none
  statics := none }

def pool1 : Array CpInfo := pool [(2, .class_ 4), (0, .nameAndType 5 6), (0, u "java/lang/Object"), (0, u "<init>"), (0, u "()V"), (0, .class_ 8), (0, u "java/lang/String"), (0, .methodref 7 10), (0, .nameAndType 5 11), (0, u "([C)V"), (0, .methodref 7 13), (0, .nameAndType 14 15), (0, u "valueOf"), (0, u "(C)Ljava/lang/String;"), (0, .methodref 17 18), (0, .class_ 19), (0, .nameAndType 20 21), (0, u "com/example/tagwright/tagwright/DefinitionWithIdPinLaw"), (0, u "str"), (0, u "(I)Ljava/lang/String;"), (0, .class_ 23), (0, u "com/example/tagwright/tagwright/Location"), (0, .methodref 22 25), (0, .nameAndType 5 26), (0, u "(Ljava/lang/String;II)V"), (0, .class_ 28), (0, u "java/util/ArrayList"), (0, .methodref 27 3), (0, .class_ 31), (0, u "com/example/tagwright/tagwright/Definition"), (0, .methodref 30 33), (0, .nameAndType 5 34), (0, u "(Ljava/lang/String;Ljava/lang/String;Ljava/util/List;Ljava/util/List;Lcom/example/tagwright/tagwright/Location;)V"), (0, .class_ 36), (0, u "com/example/tagwright/tagwright/NullValue"), (0, .methodref 35 3), (0, .methodref 30 39), (0, .nameAndType 40 41), (0, u "lifecycle"), (0, u "()Lcom/example/tagwright/tagwright/Definition$Lifecycle;"), (0, .methodref 30 43), (0, .nameAndType 5 44), (0, u "(Ljava/lang/String;Ljava/lang/String;Lcom/example/tagwright/tagwright/Value;Ljava/util/List;Ljava/util/List;Lcom/example/tagwright/tagwright/Definition$Lifecycle;Lcom/example/tagwright/tagwright/Location;)V"), (0, .methodref 30 46), (0, .nameAndType 47 48), (0, u "withId"), (0, u "(Ljava/lang/String;)Lcom/example/tagwright/tagwright/Definition;"), (0, .methodref 30 50), (0, .nameAndType 51 52), (0, u "id"), (0, u "()Ljava/lang/String;"), (0, .methodref 30 54), (0, .nameAndType 55 52), (0, u "className"), (0, .methodref 30 57), (0, .nameAndType 58 59), (0, u "value"), (0, u "()Lcom/example/tagwright/tagwright/Value;"), (0, .methodref 30 61), (0, .nameAndType 62 63), (0, u "arguments"), (0, u "()Ljava/util/List;"), (0, .methodref 30 65), (0, .nameAndType 66 63), (0, u "properties"), (0, .methodref 30 68), (0, .nameAndType 69 70), (0, u "location"), (0, u "()Lcom/example/tagwright/tagwright/Location;"), (3, u "law"), (0, u "(IIIIII)Z")] 10

def k1m0 : Method := { name := "<init>", desc := "()V", sig := { parameters := [], returnType := none }, accessFlags := 2, code := none }
def k1c1 : Code := { maxStack := 4, maxLocals := 5, code := method_2_code, exceptionTable := #[], attributes := #[] }
def k1m1 : Method := { name := "str", desc := "(I)Ljava/lang/String;", sig := { parameters := [.int], returnType := some (.object "java/lang/String") }, accessFlags := 10, code := some k1c1 }
def k1c2 : Code := { maxStack := 9, maxLocals := 17, code := code, exceptionTable := #[], attributes := #[] }
def k1m2 : Method := { name := "law", desc := "(IIIIII)Z", sig := { parameters := [.int, .int, .int, .int, .int, .int], returnType := some .boolean }, accessFlags := 9, code := some k1c2 }
/-- com/example/tagwright/tagwright/DefinitionWithIdPinLaw -/
def k1 : Class := { plain "com/example/tagwright/tagwright/DefinitionWithIdPinLaw" (some 0) with
  accessFlags := 49
  interfaces := #[]
  cf := some (fileOf pool1 17 #[] #[{ accessFlags := 2, nameIndex := 5, descriptorIndex := 6, attributes := #[] }, { accessFlags := 10, nameIndex := 20, descriptorIndex := 21, attributes := #[] }, { accessFlags := 9, nameIndex := 74, descriptorIndex := 75, attributes := #[] }] 49 2 #[] #[])
  fields := #[]
  methods := #[k1m0, k1m1, k1m2]
  instanceTypes := #[]
  staticTypes := #[]
  resolved := Array.replicate 86 none
  statics := none }

def pool2 : Array CpInfo := pool [(1, .class_ 2), (0, u "java/io/Serializable"), (0, .class_ 4), (0, u "java/lang/Object")] 2

/-- java/io/Serializable -/
def k2 : Class := { plain "java/io/Serializable" (some 0) with
  accessFlags := 1537
  interfaces := #[]
  cf := some (fileOf pool2 1 #[] #[] 1537 3 #[] #[])
  fields := #[]
  methods := #[]
  instanceTypes := #[]
  staticTypes := #[]
  resolved := Array.replicate 7 none
  statics := none }

def pool3 : Array CpInfo := pool [(1, .class_ 2), (0, u "java/lang/Comparable"), (0, .class_ 4), (0, u "java/lang/Object")] 7

/-- java/lang/Comparable -/
def k3 : Class := { plain "java/lang/Comparable" (some 0) with
  accessFlags := 1537
  interfaces := #[]
  cf := some (fileOf pool3 1 #[] #[] 1537 3 #[] #[])
  fields := #[]
  methods := #[]
  instanceTypes := #[]
  staticTypes := #[]
  resolved := Array.replicate 12 none
  statics := none }

def pool4 : Array CpInfo := pool [(2, .class_ 4), (1, u "java/lang/CharSequence"), (42, .class_ 48), (0, u "java/lang/CharSequence$1CodePointIterator"), (10, .class_ 60), (0, u "java/lang/CharSequence$1CharIterator"), (5, .class_ 67), (0, u "java/lang/Object")] 63

/-- java/lang/CharSequence -/
def k4 : Class := { plain "java/lang/CharSequence" (some 0) with
  accessFlags := 1537
  interfaces := #[]
  cf := some (fileOf pool4 2 #[.nestMembers #[47, 59]] #[] 1537 66 #[] #[])
  fields := #[]
  methods := #[]
  instanceTypes := #[]
  staticTypes := #[]
  resolved := Array.replicate 131 none
  statics := none }

def pool5 : Array CpInfo := pool [(1, .class_ 2), (0, u "java/lang/constant/Constable"), (0, .class_ 4), (0, u "java/lang/Object")] 6

/-- java/lang/constant/Constable -/
def k5 : Class := { plain "java/lang/constant/Constable" (some 0) with
  accessFlags := 1537
  interfaces := #[]
  cf := some (fileOf pool5 1 #[] #[] 1537 3 #[] #[])
  fields := #[]
  methods := #[]
  instanceTypes := #[]
  staticTypes := #[]
  resolved := Array.replicate 11 none
  statics := none }

def pool6 : Array CpInfo := pool [(1, .class_ 2), (0, u "java/lang/constant/ConstantDesc"), (0, .class_ 4), (0, u "java/lang/Object")] 32

/-- java/lang/constant/ConstantDesc -/
def k6 : Class := { plain "java/lang/constant/ConstantDesc" (some 0) with
  accessFlags := 1537
  interfaces := #[]
  cf := some (fileOf pool6 1 #[] #[] 1537 3 #[] #[])
  fields := #[]
  methods := #[]
  instanceTypes := #[]
  staticTypes := #[]
  resolved := Array.replicate 37 none
  statics := none }

def pool7 : Array CpInfo := pool [(1, .methodref 2 3), (0, .class_ 4), (0, .nameAndType 5 6), (0, u "java/lang/Object"), (0, u "<init>"), (0, u "()V"), (0, .string 8), (0, u ""), (0, .fieldref 10 11), (0, .class_ 12), (0, .nameAndType 13 14), (0, u "java/lang/String"), (0, u "value"), (0, u "[B"), (0, .fieldref 10 16), (0, .nameAndType 17 18), (0, u "coder"), (0, u "B"), (2, u "hash"), (0, u "I"), (2, u "hashIsZero"), (0, u "Z"), (0, .methodref 10 28), (0, .nameAndType 5 29), (0, u "([CIILjava/lang/Void;)V"), (8, .fieldref 10 39), (0, .nameAndType 40 26), (0, u "COMPACT_STRINGS"), (1, .class_ 44), (1, u "java/lang/StringUTF16"), (0, u "compress"), (1, .methodref 42 48), (0, .nameAndType 49 50), (0, u "coderFromArrayLen"), (0, u "([BI)B"), (2, u "toBytes"), (53, .class_ 109), (1, u "java/lang/StringLatin1"), (67, .methodref 42 178), (0, .nameAndType 45 179), (0, u "([CII)[B"), (29, .methodref 10 210), (0, .nameAndType 5 211), (0, u "([BB)V"), (157, u "(C)Z"), (205, .class_ 576), (0, u "java/lang/CharSequence"), (22, u "CASE_INSENSITIVE_ORDER"), (0, u "Ljava/util/Comparator;"), (181, u "valueOf"), (0, u "(C)Ljava/lang/String;"), (226, u "([C)V"), (4, .methodref 107 1016), (0, .nameAndType 1017 369), (0, u "canEncode"), (0, .methodref 107 1019), (0, .nameAndType 53 1020), (0, u "(C)[B"), (80, u "serialPersistentFields"), (0, u "[Ljava/io/ObjectStreamField;"), (0, .class_ 1104), (0, u "java/lang/String$CaseInsensitiveComparator"), (1, .class_ 1107), (0, u "java/io/Serializable"), (0, .class_ 1109), (0, u "java/lang/Comparable"), (0, .class_ 1111), (0, u "java/lang/constant/Constable"), (0, .class_ 1113), (0, u "java/lang/constant/ConstantDesc"), (2, u "serialVersionUID"), (0, u "J"), (3, u "REPL"), (0, u "C"), (2, u "LATIN1"), (1, u "UTF16")] 323

def k7m0 : Method := { name := "<init>", desc := "()V", sig := { parameters := [], returnType := none }, accessFlags := 1, code := none }
def k7c1 : Code := { maxStack := 5, maxLocals := 2, code := jdk_42_method_3_code, exceptionTable := #[], attributes := #[] }
def k7m1 : Method := { name := "<init>", desc := "([C)V", sig := { parameters := [(.array .char)], returnType := none }, accessFlags := 1, code := some k7c1 }
def k7c2 : Code := { maxStack := 4, maxLocals := 1, code := jdk_42_method_139_code, exceptionTable := #[], attributes := #[] }
def k7m2 : Method := { name := "valueOf", desc := "(C)Ljava/lang/String;", sig := { parameters := [.char], returnType := some (.object "java/lang/String") }, accessFlags := 9, code := some k7c2 }
def k7c3 : Code := { maxStack := 4, maxLocals := 6, code := jdk_42_method_149_code, exceptionTable := #[], attributes := #[] }
def k7m3 : Method := { name := "<init>", desc := "([CIILjava/lang/Void;)V", sig := { parameters := [(.array .char), .int, .int, (.object "java/lang/Void")], returnType := none }, accessFlags := 2, code := some k7c3 }
def k7c4 : Code := { maxStack := 2, maxLocals := 3, code := jdk_42_method_151_code, exceptionTable := #[], attributes := #[] }
def k7m4 : Method := { name := "<init>", desc := "([BB)V", sig := { parameters := [(.array .byte), .byte], returnType := none }, accessFlags := 0, code := some k7c4 }
/-- java/lang/String -/
def k7 : Class := { plain "java/lang/String" (some 0) with
  accessFlags := 49
  interfaces := #[2, 3, 4, 5, 6]
  cf := some (fileOf pool7 10 #[.nestMembers #[1103]] #[{ accessFlags := 1, nameIndex := 5, descriptorIndex := 6, attributes := #[] }, { accessFlags := 1, nameIndex := 5, descriptorIndex := 1010, attributes := #[] }, { accessFlags := 9, nameIndex := 782, descriptorIndex := 783, attributes := #[] }, { accessFlags := 2, nameIndex := 5, descriptorIndex := 29, attributes := #[] }, { accessFlags := 0, nameIndex := 5, descriptorIndex := 211, attributes := #[] }] 49 2 #[1106, 1108, 575, 1110, 1112] #[{ accessFlags := 18, nameIndex := 13, descriptorIndex := 14, attributes := #[] }, { accessFlags := 18, nameIndex := 17, descriptorIndex := 18, attributes := #[] }, { accessFlags := 2, nameIndex := 21, descriptorIndex := 22, attributes := #[] }, { accessFlags := 2, nameIndex := 25, descriptorIndex := 26, attributes := #[] }, { accessFlags := 26, nameIndex := 1116, descriptorIndex := 1117, attributes := #[] }, { accessFlags := 24, nameIndex := 40, descriptorIndex := 26, attributes := #[] }, { accessFlags := 26, nameIndex := 1101, descriptorIndex := 1102, attributes := #[] }, { accessFlags := 26, nameIndex := 1121, descriptorIndex := 1122, attributes := #[] }, { accessFlags := 25, nameIndex := 599, descriptorIndex := 600, attributes := #[] }, { accessFlags := 24, nameIndex := 1125, descriptorIndex := 18, attributes := #[] }, { accessFlags := 24, nameIndex := 1127, descriptorIndex := 18, attributes := #[] }])
  fields := #[{ name := "value", type := (.array .byte), accessFlags := 18, slot := 0, constantValue := 0 }, { name := "coder", type := .byte, accessFlags := 18, slot := 1, constantValue := 0 }, { name := "hash", type := .int, accessFlags := 2, slot := 2, constantValue := 0 }, { name := "hashIsZero", type := .boolean, accessFlags := 2, slot := 3, constantValue := 0 }, { name := "serialVersionUID", type := .long, accessFlags := 26, slot := 0, constantValue := 0 }, { name := "COMPACT_STRINGS", type := .boolean, accessFlags := 24, slot := 1, constantValue := 0 }, { name := "serialPersistentFields", type := (.array (.object "java/io/ObjectStreamField")), accessFlags := 26, slot := 2, constantValue := 0 }, { name := "REPL", type := .char, accessFlags := 26, slot := 3, constantValue := 0 }, { name := "CASE_INSENSITIVE_ORDER", type := (.object "java/util/Comparator"), accessFlags := 25, slot := 4, constantValue := 0 }, { name := "LATIN1", type := .byte, accessFlags := 24, slot := 5, constantValue := 0 }, { name := "UTF16", type := .byte, accessFlags := 24, slot := 6, constantValue := 0 }]
  methods := #[k7m0, k7m1, k7m2, k7m3, k7m4]
  instanceTypes := #[(.array .byte), .byte, .int, .boolean]
  staticTypes := #[.long, .boolean, (.array (.object "java/io/ObjectStreamField")), .char, (.object "java/util/Comparator"), .byte, .byte]
  resolved := Array.replicate 1451 none
  statics := some 0 }

def pool8 : Array CpInfo := pool [(6, .class_ 8), (1, u "java/lang/Object"), (0, u "<init>"), (0, u "()V"), (1, .class_ 14), (1, u "java/lang/StringUTF16"), (31, u "$assertionsDisabled"), (0, u "Z"), (13, u "HI_BYTE_SHIFT"), (0, u "I"), (2, u "LO_BYTE_SHIFT"), (49, .methodref 12 116), (0, .nameAndType 117 118), (0, u "compress"), (0, u "([CI[BII)I"), (3, u "([CII)[B"), (138, u "coderFromArrayLen"), (0, u "([BI)B"), (106, .class_ 371), (1, u "java/lang/StringUTF16$LinesSpliterator"), (58, u "MAX_LENGTH"), (196, .class_ 628), (0, u "java/lang/StringUTF16$CodePointsSpliterator"), (0, .class_ 630), (0, u "java/lang/StringUTF16$CharsSpliterator")] 4

def k8m0 : Method := { name := "<init>", desc := "()V", sig := { parameters := [], returnType := none }, accessFlags := 0, code := none }
def k8c1 : Code := { maxStack := 2, maxLocals := 2, code := jdk_52_method_15_code, exceptionTable := #[], attributes := #[] }
def k8m1 : Method := { name := "coderFromArrayLen", desc := "([BI)B", sig := { parameters := [(.array .byte), .int], returnType := some .byte }, accessFlags := 8, code := some k8c1 }
def k8c2 : Code := { maxStack := 5, maxLocals := 6, code := jdk_52_method_16_code, exceptionTable := #[], attributes := #[] }
def k8m2 : Method := { name := "compress", desc := "([CII)[B", sig := { parameters := [(.array .char), .int, .int], returnType := some (.array .byte) }, accessFlags := 9, code := some k8c2 }
def k8c3 : Code := { maxStack := 3, maxLocals := 7, code := jdk_52_method_21_code, exceptionTable := #[], attributes := #[] }
def k8m3 : Method := { name := "compress", desc := "([CI[BII)I", sig := { parameters := [(.array .char), .int, (.array .byte), .int, .int], returnType := some .int }, accessFlags := 9, code := some k8c3 }
/-- java/lang/StringUTF16 -/
def k8 : Class := { plain "java/lang/StringUTF16" (some 0) with
  accessFlags := 48
  interfaces := #[]
  cf := some (fileOf pool8 12 #[.nestMembers #[627, 629, 369]] #[{ accessFlags := 0, nameIndex := 9, descriptorIndex := 10, attributes := #[] }, { accessFlags := 8, nameIndex := 261, descriptorIndex := 262, attributes := #[] }, { accessFlags := 9, nameIndex := 117, descriptorIndex := 122, attributes := #[] }, { accessFlags := 9, nameIndex := 117, descriptorIndex := 118, attributes := #[] }] 48 6 #[] #[{ accessFlags := 26, nameIndex := 61, descriptorIndex := 62, attributes := #[] }, { accessFlags := 26, nameIndex := 65, descriptorIndex := 62, attributes := #[] }, { accessFlags := 24, nameIndex := 430, descriptorIndex := 62, attributes := #[] }, { accessFlags := 4120, nameIndex := 46, descriptorIndex := 47, attributes := #[] }])
  fields := #[{ name := "HI_BYTE_SHIFT", type := .int, accessFlags := 26, slot := 0, constantValue := 0 }, { name := "LO_BYTE_SHIFT", type := .int, accessFlags := 26, slot := 1, constantValue := 0 }, { name := "MAX_LENGTH", type := .int, accessFlags := 24, slot := 2, constantValue := 0 }, { name := "$assertionsDisabled", type := .boolean, accessFlags := 4120, slot := 3, constantValue := 0 }]
  methods := #[k8m0, k8m1, k8m2, k8m3]
  instanceTypes := #[]
  staticTypes := #[.int, .int, .int, .boolean]
  resolved := Array.replicate 635 none
  statics := none }

def pool9 : Array CpInfo := pool [(1, .methodref 2 3), (0, .class_ 4), (0, .nameAndType 5 6), (0, u "java/lang/Object"), (0, u "<init>"), (0, u "()V"), (0, .class_ 8), (0, u "java/lang/Record")] 13

def k9c0 : Code := { maxStack := 1, maxLocals := 1, code := jdk_30_method_1_code, exceptionTable := #[], attributes := #[] }
def k9m0 : Method := { name := "<init>", desc := "()V", sig := { parameters := [], returnType := none }, accessFlags := 4, code := some k9c0 }
/-- java/lang/Record -/
def k9 : Class := { plain "java/lang/Record" (some 0) with
  accessFlags := 1057
  interfaces := #[]
  cf := some (fileOf pool9 7 #[] #[{ accessFlags := 4, nameIndex := 5, descriptorIndex := 6, attributes := #[] }] 1057 2 #[] #[])
  fields := #[]
  methods := #[k9m0]
  instanceTypes := #[]
  staticTypes := #[]
  resolved := Array.replicate 22 none
  statics := none }

def pool10 : Array CpInfo := pool [(1, .methodref 2 3), (0, .class_ 4), (0, .nameAndType 5 6), (0, u "java/lang/Record"), (0, u "<init>"), (0, u "()V"), (0, .fieldref 8 9), (0, .class_ 10), (0, .nameAndType 11 12), (0, u "com/example/tagwright/tagwright/Location"), (0, u "file"), (0, u "Ljava/lang/String;"), (0, .fieldref 8 14), (0, .nameAndType 15 16), (0, u "line"), (0, u "I"), (0, .fieldref 8 18), (0, .nameAndType 19 16), (0, u "column"), (21, u "(Ljava/lang/String;II)V")] 41

def k10c0 : Code := { maxStack := 2, maxLocals := 4, code := prog_48_method_1_code, exceptionTable := #[], attributes := #[] }
def k10m0 : Method := { name := "<init>", desc := "(Ljava/lang/String;II)V", sig := { parameters := [(.object "java/lang/String"), .int, .int], returnType := none }, accessFlags := 0, code := some k10c0 }
/-- com/example/tagwright/tagwright/Location -/
def k10 : Class := { plain "com/example/tagwright/tagwright/Location" (some 9) with
  accessFlags := 48
  interfaces := #[]
  cf := some (fileOf pool10 8 #[] #[{ accessFlags := 0, nameIndex := 5, descriptorIndex := 41, attributes := #[] }] 48 2 #[] #[{ accessFlags := 18, nameIndex := 11, descriptorIndex := 12, attributes := #[] }, { accessFlags := 18, nameIndex := 15, descriptorIndex := 16, attributes := #[] }, { accessFlags := 18, nameIndex := 19, descriptorIndex := 16, attributes := #[] }])
  fields := #[{ name := "file", type := (.object "java/lang/String"), accessFlags := 18, slot := 0, constantValue := 0 }, { name := "line", type := .int, accessFlags := 18, slot := 1, constantValue := 0 }, { name := "column", type := .int, accessFlags := 18, slot := 2, constantValue := 0 }]
  methods := #[k10m0]
  instanceTypes := #[(.object "java/lang/String"), .int, .int]
  staticTypes := #[]
  resolved := Array.replicate 83 none
  statics := none }

def pool11 : Array CpInfo := pool [(8, .class_ 10), (1, u "java/lang/Iterable"), (24, .class_ 36), (0, u "java/lang/Object")] 25

/-- java/lang/Iterable -/
def k11 : Class := { plain "java/lang/Iterable" (some 0) with
  accessFlags := 1537
  interfaces := #[]
  cf := some (fileOf pool11 8 #[] #[] 1537 35 #[] #[])
  fields := #[]
  methods := #[]
  instanceTypes := #[]
  staticTypes := #[]
  resolved := Array.replicate 62 none
  statics := none }

def pool12 : Array CpInfo := pool [(10, .class_ 12), (1, u "java/util/Collection"), (47, .class_ 61), (0, u "java/lang/Object"), (0, .class_ 63), (0, u "java/lang/Iterable")] 51

/-- java/util/Collection -/
def k12 : Class := { plain "java/util/Collection" (some 0) with
  accessFlags := 1537
  interfaces := #[11]
  cf := some (fileOf pool12 10 #[] #[] 1537 60 #[62] #[])
  fields := #[]
  methods := #[]
  instanceTypes := #[]
  staticTypes := #[]
  resolved := Array.replicate 115 none
  statics := none }

def pool13 : Array CpInfo := pool [(1, .methodref 2 3), (0, .class_ 4), (0, .nameAndType 5 6), (0, u "java/lang/Object"), (0, u "<init>"), (0, u "()V"), (1, .class_ 10), (1, u "java/util/AbstractCollection"), (66, .class_ 78), (0, u "java/util/Collection")] 81

def k13c0 : Code := { maxStack := 1, maxLocals := 1, code := jdk_22_method_1_code, exceptionTable := #[], attributes := #[] }
def k13m0 : Method := { name := "<init>", desc := "()V", sig := { parameters := [], returnType := none }, accessFlags := 4, code := some k13c0 }
/-- java/util/AbstractCollection -/
def k13 : Class := { plain "java/util/AbstractCollection" (some 0) with
  accessFlags := 1057
  interfaces := #[12]
  cf := some (fileOf pool13 8 #[] #[{ accessFlags := 4, nameIndex := 5, descriptorIndex := 6, attributes := #[] }] 1057 2 #[77] #[])
  fields := #[]
  methods := #[k13m0]
  instanceTypes := #[]
  staticTypes := #[]
  resolved := Array.replicate 160 none
  statics := none }

def pool14 : Array CpInfo := pool [(8, .class_ 10), (1, u "java/util/SequencedCollection"), (15, .class_ 27), (0, u "java/lang/Object"), (0, .class_ 29), (0, u "java/util/Collection")] 27

/-- java/util/SequencedCollection -/
def k14 : Class := { plain "java/util/SequencedCollection" (some 0) with
  accessFlags := 1537
  interfaces := #[12]
  cf := some (fileOf pool14 8 #[] #[] 1537 26 #[28] #[])
  fields := #[]
  methods := #[]
  instanceTypes := #[]
  staticTypes := #[]
  resolved := Array.replicate 57 none
  statics := none }

def pool15 : Array CpInfo := pool [(8, .class_ 10), (1, u "java/util/List"), (92, .class_ 104), (0, u "java/lang/Object"), (15, .class_ 121), (0, u "java/util/SequencedCollection")] 129

/-- java/util/List -/
def k15 : Class := { plain "java/util/List" (some 0) with
  accessFlags := 1537
  interfaces := #[14]
  cf := some (fileOf pool15 8 #[] #[] 1537 103 #[120] #[])
  fields := #[]
  methods := #[]
  instanceTypes := #[]
  staticTypes := #[]
  resolved := Array.replicate 251 none
  statics := none }

def pool16 : Array CpInfo := pool [(1, .methodref 2 3), (0, .class_ 4), (0, .nameAndType 5 6), (0, u "java/util/AbstractCollection"), (0, u "<init>"), (0, u "()V"), (0, .fieldref 8 9), (0, .class_ 10), (0, .nameAndType 11 12), (0, u "java/util/AbstractList"), (0, u "modCount"), (0, u "I"), (64, .class_ 78), (0, u "java/util/AbstractList$Itr"), (3, .class_ 83), (0, u "java/util/AbstractList$ListItr"), (9, .class_ 94), (0, u "java/util/AbstractList$RandomAccessSubList"), (3, .class_ 99), (0, u "java/util/AbstractList$SubList"), (33, .class_ 134), (0, u "java/util/List"), (73, .class_ 209), (0, u "java/util/AbstractList$SubList$1"), (0, .class_ 211), (0, u "java/util/AbstractList$RandomAccessSpliterator")] 6

def k16c0 : Code := { maxStack := 2, maxLocals := 1, code := jdk_39_method_1_code, exceptionTable := #[], attributes := #[] }
def k16m0 : Method := { name := "<init>", desc := "()V", sig := { parameters := [], returnType := none }, accessFlags := 4, code := some k16c0 }
/-- java/util/AbstractList -/
def k16 : Class := { plain "java/util/AbstractList" (some 13) with
  accessFlags := 1057
  interfaces := #[15]
  cf := some (fileOf pool16 8 #[.nestMembers #[93, 98, 208, 210, 82, 77]] #[{ accessFlags := 4, nameIndex := 5, descriptorIndex := 6, attributes := #[] }] 1057 2 #[133] #[{ accessFlags := 132, nameIndex := 11, descriptorIndex := 12, attributes := #[] }])
  fields := #[{ name := "modCount", type := .int, accessFlags := 132, slot := 0, constantValue := 0 }]
  methods := #[k16m0]
  instanceTypes := #[.int]
  staticTypes := #[]
  resolved := Array.replicate 218 none
  statics := none }

def pool17 : Array CpInfo := pool [(1, .class_ 2), (0, u "java/util/RandomAccess"), (0, .class_ 4), (0, u "java/lang/Object")] 2

/-- java/util/RandomAccess -/
def k17 : Class := { plain "java/util/RandomAccess" (some 0) with
  accessFlags := 1537
  interfaces := #[]
  cf := some (fileOf pool17 1 #[] #[] 1537 3 #[] #[])
  fields := #[]
  methods := #[]
  instanceTypes := #[]
  staticTypes := #[]
  resolved := Array.replicate 7 none
  statics := none }

def pool18 : Array CpInfo := pool [(1, .class_ 2), (0, u "java/lang/Cloneable"), (0, .class_ 4), (0, u "java/lang/Object")] 2

/-- java/lang/Cloneable -/
def k18 : Class := { plain "java/lang/Cloneable" (some 0) with
  accessFlags := 1537
  interfaces := #[]
  cf := some (fileOf pool18 1 #[] #[] 1537 3 #[] #[])
  fields := #[]
  methods := #[]
  instanceTypes := #[]
  staticTypes := #[]
  resolved := Array.replicate 7 none
  statics := none }

def pool19 : Array CpInfo := pool [(1, .methodref 2 3), (0, .class_ 4), (0, .nameAndType 5 6), (0, u "java/util/AbstractList"), (0, u "<init>"), (0, u "()V"), (2, .fieldref 10 11), (0, .class_ 12), (0, .nameAndType 13 14), (0, u "java/util/ArrayList"), (0, u "elementData"), (0, u "[Ljava/lang/Object;"), (2, u "EMPTY_ELEMENTDATA"), (21, .fieldref 10 40), (0, .nameAndType 41 14), (0, u "DEFAULTCAPACITY_EMPTY_ELEMENTDATA"), (8, u "size"), (0, u "I"), (96, .class_ 149), (0, u "java/util/List"), (112, .class_ 263), (0, u "java/util/ArrayList$ListItr"), (3, .class_ 268), (0, u "java/util/ArrayList$Itr"), (7, .class_ 277), (0, u "java/util/ArrayList$SubList"), (12, .class_ 291), (0, u "java/util/ArrayList$ArrayListSpliterator"), (37, .class_ 330), (0, u "java/util/RandomAccess"), (0, .class_ 332), (0, u "java/lang/Cloneable"), (0, .class_ 334), (0, u "java/io/Serializable"), (0, u "serialVersionUID"), (0, u "J"), (3, u "DEFAULT_CAPACITY"), (159, .class_ 501), (0, u "java/util/ArrayList$SubList$2"), (0, .class_ 503), (0, u "java/util/ArrayList$SubList$1")] 5

def k19c0 : Code := { maxStack := 2, maxLocals := 1, code := jdk_38_method_2_code, exceptionTable := #[], attributes := #[] }
def k19m0 : Method := { name := "<init>", desc := "()V", sig := { parameters := [], returnType := none }, accessFlags := 1, code := some k19c0 }
/-- java/util/ArrayList -/
def k19 : Class := { plain "java/util/ArrayList" (some 16) with
  accessFlags := 33
  interfaces := #[15, 17, 18, 2]
  cf := some (fileOf pool19 10 #[.nestMembers #[290, 276, 500, 502, 262, 267]] #[{ accessFlags := 1, nameIndex := 5, descriptorIndex := 6, attributes := #[] }] 33 2 #[148, 329, 331, 333] #[{ accessFlags := 26, nameIndex := 335, descriptorIndex := 336, attributes := #[] }, { accessFlags := 26, nameIndex := 340, descriptorIndex := 51, attributes := #[] }, { accessFlags := 26, nameIndex := 17, descriptorIndex := 14, attributes := #[] }, { accessFlags := 26, nameIndex := 41, descriptorIndex := 14, attributes := #[] }, { accessFlags := 128, nameIndex := 13, descriptorIndex := 14, attributes := #[] }, { accessFlags := 2, nameIndex := 50, descriptorIndex := 51, attributes := #[] }])
  fields := #[{ name := "serialVersionUID", type := .long, accessFlags := 26, slot := 0, constantValue := 0 }, { name := "DEFAULT_CAPACITY", type := .int, accessFlags := 26, slot := 1, constantValue := 0 }, { name := "EMPTY_ELEMENTDATA", type := (.array (.object "java/lang/Object")), accessFlags := 26, slot := 2, constantValue := 0 }, { name := "DEFAULTCAPACITY_EMPTY_ELEMENTDATA", type := (.array (.object "java/lang/Object")), accessFlags := 26, slot := 3, constantValue := 0 }, { name := "elementData", type := (.array (.object "java/lang/Object")), accessFlags := 128, slot := 1, constantValue := 0 }, { name := "size", type := .int, accessFlags := 2, slot := 2, constantValue := 0 }]
  methods := #[k19m0]
  instanceTypes := #[.int, (.array (.object "java/lang/Object")), .int]
  staticTypes := #[.long, .int, (.array (.object "java/lang/Object")), (.array (.object "java/lang/Object"))]
  resolved := Array.replicate 509 none
  statics := some 1 }

def pool20 : Array CpInfo := pool [(1, .methodref 2 3), (0, .class_ 4), (0, .nameAndType 5 6), (0, u "java/lang/Record"), (0, u "<init>"), (0, u "()V"), (0, .fieldref 8 9), (0, .class_ 10), (0, .nameAndType 11 12), (0, u "com/example/tagwright/tagwright/Definition"), (0, u "id"), (0, u "Ljava/lang/String;"), (0, .fieldref 8 14), (0, .nameAndType 15 12), (0, u "className"), (0, .fieldref 8 17), (0, .nameAndType 18 19), (0, u "value"), (0, u "Lcom/example/tagwright/tagwright/Value;"), (0, .fieldref 8 21), (0, .nameAndType 22 23), (0, u "arguments"), (0, u "Ljava/util/List;"), (0, .fieldref 8 25), (0, .nameAndType 26 23), (0, u "properties"), (0, .fieldref 8 28), (0, .nameAndType 29 30), (0, u "lifecycle"), (0, u "Lcom/example/tagwright/tagwright/Definition$Lifecycle;"), (0, .fieldref 8 32), (0, .nameAndType 33 34), (0, u "location"), (0, u "Lcom/example/tagwright/tagwright/Location;"), (0, .fieldref 36 37), (0, .class_ 38), (0, .nameAndType 39 30), (0, u "com/example/tagwright/tagwright/Definition$Lifecycle"), (0, u "PLAIN"), (0, .methodref 8 41), (0, .nameAndType 5 42), (0, u "(Ljava/lang/String;Ljava/lang/String;Lcom/example/tagwright/tagwright/Value;Ljava/util/List;Ljava/util/List;Lcom/example/tagwright/tagwright/Definition$Lifecycle;Lcom/example/tagwright/tagwright/Location;)V"), (5, u "()Ljava/util/List;"), (3, u "()Ljava/lang/String;"), (34, u "(Ljava/lang/String;Ljava/lang/String;Ljava/util/List;Ljava/util/List;Lcom/example/tagwright/tagwright/Location;)V"), (6, u "withId"), (0, u "(Ljava/lang/String;)Lcom/example/tagwright/tagwright/Definition;"), (6, u "()Lcom/example/tagwright/tagwright/Value;"), (2, u "()Lcom/example/tagwright/tagwright/Definition$Lifecycle;"), (0, u "()Lcom/example/tagwright/tagwright/Location;"), (3, .class_ 111), (0, u "com/example/tagwright/tagwright/Definition$Property"), (0, .class_ 113), (0, u "com/example/tagwright/tagwright/Definition$Argument"), (0, .class_ 115), (0, u "com/example/tagwright/tagwright/Definition$Given")] 40

def k20c0 : Code := { maxStack := 8, maxLocals := 6, code := prog_23_method_1_code, exceptionTable := #[], attributes := #[] }
def k20m0 : Method := { name := "<init>", desc := "(Ljava/lang/String;Ljava/lang/String;Ljava/util/List;Ljava/util/List;Lcom/example/tagwright/tagwright/Location;)V", sig := { parameters := [(.object "java/lang/String"), (.object "java/lang/String"), (.object "java/util/List"), (.object "java/util/List"), (.object "com/example/tagwright/tagwright/Location")], returnType := none }, accessFlags := 0, code := some k20c0 }
def k20c1 : Code := { maxStack := 2, maxLocals := 8, code := prog_23_method_2_code, exceptionTable := #[], attributes := #[] }
def k20m1 : Method := { name := "<init>", desc := "(Ljava/lang/String;Ljava/lang/String;Lcom/example/tagwright/tagwright/Value;Ljava/util/List;Ljava/util/List;Lcom/example/tagwright/tagwright/Definition$Lifecycle;Lcom/example/tagwright/tagwright/Location;)V", sig := { parameters := [(.object "java/lang/String"), (.object "java/lang/String"), (.object "com/example/tagwright/tagwright/Value"), (.object "java/util/List"), (.object "java/util/List"), (.object "com/example/tagwright/tagwright/Definition$Lifecycle"), (.object "com/example/tagwright/tagwright/Location")], returnType := none }, accessFlags := 0, code := some k20c1 }
def k20c2 : Code := { maxStack := 9, maxLocals := 2, code := prog_23_method_4_code, exceptionTable := #[], attributes := #[] }
def k20m2 : Method := { name := "withId", desc := "(Ljava/lang/String;)Lcom/example/tagwright/tagwright/Definition;", sig := { parameters := [(.object "java/lang/String")], returnType := some (.object "com/example/tagwright/tagwright/Definition") }, accessFlags := 0, code := some k20c2 }
def k20c3 : Code := { maxStack := 1, maxLocals := 1, code := prog_23_method_10_code, exceptionTable := #[], attributes := #[] }
def k20m3 : Method := { name := "id", desc := "()Ljava/lang/String;", sig := { parameters := [], returnType := some (.object "java/lang/String") }, accessFlags := 1, code := some k20c3 }
def k20c4 : Code := { maxStack := 1, maxLocals := 1, code := prog_23_method_11_code, exceptionTable := #[], attributes := #[] }
def k20m4 : Method := { name := "className", desc := "()Ljava/lang/String;", sig := { parameters := [], returnType := some (.object "java/lang/String") }, accessFlags := 1, code := some k20c4 }
def k20c5 : Code := { maxStack := 1, maxLocals := 1, code := prog_23_method_12_code, exceptionTable := #[], attributes := #[] }
def k20m5 : Method := { name := "value", desc := "()Lcom/example/tagwright/tagwright/Value;", sig := { parameters := [], returnType := some (.object "com/example/tagwright/tagwright/Value") }, accessFlags := 1, code := some k20c5 }
def k20c6 : Code := { maxStack := 1, maxLocals := 1, code := prog_23_method_13_code, exceptionTable := #[], attributes := #[] }
def k20m6 : Method := { name := "arguments", desc := "()Ljava/util/List;", sig := { parameters := [], returnType := some (.object "java/util/List") }, accessFlags := 1, code := some k20c6 }
def k20c7 : Code := { maxStack := 1, maxLocals := 1, code := prog_23_method_14_code, exceptionTable := #[], attributes := #[] }
def k20m7 : Method := { name := "properties", desc := "()Ljava/util/List;", sig := { parameters := [], returnType := some (.object "java/util/List") }, accessFlags := 1, code := some k20c7 }
def k20c8 : Code := { maxStack := 1, maxLocals := 1, code := prog_23_method_15_code, exceptionTable := #[], attributes := #[] }
def k20m8 : Method := { name := "lifecycle", desc := "()Lcom/example/tagwright/tagwright/Definition$Lifecycle;", sig := { parameters := [], returnType := some (.object "com/example/tagwright/tagwright/Definition$Lifecycle") }, accessFlags := 1, code := some k20c8 }
def k20c9 : Code := { maxStack := 1, maxLocals := 1, code := prog_23_method_16_code, exceptionTable := #[], attributes := #[] }
def k20m9 : Method := { name := "location", desc := "()Lcom/example/tagwright/tagwright/Location;", sig := { parameters := [], returnType := some (.object "com/example/tagwright/tagwright/Location") }, accessFlags := 1, code := some k20c9 }
/-- com/example/tagwright/tagwright/Definition -/
def k20 : Class := { plain "com/example/tagwright/tagwright/Definition" (some 9) with
  accessFlags := 48
  interfaces := #[]
  cf := some (fileOf pool20 8 #[.nestMembers #[110, 112, 114, 36]] #[{ accessFlags := 0, nameIndex := 5, descriptorIndex := 87, attributes := #[] }, { accessFlags := 0, nameIndex := 5, descriptorIndex := 42, attributes := #[] }, { accessFlags := 0, nameIndex := 94, descriptorIndex := 95, attributes := #[] }, { accessFlags := 1, nameIndex := 11, descriptorIndex := 52, attributes := #[] }, { accessFlags := 1, nameIndex := 15, descriptorIndex := 52, attributes := #[] }, { accessFlags := 1, nameIndex := 18, descriptorIndex := 102, attributes := #[] }, { accessFlags := 1, nameIndex := 22, descriptorIndex := 48, attributes := #[] }, { accessFlags := 1, nameIndex := 26, descriptorIndex := 48, attributes := #[] }, { accessFlags := 1, nameIndex := 29, descriptorIndex := 105, attributes := #[] }, { accessFlags := 1, nameIndex := 33, descriptorIndex := 106, attributes := #[] }] 48 2 #[] #[{ accessFlags := 18, nameIndex := 11, descriptorIndex := 12, attributes := #[] }, { accessFlags := 18, nameIndex := 15, descriptorIndex := 12, attributes := #[] }, { accessFlags := 18, nameIndex := 18, descriptorIndex := 19, attributes := #[] }, { accessFlags := 18, nameIndex := 22, descriptorIndex := 23, attributes := #[] }, { accessFlags := 18, nameIndex := 26, descriptorIndex := 23, attributes := #[] }, { accessFlags := 18, nameIndex := 29, descriptorIndex := 30, attributes := #[] }, { accessFlags := 18, nameIndex := 33, descriptorIndex := 34, attributes := #[] }])
  fields := #[{ name := "id", type := (.object "java/lang/String"), accessFlags := 18, slot := 0, constantValue := 0 }, { name := "className", type := (.object "java/lang/String"), accessFlags := 18, slot := 1, constantValue := 0 }, { name := "value", type := (.object "com/example/tagwright/tagwright/Value"), accessFlags := 18, slot := 2, constantValue := 0 }, { name := "arguments", type := (.object "java/util/List"), accessFlags := 18, slot := 3, constantValue := 0 }, { name := "properties", type := (.object "java/util/List"), accessFlags := 18, slot := 4, constantValue := 0 }, { name := "lifecycle", type := (.object "com/example/tagwright/tagwright/Definition$Lifecycle"), accessFlags := 18, slot := 5, constantValue := 0 }, { name := "location", type := (.object "com/example/tagwright/tagwright/Location"), accessFlags := 18, slot := 6, constantValue := 0 }]
  methods := #[k20m0, k20m1, k20m2, k20m3, k20m4, k20m5, k20m6, k20m7, k20m8, k20m9]
  instanceTypes := #[(.object "java/lang/String"), (.object "java/lang/String"), (.object "com/example/tagwright/tagwright/Value"), (.object "java/util/List"), (.object "java/util/List"), (.object "com/example/tagwright/tagwright/Definition$Lifecycle"), (.object "com/example/tagwright/tagwright/Location")]
  staticTypes := #[]
  resolved := Array.replicate 156 none
  statics := none }

def pool21 : Array CpInfo := pool [(2, .class_ 4), (1, u "java/lang/Record"), (3, .class_ 10), (1, u "com/example/tagwright/tagwright/Definition$Lifecycle"), (0, u "factoryBean"), (0, u "Ljava/lang/String;"), (2, u "factoryMethod"), (2, u "prototype"), (0, u "Z"), (2, u "lazy"), (2, u "initMethod"), (2, u "destroyMethod"), (2, u "dependsOn"), (0, u "Ljava/util/List;"), (8, u "PLAIN"), (0, u "Lcom/example/tagwright/tagwright/Definition$Lifecycle;"), (21, u "INIT_METHOD"), (3, u "DESTROY_METHOD"), (17, .class_ 87), (0, u "com/example/tagwright/tagwright/Definition")] 25

/-- com/example/tagwright/tagwright/Definition$Lifecycle -/
def k21 : Class := { plain "com/example/tagwright/tagwright/Definition$Lifecycle" (some 9) with
  accessFlags := 48
  interfaces := #[]
  cf := some (fileOf pool21 8 #[.nestHost 86] #[] 48 2 #[] #[{ accessFlags := 18, nameIndex := 11, descriptorIndex := 12, attributes := #[] }, { accessFlags := 18, nameIndex := 15, descriptorIndex := 12, attributes := #[] }, { accessFlags := 18, nameIndex := 18, descriptorIndex := 19, attributes := #[] }, { accessFlags := 18, nameIndex := 22, descriptorIndex := 19, attributes := #[] }, { accessFlags := 18, nameIndex := 25, descriptorIndex := 12, attributes := #[] }, { accessFlags := 18, nameIndex := 28, descriptorIndex := 12, attributes := #[] }, { accessFlags := 18, nameIndex := 31, descriptorIndex := 32, attributes := #[] }, { accessFlags := 24, nameIndex := 64, descriptorIndex := 12, attributes := #[] }, { accessFlags := 24, nameIndex := 68, descriptorIndex := 12, attributes := #[] }, { accessFlags := 24, nameIndex := 41, descriptorIndex := 42, attributes := #[] }])
  fields := #[{ name := "factoryBean", type := (.object "java/lang/String"), accessFlags := 18, slot := 0, constantValue := 0 }, { name := "factoryMethod", type := (.object "java/lang/String"), accessFlags := 18, slot := 1, constantValue := 0 }, { name := "prototype", type := .boolean, accessFlags := 18, slot := 2, constantValue := 0 }, { name := "lazy", type := .boolean, accessFlags := 18, slot := 3, constantValue := 0 }, { name := "initMethod", type := (.object "java/lang/String"), accessFlags := 18, slot := 4, constantValue := 0 }, { name := "destroyMethod", type := (.object "java/lang/String"), accessFlags := 18, slot := 5, constantValue := 0 }, { name := "dependsOn", type := (.object "java/util/List"), accessFlags := 18, slot := 6, constantValue := 0 }, { name := "INIT_METHOD", type := (.object "java/lang/String"), accessFlags := 24, slot := 0, constantValue := 0 }, { name := "DESTROY_METHOD", type := (.object "java/lang/String"), accessFlags := 24, slot := 1, constantValue := 0 }, { name := "PLAIN", type := (.object "com/example/tagwright/tagwright/Definition$Lifecycle"), accessFlags := 24, slot := 2, constantValue := 0 }]
  methods := #[]
  instanceTypes := #[(.object "java/lang/String"), (.object "java/lang/String"), .boolean, .boolean, (.object "java/lang/String"), (.object "java/lang/String"), (.object "java/util/List")]
  staticTypes := #[(.object "java/lang/String"), (.object "java/lang/String"), (.object "com/example/tagwright/tagwright/Definition$Lifecycle")]
  resolved := Array.replicate 113 none
  statics := some 2 }

def pool22 : Array CpInfo := pool [(44, .class_ 45), (0, u "com/example/tagwright/tagwright/Value"), (0, .class_ 47), (0, u "java/lang/Object")] 27

/-- com/example/tagwright/tagwright/Value -/
def k22 : Class := { plain "com/example/tagwright/tagwright/Value" (some 0) with
  accessFlags := 1537
  interfaces := #[]
  cf := some (fileOf pool22 44 #[] #[] 1537 46 #[] #[])
  fields := #[]
  methods := #[]
  instanceTypes := #[]
  staticTypes := #[]
  resolved := Array.replicate 75 none
  statics := none }

def pool23 : Array CpInfo := pool [(1, .methodref 2 3), (0, .class_ 4), (0, .nameAndType 5 6), (0, u "java/lang/Record"), (0, u "<init>"), (0, u "()V"), (14, .class_ 22), (0, u "com/example/tagwright/tagwright/NullValue"), (0, .class_ 24), (0, u "com/example/tagwright/tagwright/Value")] 25

def k23c0 : Code := { maxStack := 1, maxLocals := 1, code := prog_57_method_1_code, exceptionTable := #[], attributes := #[] }
def k23m0 : Method := { name := "<init>", desc := "()V", sig := { parameters := [], returnType := none }, accessFlags := 0, code := some k23c0 }
/-- com/example/tagwright/tagwright/NullValue -/
def k23 : Class := { plain "com/example/tagwright/tagwright/NullValue" (some 9) with
  accessFlags := 48
  interfaces := #[22]
  cf := some (fileOf pool23 21 #[] #[{ accessFlags := 0, nameIndex := 5, descriptorIndex := 6, attributes := #[] }] 48 2 #[23] #[])
  fields := #[]
  methods := #[k23m0]
  instanceTypes := #[]
  staticTypes := #[]
  resolved := Array.replicate 50 none
  statics := none }

def pool24 : Array CpInfo := pool [(4, .class_ 6), (1, u "java/lang/Object"), (0, u "<init>"), (0, u "()V"), (5, .class_ 16), (1, u "java/lang/StringLatin1"), (73, u "canEncode"), (14, u "(C)Z"), (15, u "$assertionsDisabled"), (0, u "Z"), (98, .class_ 223), (1, u "java/lang/StringLatin1$LinesSpliterator"), (156, u "toBytes"), (1, u "(C)[B"), (7, .class_ 391), (0, u "java/lang/StringLatin1$CharsSpliterator")] 3

def k24m0 : Method := { name := "<init>", desc := "()V", sig := { parameters := [], returnType := none }, accessFlags := 0, code := none }
def k24c1 : Code := { maxStack := 2, maxLocals := 1, code := jdk_43_method_3_code, exceptionTable := #[], attributes := #[] }
def k24m1 : Method := { name := "canEncode", desc := "(C)Z", sig := { parameters := [.char], returnType := some .boolean }, accessFlags := 9, code := some k24c1 }
def k24c2 : Code := { maxStack := 4, maxLocals := 1, code := jdk_43_method_46_code, exceptionTable := #[], attributes := #[] }
def k24m2 : Method := { name := "toBytes", desc := "(C)[B", sig := { parameters := [.char], returnType := some (.array .byte) }, accessFlags := 9, code := some k24c2 }
/-- java/lang/StringLatin1 -/
def k24 : Class := { plain "java/lang/StringLatin1" (some 0) with
  accessFlags := 48
  interfaces := #[]
  cf := some (fileOf pool24 14 #[.nestMembers #[390, 221]] #[{ accessFlags := 0, nameIndex := 7, descriptorIndex := 8, attributes := #[] }, { accessFlags := 9, nameIndex := 90, descriptorIndex := 105, attributes := #[] }, { accessFlags := 9, nameIndex := 380, descriptorIndex := 382, attributes := #[] }] 48 4 #[] #[{ accessFlags := 4120, nameIndex := 121, descriptorIndex := 122, attributes := #[] }])
  fields := #[{ name := "$assertionsDisabled", type := .boolean, accessFlags := 4120, slot := 0, constantValue := 0 }]
  methods := #[k24m0, k24m1, k24m2]
  instanceTypes := #[]
  staticTypes := #[.boolean]
  resolved := Array.replicate 395 none
  statics := none }

def pool25 : Array CpInfo := pool [(2, .class_ 4), (1, u "java/lang/Object"), (0, u "<init>"), (0, u "()V"), (17, .class_ 26), (1, u "jdk/internal/util/Preconditions"), (28, .class_ 56), (0, u "jdk/internal/util/Preconditions$4"), (57, .class_ 115), (0, u "jdk/internal/util/Preconditions$1"), (7, u "SIOOBE_FORMATTER"), (0, u "Ljava/util/function/BiFunction;"), (0, .class_ 126), (0, u "jdk/internal/util/Preconditions$2"), (3, u "AIOOBE_FORMATTER"), (0, .class_ 132), (0, u "jdk/internal/util/Preconditions$3"), (3, u "IOOBE_FORMATTER")] 57

def k25m0 : Method := { name := "<init>", desc := "()V", sig := { parameters := [], returnType := none }, accessFlags := 1, code := none }
/-- jdk/internal/util/Preconditions -/
def k25 : Class := { plain "jdk/internal/util/Preconditions" (some 0) with
  accessFlags := 33
  interfaces := #[]
  cf := some (fileOf pool25 24 #[.nestMembers #[55, 131, 125, 114]] #[{ accessFlags := 1, nameIndex := 5, descriptorIndex := 6, attributes := #[] }] 33 2 #[] #[{ accessFlags := 25, nameIndex := 123, descriptorIndex := 124, attributes := #[] }, { accessFlags := 25, nameIndex := 130, descriptorIndex := 124, attributes := #[] }, { accessFlags := 25, nameIndex := 136, descriptorIndex := 124, attributes := #[] }])
  fields := #[{ name := "SIOOBE_FORMATTER", type := (.object "java/util/function/BiFunction"), accessFlags := 25, slot := 0, constantValue := 0 }, { name := "AIOOBE_FORMATTER", type := (.object "java/util/function/BiFunction"), accessFlags := 25, slot := 1, constantValue := 0 }, { name := "IOOBE_FORMATTER", type := (.object "java/util/function/BiFunction"), accessFlags := 25, slot := 2, constantValue := 0 }]
  methods := #[k25m0]
  instanceTypes := #[]
  staticTypes := #[(.object "java/util/function/BiFunction"), (.object "java/util/function/BiFunction"), (.object "java/util/function/BiFunction")]
  resolved := Array.replicate 194 none
  statics := some 3 }

def pool26 : Array CpInfo := pool [(9, u "<init>"), (6, .class_ 18), (1, u "java/lang/Object"), (0, u "()V"), (1, .class_ 23), (1, u "jdk/internal/util/ArraysSupport"), (0, u "LOG2_ARRAY_LONG_INDEX_SCALE"), (0, u "I"), (2, u "U"), (0, u "Ljdk/internal/misc/Unsafe;"), (8, u "BIG_ENDIAN"), (0, u "Z"), (8, u "LOG2_BYTE_BIT_SIZE"), (4, u "LOG2_ARRAY_INT_INDEX_SCALE"), (54, u "JLA"), (0, u "Ljdk/internal/access/JavaLangAccess;"), (11, u "LOG2_ARRAY_BOOLEAN_INDEX_SCALE"), (9, u "LOG2_ARRAY_BYTE_INDEX_SCALE"), (5, u "LOG2_ARRAY_CHAR_INDEX_SCALE"), (5, u "LOG2_ARRAY_SHORT_INDEX_SCALE"), (18, u "LOG2_ARRAY_FLOAT_INDEX_SCALE"), (24, u "LOG2_ARRAY_DOUBLE_INDEX_SCALE"), (89, u "T_BOOLEAN"), (2, u "T_CHAR"), (1, u "T_FLOAT"), (1, u "T_DOUBLE"), (1, u "T_BYTE"), (1, u "T_SHORT"), (1, u "T_INT"), (1, u "T_LONG"), (1, u "SOFT_MAX_ARRAY_LENGTH")] 83

def k26m0 : Method := { name := "<init>", desc := "()V", sig := { parameters := [], returnType := none }, accessFlags := 2, code := none }
/-- jdk/internal/util/ArraysSupport -/
def k26 : Class := { plain "jdk/internal/util/ArraysSupport" (some 0) with
  accessFlags := 33
  interfaces := #[]
  cf := some (fileOf pool26 21 #[] #[{ accessFlags := 2, nameIndex := 9, descriptorIndex := 19, attributes := #[] }] 33 16 #[] #[{ accessFlags := 24, nameIndex := 28, descriptorIndex := 29, attributes := #[] }, { accessFlags := 26, nameIndex := 38, descriptorIndex := 39, attributes := #[] }, { accessFlags := 25, nameIndex := 121, descriptorIndex := 25, attributes := #[] }, { accessFlags := 25, nameIndex := 131, descriptorIndex := 25, attributes := #[] }, { accessFlags := 25, nameIndex := 137, descriptorIndex := 25, attributes := #[] }, { accessFlags := 25, nameIndex := 143, descriptorIndex := 25, attributes := #[] }, { accessFlags := 25, nameIndex := 53, descriptorIndex := 25, attributes := #[] }, { accessFlags := 25, nameIndex := 24, descriptorIndex := 25, attributes := #[] }, { accessFlags := 25, nameIndex := 162, descriptorIndex := 25, attributes := #[] }, { accessFlags := 25, nameIndex := 187, descriptorIndex := 25, attributes := #[] }, { accessFlags := 26, nameIndex := 48, descriptorIndex := 25, attributes := #[] }, { accessFlags := 25, nameIndex := 277, descriptorIndex := 25, attributes := #[] }, { accessFlags := 25, nameIndex := 280, descriptorIndex := 25, attributes := #[] }, { accessFlags := 25, nameIndex := 282, descriptorIndex := 25, attributes := #[] }, { accessFlags := 25, nameIndex := 284, descriptorIndex := 25, attributes := #[] }, { accessFlags := 25, nameIndex := 286, descriptorIndex := 25, attributes := #[] }, { accessFlags := 25, nameIndex := 288, descriptorIndex := 25, attributes := #[] }, { accessFlags := 25, nameIndex := 290, descriptorIndex := 25, attributes := #[] }, { accessFlags := 25, nameIndex := 292, descriptorIndex := 25, attributes := #[] }, { accessFlags := 26, nameIndex := 108, descriptorIndex := 109, attributes := #[] }, { accessFlags := 25, nameIndex := 294, descriptorIndex := 25, attributes := #[] }])
  fields := #[{ name := "U", type := (.object "jdk/internal/misc/Unsafe"), accessFlags := 24, slot := 0, constantValue := 0 }, { name := "BIG_ENDIAN", type := .boolean, accessFlags := 26, slot := 1, constantValue := 0 }, { name := "LOG2_ARRAY_BOOLEAN_INDEX_SCALE", type := .int, accessFlags := 25, slot := 2, constantValue := 0 }, { name := "LOG2_ARRAY_BYTE_INDEX_SCALE", type := .int, accessFlags := 25, slot := 3, constantValue := 0 }, { name := "LOG2_ARRAY_CHAR_INDEX_SCALE", type := .int, accessFlags := 25, slot := 4, constantValue := 0 }, { name := "LOG2_ARRAY_SHORT_INDEX_SCALE", type := .int, accessFlags := 25, slot := 5, constantValue := 0 }, { name := "LOG2_ARRAY_INT_INDEX_SCALE", type := .int, accessFlags := 25, slot := 6, constantValue := 0 }, { name := "LOG2_ARRAY_LONG_INDEX_SCALE", type := .int, accessFlags := 25, slot := 7, constantValue := 0 }, { name := "LOG2_ARRAY_FLOAT_INDEX_SCALE", type := .int, accessFlags := 25, slot := 8, constantValue := 0 }, { name := "LOG2_ARRAY_DOUBLE_INDEX_SCALE", type := .int, accessFlags := 25, slot := 9, constantValue := 0 }, { name := "LOG2_BYTE_BIT_SIZE", type := .int, accessFlags := 26, slot := 10, constantValue := 0 }, { name := "T_BOOLEAN", type := .int, accessFlags := 25, slot := 11, constantValue := 0 }, { name := "T_CHAR", type := .int, accessFlags := 25, slot := 12, constantValue := 0 }, { name := "T_FLOAT", type := .int, accessFlags := 25, slot := 13, constantValue := 0 }, { name := "T_DOUBLE", type := .int, accessFlags := 25, slot := 14, constantValue := 0 }, { name := "T_BYTE", type := .int, accessFlags := 25, slot := 15, constantValue := 0 }, { name := "T_SHORT", type := .int, accessFlags := 25, slot := 16, constantValue := 0 }, { name := "T_INT", type := .int, accessFlags := 25, slot := 17, constantValue := 0 }, { name := "T_LONG", type := .int, accessFlags := 25, slot := 18, constantValue := 0 }, { name := "JLA", type := (.object "jdk/internal/access/JavaLangAccess"), accessFlags := 26, slot := 19, constantValue := 0 }, { name := "SOFT_MAX_ARRAY_LENGTH", type := .int, accessFlags := 25, slot := 20, constantValue := 0 }]
  methods := #[k26m0]
  instanceTypes := #[]
  staticTypes := #[(.object "jdk/internal/misc/Unsafe"), .boolean, .int, .int, .int, .int, .int, .int, .int, .int, .int, .int, .int, .int, .int, .int, .int, .int, .int, (.object "jdk/internal/access/JavaLangAccess"), .int]
  resolved := Array.replicate 378 none
  statics := none }

/-- the primitive byte -/
def k27 : Class := { plain "byte" none with kind := .primitive 'B', accessFlags := 0x411 }
/-- [B -/
def k28 : Class := { plain "[B" (some 0) with kind := .array 27 .byte, interfaces := #[18, 2], accessFlags := 1041 }

/-- the primitive char -/
def k29 : Class := { plain "char" none with kind := .primitive 'C', accessFlags := 0x411 }
/-- [C -/
def k30 : Class := { plain "[C" (some 0) with kind := .array 29 .char, interfaces := #[18, 2], accessFlags := 1041 }

/-- the primitive int -/
def k31 : Class := { plain "int" none with kind := .primitive 'I', accessFlags := 0x411 }
/-- [I -/
def k32 : Class := { plain "[I" (some 0) with kind := .array 31 .int, interfaces := #[18, 2], accessFlags := 1041 }

/-- [Ljava/lang/Object; -/
def k33 : Class := { plain "[Ljava/lang/Object;" (some 0) with kind := .array 0 (.object "java/lang/Object"), interfaces := #[18, 2], accessFlags := 1041 }

def heap : Heap := #[{ cls := 7, slots := #[.long 0, .int 1, .null, .int 0, .null, .int 0, .int 0], vm := .statics 7 },
  { cls := 19, slots := #[.long 0, .int 0, .ref 5, .ref 6], vm := .statics 19 },
  { cls := 21, slots := #[.null, .null, .ref 4], vm := .statics 21 },
  { cls := 25, slots := #[.null, .null, .null], vm := .statics 25 },
  { cls := 21, slots := #[.null, .null, .int 0, .int 0, .null, .null, .null], vm := .none },
  { cls := 33, slots := #[], vm := .none },
  { cls := 33, slots := #[], vm := .none }]
def classes : Array Class := #[k0, k1, k2, k3, k4, k5, k6, k7, k8, k9, k10, k11, k12, k13, k14, k15, k16, k17, k18, k19, k20, k21, k22, k23, k24, k25, k26, k27, k28, k29, k30, k31, k32, k33]
def interned : List (Array UInt16 × Addr) := []
def slotsUsed : Nat := 24
def theMethod : MethodId := ⟨1, 2⟩
def args0 : Array Value := #[.int 5, .int 6, .int 7, .int 8, .int 9, .int 10]
def aboutOver (below : List Frame) : State where
  vm := { classes := classes, interned := interned.toArray }
  heap := heap
  slotsUsed := slotsUsed
  threads := #[{ frames := .invoking theMethod args0 :: below }]
def below0 : List Frame := [.native { method := ⟨0, 0⟩, args := #[] }]
def about1 : State := aboutOver below0
def p0 : Program := .bare "" "" ""
def e0 : Env := launch0.env 0 0 0
theorem w_frames : about1.frames = Frame.invoking theMethod args0 :: below0 := rfl
set_option maxRecDepth 65536 in
theorem w_args : argsFit about1.vm theMethod args0 = true := by decide +kernel
set_option maxRecDepth 65536 in
theorem w_heap : heapFits about1 = true := by decide +kernel
set_option maxRecDepth 65536 in
theorem w_runnable : about1.curStatus? = some .runnable := by decide +kernel
set_option maxRecDepth 65536 in
theorem w_alone : about1.alone = true := by decide +kernel
set_option maxRecDepth 65536 in
theorem w_named : about1.methodNamed? x = some theMethod := by decide +kernel
set_option maxRecDepth 65536 in
theorem w_hears : about1.hears theMethod below0 = true := by decide +kernel
set_option maxRecDepth 65536 in
theorem w_ripe : about1.ripe theMethod args0 below0 = true := by decide +kernel
theorem w_running : about1.status = .running := rfl
set_option maxRecDepth 65536 in
theorem w_room : about1.hasRoom e0.platform room_1 = true :=
  launch0.hasRoom_least _ room_1 (by decide +kernel) (by decide +kernel) (by decide +kernel) (by decide +kernel) (by decide +kernel) (by decide +kernel)
theorem allAtoms_all (ts : List Jvm.Cond) (a : Array Jvm.Value) (st : Jvm.State) : (allAtoms ts).before a st = ts.all (fun c => c.before a st) := by
  induction ts with
  | nil => rfl
  | cons c t ih =>
    show (Jvm.Cond.and c (allAtoms t)).before a st = _
    rw [Jvm.Cond.before_and, ih, List.all_cons]
def words1 : List Jvm.Cond := Jvm.Cond.code x code maxLocals ret :: tables_1
/-- a 'code' word, met by the world's own term for the bytes: nothing is compared byte by byte -/
theorem code_word {y : MethodName} {bytes : ByteArray} {mx : Nat} {rt : Option FieldType} {a : Array Value} {s : State} {m : MethodId} {meth : Method} {c : Code} (h1 : s.methodNamed? y = some m) (h2 : s.vm.method? m = some meth) (h3 : meth.code = some c) (h4 : c.code = bytes)
    (h5 : (c.maxLocals == mx && c.exceptionTable.isEmpty && decide (c.maxStack ≤ mostOperands) && decide (meth.sig.returnType = rt) && !meth.locks && decide (parseMethodDescriptor y.desc = some meth.sig)) = true) : (Jvm.Cond.code y bytes mx rt).before a s = true := by
  simp only [Bool.and_eq_true, beq_iff_eq, Bool.not_eq_true', decide_eq_true_eq] at h5
  obtain ⟨⟨⟨⟨⟨g1, g2⟩, g3⟩, g4⟩, g5⟩, g6⟩ := h5
  simp [Cond.before, Cond.holds, Cond.value, h1, h2, h3, h4, g1, g2, g3, g4, g5, g6]
def isCode : Jvm.Cond → Bool
  | .code _ _ _ _ => true
  | _ => false
theorem all_split {L : List Jvm.Cond} {P : Jvm.Cond → Bool} (h1 : L.all (fun c => isCode c || P c) = true) (h2 : ∀ c ∈ L.filter isCode, P c = true) : L.all P = true := by
  refine List.all_eq_true.mpr fun c hc => ?_
  have h := List.all_eq_true.mp h1 c hc
  rcases Bool.eq_false_or_eq_true (isCode c) with hi | hi
  · exact h2 c (List.mem_filter.mpr ⟨hc, hi⟩)
  · simpa [hi] using h
set_option maxRecDepth 65536 in
theorem w_c0 : (Jvm.Cond.code x code maxLocals ret).before args0 about1 = true := code_word (m := ⟨1, 2⟩) (meth := k1m2) (c := k1c2) (by decide +kernel) rfl rfl rfl (by decide +kernel)
set_option maxRecDepth 65536 in
theorem w_c1 : (Jvm.Cond.code ({ cls := "com/example/tagwright/tagwright/DefinitionWithIdPinLaw", name := "str", desc := "(I)Ljava/lang/String;" } : Jvm.MethodName) method_2_code (5 : Nat) (Option.some (Jvm.ClassFile.FieldType.object "java/lang/String"))).before args0 about1 = true := code_word (m := ⟨1, 1⟩) (meth := k1m1) (c := k1c1) (by decide +kernel) rfl rfl rfl (by decide +kernel)
set_option maxRecDepth 65536 in
theorem w_c2 : (Jvm.Cond.code ({ cls := "java/lang/String", name := "<init>", desc := "([C)V" } : Jvm.MethodName) jdk_42_method_3_code (2 : Nat) (Option.none : Option Jvm.ClassFile.FieldType)).before args0 about1 = true := code_word (m := ⟨7, 1⟩) (meth := k7m1) (c := k7c1) (by decide +kernel) rfl rfl rfl (by decide +kernel)
set_option maxRecDepth 65536 in
theorem w_c3 : (Jvm.Cond.code ({ cls := "java/lang/String", name := "<init>", desc := "([CIILjava/lang/Void;)V" } : Jvm.MethodName) jdk_42_method_149_code (6 : Nat) (Option.none : Option Jvm.ClassFile.FieldType)).before args0 about1 = true := code_word (m := ⟨7, 3⟩) (meth := k7m3) (c := k7c3) (by decide +kernel) rfl rfl rfl (by decide +kernel)
set_option maxRecDepth 65536 in
theorem w_c4 : (Jvm.Cond.code ({ cls := "java/lang/Object", name := "<init>", desc := "()V" } : Jvm.MethodName) object_method_1_code (1 : Nat) (Option.none : Option Jvm.ClassFile.FieldType)).before args0 about1 = true := code_word (m := ⟨0, 0⟩) (meth := k0m0) (c := k0c0) (by decide +kernel) rfl rfl rfl (by decide +kernel)
set_option maxRecDepth 65536 in
theorem w_c5 : (Jvm.Cond.code ({ cls := "java/lang/StringUTF16", name := "compress", desc := "([CII)[B" } : Jvm.MethodName) jdk_52_method_16_code (6 : Nat) (Option.some (Jvm.ClassFile.FieldType.array Jvm.ClassFile.FieldType.byte))).before args0 about1 = true := code_word (m := ⟨8, 2⟩) (meth := k8m2) (c := k8c2) (by decide +kernel) rfl rfl rfl (by decide +kernel)
set_option maxRecDepth 65536 in
theorem w_c6 : (Jvm.Cond.code ({ cls := "java/lang/StringUTF16", name := "compress", desc := "([CI[BII)I" } : Jvm.MethodName) jdk_52_method_21_code (7 : Nat) (Option.some Jvm.ClassFile.FieldType.int)).before args0 about1 = true := code_word (m := ⟨8, 3⟩) (meth := k8m3) (c := k8c3) (by decide +kernel) rfl rfl rfl (by decide +kernel)
set_option maxRecDepth 65536 in
theorem w_c7 : (Jvm.Cond.code ({ cls := "java/lang/StringUTF16", name := "coderFromArrayLen", desc := "([BI)B" } : Jvm.MethodName) jdk_52_method_15_code (2 : Nat) (Option.some Jvm.ClassFile.FieldType.byte)).before args0 about1 = true := code_word (m := ⟨8, 1⟩) (meth := k8m1) (c := k8c1) (by decide +kernel) rfl rfl rfl (by decide +kernel)
set_option maxRecDepth 65536 in
theorem w_c8 : (Jvm.Cond.code ({ cls := "com/example/tagwright/tagwright/Location", name := "<init>", desc := "(Ljava/lang/String;II)V" } : Jvm.MethodName) prog_48_method_1_code (4 : Nat) (Option.none : Option Jvm.ClassFile.FieldType)).before args0 about1 = true := code_word (m := ⟨10, 0⟩) (meth := k10m0) (c := k10c0) (by decide +kernel) rfl rfl rfl (by decide +kernel)
set_option maxRecDepth 65536 in
theorem w_c9 : (Jvm.Cond.code ({ cls := "java/lang/Record", name := "<init>", desc := "()V" } : Jvm.MethodName) jdk_30_method_1_code (1 : Nat) (Option.none : Option Jvm.ClassFile.FieldType)).before args0 about1 = true := code_word (m := ⟨9, 0⟩) (meth := k9m0) (c := k9c0) (by decide +kernel) rfl rfl rfl (by decide +kernel)
set_option maxRecDepth 65536 in
theorem w_c10 : (Jvm.Cond.code ({ cls := "java/util/ArrayList", name := "<init>", desc := "()V" } : Jvm.MethodName) jdk_38_method_2_code (1 : Nat) (Option.none : Option Jvm.ClassFile.FieldType)).before args0 about1 = true := code_word (m := ⟨19, 0⟩) (meth := k19m0) (c := k19c0) (by decide +kernel) rfl rfl rfl (by decide +kernel)
set_option maxRecDepth 65536 in
theorem w_c11 : (Jvm.Cond.code ({ cls := "java/util/AbstractList", name := "<init>", desc := "()V" } : Jvm.MethodName) jdk_39_method_1_code (1 : Nat) (Option.none : Option Jvm.ClassFile.FieldType)).before args0 about1 = true := code_word (m := ⟨16, 0⟩) (meth := k16m0) (c := k16c0) (by decide +kernel) rfl rfl rfl (by decide +kernel)
set_option maxRecDepth 65536 in
theorem w_c12 : (Jvm.Cond.code ({ cls := "java/util/AbstractCollection", name := "<init>", desc := "()V" } : Jvm.MethodName) jdk_22_method_1_code (1 : Nat) (Option.none : Option Jvm.ClassFile.FieldType)).before args0 about1 = true := code_word (m := ⟨13, 0⟩) (meth := k13m0) (c := k13c0) (by decide +kernel) rfl rfl rfl (by decide +kernel)
set_option maxRecDepth 65536 in
theorem w_c13 : (Jvm.Cond.code ({ cls := "com/example/tagwright/tagwright/Definition", name := "<init>", desc := "(Ljava/lang/String;Ljava/lang/String;Ljava/util/List;Ljava/util/List;Lcom/example/tagwright/tagwright/Location;)V" } : Jvm.MethodName) prog_23_method_1_code (6 : Nat) (Option.none : Option Jvm.ClassFile.FieldType)).before args0 about1 = true := code_word (m := ⟨20, 0⟩) (meth := k20m0) (c := k20c0) (by decide +kernel) rfl rfl rfl (by decide +kernel)
set_option maxRecDepth 65536 in
theorem w_c14 : (Jvm.Cond.code ({ cls := "com/example/tagwright/tagwright/Definition", name := "<init>", desc := "(Ljava/lang/String;Ljava/lang/String;Lcom/example/tagwright/tagwright/Value;Ljava/util/List;Ljava/util/List;Lcom/example/tagwright/tagwright/Definition$Lifecycle;Lcom/example/tagwright/tagwright/Location;)V" } : Jvm.MethodName) prog_23_method_2_code (8 : Nat) (Option.none : Option Jvm.ClassFile.FieldType)).before args0 about1 = true := code_word (m := ⟨20, 1⟩) (meth := k20m1) (c := k20c1) (by decide +kernel) rfl rfl rfl (by decide +kernel)
set_option maxRecDepth 65536 in
theorem w_c15 : (Jvm.Cond.code ({ cls := "com/example/tagwright/tagwright/NullValue", name := "<init>", desc := "()V" } : Jvm.MethodName) prog_57_method_1_code (1 : Nat) (Option.none : Option Jvm.ClassFile.FieldType)).before args0 about1 = true := code_word (m := ⟨23, 0⟩) (meth := k23m0) (c := k23c0) (by decide +kernel) rfl rfl rfl (by decide +kernel)
set_option maxRecDepth 65536 in
theorem w_c16 : (Jvm.Cond.code ({ cls := "com/example/tagwright/tagwright/Definition", name := "lifecycle", desc := "()Lcom/example/tagwright/tagwright/Definition$Lifecycle;" } : Jvm.MethodName) prog_23_method_15_code (1 : Nat) (Option.some (Jvm.ClassFile.FieldType.object "com/example/tagwright/tagwright/Definition$Lifecycle"))).before args0 about1 = true := code_word (m := ⟨20, 8⟩) (meth := k20m8) (c := k20c8) (by decide +kernel) rfl rfl rfl (by decide +kernel)
set_option maxRecDepth 65536 in
theorem w_c17 : (Jvm.Cond.code ({ cls := "com/example/tagwright/tagwright/Definition", name := "withId", desc := "(Ljava/lang/String;)Lcom/example/tagwright/tagwright/Definition;" } : Jvm.MethodName) prog_23_method_4_code (2 : Nat) (Option.some (Jvm.ClassFile.FieldType.object "com/example/tagwright/tagwright/Definition"))).before args0 about1 = true := code_word (m := ⟨20, 2⟩) (meth := k20m2) (c := k20c2) (by decide +kernel) rfl rfl rfl (by decide +kernel)
set_option maxRecDepth 65536 in
theorem w_c18 : (Jvm.Cond.code ({ cls := "com/example/tagwright/tagwright/Definition", name := "id", desc := "()Ljava/lang/String;" } : Jvm.MethodName) prog_23_method_10_code (1 : Nat) (Option.some (Jvm.ClassFile.FieldType.object "java/lang/String"))).before args0 about1 = true := code_word (m := ⟨20, 3⟩) (meth := k20m3) (c := k20c3) (by decide +kernel) rfl rfl rfl (by decide +kernel)
set_option maxRecDepth 65536 in
theorem w_c19 : (Jvm.Cond.code ({ cls := "com/example/tagwright/tagwright/Definition", name := "className", desc := "()Ljava/lang/String;" } : Jvm.MethodName) prog_23_method_11_code (1 : Nat) (Option.some (Jvm.ClassFile.FieldType.object "java/lang/String"))).before args0 about1 = true := code_word (m := ⟨20, 4⟩) (meth := k20m4) (c := k20c4) (by decide +kernel) rfl rfl rfl (by decide +kernel)
set_option maxRecDepth 65536 in
theorem w_c20 : (Jvm.Cond.code ({ cls := "com/example/tagwright/tagwright/Definition", name := "value", desc := "()Lcom/example/tagwright/tagwright/Value;" } : Jvm.MethodName) prog_23_method_12_code (1 : Nat) (Option.some (Jvm.ClassFile.FieldType.object "com/example/tagwright/tagwright/Value"))).before args0 about1 = true := code_word (m := ⟨20, 5⟩) (meth := k20m5) (c := k20c5) (by decide +kernel) rfl rfl rfl (by decide +kernel)
set_option maxRecDepth 65536 in
theorem w_c21 : (Jvm.Cond.code ({ cls := "com/example/tagwright/tagwright/Definition", name := "arguments", desc := "()Ljava/util/List;" } : Jvm.MethodName) prog_23_method_13_code (1 : Nat) (Option.some (Jvm.ClassFile.FieldType.object "java/util/List"))).before args0 about1 = true := code_word (m := ⟨20, 6⟩) (meth := k20m6) (c := k20c6) (by decide +kernel) rfl rfl rfl (by decide +kernel)
set_option maxRecDepth 65536 in
theorem w_c22 : (Jvm.Cond.code ({ cls := "com/example/tagwright/tagwright/Definition", name := "properties", desc := "()Ljava/util/List;" } : Jvm.MethodName) prog_23_method_14_code (1 : Nat) (Option.some (Jvm.ClassFile.FieldType.object "java/util/List"))).before args0 about1 = true := code_word (m := ⟨20, 7⟩) (meth := k20m7) (c := k20c7) (by decide +kernel) rfl rfl rfl (by decide +kernel)
set_option maxRecDepth 65536 in
theorem w_c23 : (Jvm.Cond.code ({ cls := "com/example/tagwright/tagwright/Definition", name := "location", desc := "()Lcom/example/tagwright/tagwright/Location;" } : Jvm.MethodName) prog_23_method_16_code (1 : Nat) (Option.some (Jvm.ClassFile.FieldType.object "com/example/tagwright/tagwright/Location"))).before args0 about1 = true := code_word (m := ⟨20, 9⟩) (meth := k20m9) (c := k20c9) (by decide +kernel) rfl rfl rfl (by decide +kernel)
set_option maxRecDepth 65536 in
theorem w_c24 : (Jvm.Cond.code ({ cls := "java/lang/String", name := "valueOf", desc := "(C)Ljava/lang/String;" } : Jvm.MethodName) jdk_42_method_139_code (1 : Nat) (Option.some (Jvm.ClassFile.FieldType.object "java/lang/String"))).before args0 about1 = true := code_word (m := ⟨7, 2⟩) (meth := k7m2) (c := k7c2) (by decide +kernel) rfl rfl rfl (by decide +kernel)
set_option maxRecDepth 65536 in
theorem w_c25 : (Jvm.Cond.code ({ cls := "java/lang/StringLatin1", name := "canEncode", desc := "(C)Z" } : Jvm.MethodName) jdk_43_method_3_code (1 : Nat) (Option.some Jvm.ClassFile.FieldType.boolean)).before args0 about1 = true := code_word (m := ⟨24, 1⟩) (meth := k24m1) (c := k24c1) (by decide +kernel) rfl rfl rfl (by decide +kernel)
set_option maxRecDepth 65536 in
theorem w_c26 : (Jvm.Cond.code ({ cls := "java/lang/StringLatin1", name := "toBytes", desc := "(C)[B" } : Jvm.MethodName) jdk_43_method_46_code (1 : Nat) (Option.some (Jvm.ClassFile.FieldType.array Jvm.ClassFile.FieldType.byte))).before args0 about1 = true := code_word (m := ⟨24, 2⟩) (meth := k24m2) (c := k24c2) (by decide +kernel) rfl rfl rfl (by decide +kernel)
set_option maxRecDepth 65536 in
theorem w_c27 : (Jvm.Cond.code ({ cls := "java/lang/String", name := "<init>", desc := "([BB)V" } : Jvm.MethodName) jdk_42_method_151_code (3 : Nat) (Option.none : Option Jvm.ClassFile.FieldType)).before args0 about1 = true := code_word (m := ⟨7, 4⟩) (meth := k7m4) (c := k7c4) (by decide +kernel) rfl rfl rfl (by decide +kernel)
def codes1 : List Jvm.Cond := [Jvm.Cond.code x code maxLocals ret, Jvm.Cond.code ({ cls := "com/example/tagwright/tagwright/DefinitionWithIdPinLaw", name := "str", desc := "(I)Ljava/lang/String;" } : Jvm.MethodName) method_2_code (5 : Nat) (Option.some (Jvm.ClassFile.FieldType.object "java/lang/String")), Jvm.Cond.code ({ cls := "java/lang/String", name := "<init>", desc := "([C)V" } : Jvm.MethodName) jdk_42_method_3_code (2 : Nat) (Option.none : Option Jvm.ClassFile.FieldType), Jvm.Cond.code ({ cls := "java/lang/String", name := "<init>", desc := "([CIILjava/lang/Void;)V" } : Jvm.MethodName) jdk_42_method_149_code (6 : Nat) (Option.none : Option Jvm.ClassFile.FieldType), Jvm.Cond.code ({ cls := "java/lang/Object", name := "<init>", desc := "()V" } : Jvm.MethodName) object_method_1_code (1 : Nat) (Option.none : Option Jvm.ClassFile.FieldType), Jvm.Cond.code ({ cls := "java/lang/StringUTF16", name := "compress", desc := "([CII)[B" } : Jvm.MethodName) jdk_52_method_16_code (6 : Nat) (Option.some (Jvm.ClassFile.FieldType.array Jvm.ClassFile.FieldType.byte)), Jvm.Cond.code ({ cls := "java/lang/StringUTF16", name := "compress", desc := "([CI[BII)I" } : Jvm.MethodName) jdk_52_method_21_code (7 : Nat) (Option.some Jvm.ClassFile.FieldType.int), Jvm.Cond.code ({ cls := "java/lang/StringUTF16", name := "coderFromArrayLen", desc := "([BI)B" } : Jvm.MethodName) jdk_52_method_15_code (2 : Nat) (Option.some Jvm.ClassFile.FieldType.byte), Jvm.Cond.code ({ cls := "com/example/tagwright/tagwright/Location", name := "<init>", desc := "(Ljava/lang/String;II)V" } : Jvm.MethodName) prog_48_method_1_code (4 : Nat) (Option.none : Option Jvm.ClassFile.FieldType), Jvm.Cond.code ({ cls := "java/lang/Record", name := "<init>", desc := "()V" } : Jvm.MethodName) jdk_30_method_1_code (1 : Nat) (Option.none : Option Jvm.ClassFile.FieldType), Jvm.Cond.code ({ cls := "java/util/ArrayList", name := "<init>", desc := "()V" } : Jvm.MethodName) jdk_38_method_2_code (1 : Nat) (Option.none : Option Jvm.ClassFile.FieldType), Jvm.Cond.code ({ cls := "java/util/AbstractList", name := "<init>", desc := "()V" } : Jvm.MethodName) jdk_39_method_1_code (1 : Nat) (Option.none : Option Jvm.ClassFile.FieldType), Jvm.Cond.code ({ cls := "java/util/AbstractCollection", name := "<init>", desc := "()V" } : Jvm.MethodName) jdk_22_method_1_code (1 : Nat) (Option.none : Option Jvm.ClassFile.FieldType), Jvm.Cond.code ({ cls := "com/example/tagwright/tagwright/Definition", name := "<init>", desc := "(Ljava/lang/String;Ljava/lang/String;Ljava/util/List;Ljava/util/List;Lcom/example/tagwright/tagwright/Location;)V" } : Jvm.MethodName) prog_23_method_1_code (6 : Nat) (Option.none : Option Jvm.ClassFile.FieldType), Jvm.Cond.code ({ cls := "com/example/tagwright/tagwright/Definition", name := "<init>", desc := "(Ljava/lang/String;Ljava/lang/String;Lcom/example/tagwright/tagwright/Value;Ljava/util/List;Ljava/util/List;Lcom/example/tagwright/tagwright/Definition$Lifecycle;Lcom/example/tagwright/tagwright/Location;)V" } : Jvm.MethodName) prog_23_method_2_code (8 : Nat) (Option.none : Option Jvm.ClassFile.FieldType), Jvm.Cond.code ({ cls := "com/example/tagwright/tagwright/NullValue", name := "<init>", desc := "()V" } : Jvm.MethodName) prog_57_method_1_code (1 : Nat) (Option.none : Option Jvm.ClassFile.FieldType), Jvm.Cond.code ({ cls := "com/example/tagwright/tagwright/Definition", name := "lifecycle", desc := "()Lcom/example/tagwright/tagwright/Definition$Lifecycle;" } : Jvm.MethodName) prog_23_method_15_code (1 : Nat) (Option.some (Jvm.ClassFile.FieldType.object "com/example/tagwright/tagwright/Definition$Lifecycle")), Jvm.Cond.code ({ cls := "com/example/tagwright/tagwright/Definition", name := "withId", desc := "(Ljava/lang/String;)Lcom/example/tagwright/tagwright/Definition;" } : Jvm.MethodName) prog_23_method_4_code (2 : Nat) (Option.some (Jvm.ClassFile.FieldType.object "com/example/tagwright/tagwright/Definition")), Jvm.Cond.code ({ cls := "com/example/tagwright/tagwright/Definition", name := "id", desc := "()Ljava/lang/String;" } : Jvm.MethodName) prog_23_method_10_code (1 : Nat) (Option.some (Jvm.ClassFile.FieldType.object "java/lang/String")), Jvm.Cond.code ({ cls := "com/example/tagwright/tagwright/Definition", name := "className", desc := "()Ljava/lang/String;" } : Jvm.MethodName) prog_23_method_11_code (1 : Nat) (Option.some (Jvm.ClassFile.FieldType.object "java/lang/String")), Jvm.Cond.code ({ cls := "com/example/tagwright/tagwright/Definition", name := "value", desc := "()Lcom/example/tagwright/tagwright/Value;" } : Jvm.MethodName) prog_23_method_12_code (1 : Nat) (Option.some (Jvm.ClassFile.FieldType.object "com/example/tagwright/tagwright/Value")), Jvm.Cond.code ({ cls := "com/example/tagwright/tagwright/Definition", name := "arguments", desc := "()Ljava/util/List;" } : Jvm.MethodName) prog_23_method_13_code (1 : Nat) (Option.some (Jvm.ClassFile.FieldType.object "java/util/List")), Jvm.Cond.code ({ cls := "com/example/tagwright/tagwright/Definition", name := "properties", desc := "()Ljava/util/List;" } : Jvm.MethodName) prog_23_method_14_code (1 : Nat) (Option.some (Jvm.ClassFile.FieldType.object "java/util/List")), Jvm.Cond.code ({ cls := "com/example/tagwright/tagwright/Definition", name := "location", desc := "()Lcom/example/tagwright/tagwright/Location;" } : Jvm.MethodName) prog_23_method_16_code (1 : Nat) (Option.some (Jvm.ClassFile.FieldType.object "com/example/tagwright/tagwright/Location")), Jvm.Cond.code ({ cls := "java/lang/String", name := "valueOf", desc := "(C)Ljava/lang/String;" } : Jvm.MethodName) jdk_42_method_139_code (1 : Nat) (Option.some (Jvm.ClassFile.FieldType.object "java/lang/String")), Jvm.Cond.code ({ cls := "java/lang/StringLatin1", name := "canEncode", desc := "(C)Z" } : Jvm.MethodName) jdk_43_method_3_code (1 : Nat) (Option.some Jvm.ClassFile.FieldType.boolean), Jvm.Cond.code ({ cls := "java/lang/StringLatin1", name := "toBytes", desc := "(C)[B" } : Jvm.MethodName) jdk_43_method_46_code (1 : Nat) (Option.some (Jvm.ClassFile.FieldType.array Jvm.ClassFile.FieldType.byte)), Jvm.Cond.code ({ cls := "java/lang/String", name := "<init>", desc := "([BB)V" } : Jvm.MethodName) jdk_42_method_151_code (3 : Nat) (Option.none : Option Jvm.ClassFile.FieldType)]
set_option maxRecDepth 65536 in
theorem codes_eq : words1.filter isCode = codes1 := rfl
theorem w_codes : ∀ c ∈ words1.filter isCode, c.before args0 about1 = true := by
  rw [codes_eq]
  intro c hc
  simp only [codes1, List.mem_cons, List.not_mem_nil, or_false] at hc
  rcases hc with rfl | rfl | rfl | rfl | rfl | rfl | rfl | rfl | rfl | rfl | rfl | rfl | rfl | rfl | rfl | rfl | rfl | rfl | rfl | rfl | rfl | rfl | rfl | rfl | rfl | rfl | rfl | rfl
  · exact w_c0
  · exact w_c1
  · exact w_c2
  · exact w_c3
  · exact w_c4
  · exact w_c5
  · exact w_c6
  · exact w_c7
  · exact w_c8
  · exact w_c9
  · exact w_c10
  · exact w_c11
  · exact w_c12
  · exact w_c13
  · exact w_c14
  · exact w_c15
  · exact w_c16
  · exact w_c17
  · exact w_c18
  · exact w_c19
  · exact w_c20
  · exact w_c21
  · exact w_c22
  · exact w_c23
  · exact w_c24
  · exact w_c25
  · exact w_c26
  · exact w_c27
set_option maxRecDepth 65536 in
theorem w_t1 : (words1.take 24).all (fun c => isCode c || c.before args0 about1) = true := by decide +kernel
set_option maxRecDepth 65536 in
theorem w_t2 : ((words1.drop 24).take 24).all (fun c => isCode c || c.before args0 about1) = true := by decide +kernel
set_option maxRecDepth 65536 in
theorem w_t3 : (((words1.drop 24).drop 24).take 24).all (fun c => isCode c || c.before args0 about1) = true := by decide +kernel
set_option maxRecDepth 65536 in
theorem w_t4 : ((((words1.drop 24).drop 24).drop 24).take 24).all (fun c => isCode c || c.before args0 about1) = true := by decide +kernel
set_option maxRecDepth 65536 in
theorem w_t5 : (((((words1.drop 24).drop 24).drop 24).drop 24).take 24).all (fun c => isCode c || c.before args0 about1) = true := by decide +kernel
set_option maxRecDepth 65536 in
theorem w_t6 : ((((((words1.drop 24).drop 24).drop 24).drop 24).drop 24).take 24).all (fun c => isCode c || c.before args0 about1) = true := by decide +kernel
set_option maxRecDepth 65536 in
theorem w_t7 : (((((((words1.drop 24).drop 24).drop 24).drop 24).drop 24).drop 24).take 24).all (fun c => isCode c || c.before args0 about1) = true := by decide +kernel
set_option maxRecDepth 65536 in
theorem w_t8 : (((((((words1.drop 24).drop 24).drop 24).drop 24).drop 24).drop 24).drop 24).all (fun c => isCode c || c.before args0 about1) = true := by decide +kernel
theorem w_tables : (allAtoms (Jvm.Cond.code x code maxLocals ret :: tables_1)).before args0 about1 = true := by
  rw [allAtoms_all]
  show words1.all (fun c => c.before args0 about1) = true
  refine all_split ?_ w_codes
  rw [← List.take_append_drop 24 words1, List.all_append, w_t1, ← List.take_append_drop 24 (words1.drop 24), List.all_append, w_t2, ← List.take_append_drop 24 ((words1.drop 24).drop 24), List.all_append, w_t3, ← List.take_append_drop 24 (((words1.drop 24).drop 24).drop 24), List.all_append, w_t4, ← List.take_append_drop 24 ((((words1.drop 24).drop 24).drop 24).drop 24), List.all_append, w_t5, ← List.take_append_drop 24 (((((words1.drop 24).drop 24).drop 24).drop 24).drop 24), List.all_append, w_t6, ← List.take_append_drop 24 ((((((words1.drop 24).drop 24).drop 24).drop 24).drop 24).drop 24), List.all_append, w_t7, w_t8]
  rfl
set_option maxRecDepth 65536 in
theorem w_rest : rest_1_c.before args0 about1 = true := by decide +kernel
set_option maxRecDepth 65536 in
theorem w_case : (Jvm.Cond.and given_1 narrow_1).before args0 about1 = true := by decide +kernel
set_option maxRecDepth 65536 in
theorem w_consts : constsHeld consts_1 about1 := Jvm.Lit.constsHeldB_iff.mp (by decide +kernel)
theorem w_applies : (headSpec (Jvm.Cond.code x code maxLocals ret :: tables_1) room_1).applies x e0.platform about1 = true :=
  (Spec.applies_iff w_frames).mpr ⟨w_running, w_runnable, w_alone, w_named, w_hears, w_ripe, w_room, w_tables⟩
theorem atStart : AtStart classFile x code maxLocals ret World_1 tables_1 room_1 Calls_1 rest_1 Pre_1 launch0 p0 e0 about1 theMethod args0 below0 :=
  ⟨lists_1, trivial, launch0.admits_env _ _ _, launch0.least_env, fairChoices_fair.cas, fairChoices_fair.clock, w_frames, w_args, w_heap, w_applies, ⟨w_consts, trivial⟩, w_rest, w_case⟩
end start1
theorem witness_1 : WitnessClaimed_1 := ⟨start1.p0, start1.e0, start1.about1, start1.theMethod, start1.args0, start1.below0, start1.atStart⟩
end Jvm.Pilot.@@N@@
