import JvmDerived
import JvmDerived.Pilot.@@N@@Statement
import JvmDerived.Pilot.@@N@@Code
set_option linter.unusedVariables false
set_option linter.unusedSimpArgs false
@@BLOCK:Masks.lean.txt@@
namespace Jvm.Pilot.@@N@@
open Jvm Jvm.ClassFile Sem Op Lib Jvm.Free Jvm.Stand Jvm.LawKit Jvm.RoadKit Bundle Jvm.Pilot.@@N@@.Jvm.D
section Own
variable {p : Program} {l : Launch} {e : Env} {R : Room} {s : State} {m : MethodId} {args : Array Value} {below : List Frame} {meth : Method} {c : Code} {T : State} {locs : List Loc} {cells slots : Nat} {Z : State} {a0 : Array Value} {h : Heap}
def own_Go (p : Program) (e : Env) (below : List Frame) (Q : Outcome → State → Prop) (T : State) (g : JFrame) : Prop := ∃ s₂ o, Steps p.tables e below (T.setTop g) s₂ ∧ s₂.status = .running ∧ Ended s₂ below o ∧ Q o s₂
theorem own_st {Q : Outcome → State → Prop} {T T' : State} {g g' : JFrame} (h : ∀ t, Steps p.tables e below (T'.setTop g') t → Steps p.tables e below (T.setTop g) t) (k : own_Go p e below Q T' g') : own_Go p e below Q T g := by
  obtain ⟨s₂, o, h1, h2⟩ := k
  exact ⟨s₂, o, h _ h1, h2⟩
theorem own_s {Q : Outcome → State → Prop} {T : State} {g : JFrame} (T' : State) (g' : JFrame) (h : ∀ t, Steps p.tables e below (T'.setTop g') t → Steps p.tables e below (T.setTop g) t) (k : own_Go p e below Q T' g') : own_Go p e below Q T g := own_st h k
abbrev u_ : Slot := .unset
abbrev v_ : Slot := .second
theorem own_cast {Q : Outcome → State → Prop} {T : State} {g g' : JFrame} (q : g = g') (k : own_Go p e below Q T g') : own_Go p e below Q T g := q ▸ k
def own_Post (Qv : Option Value → Heap → List Loc → Prop) (kc ks : Nat) (U : State) (o : Outcome) (U' : State) : Prop := ∃ v L, o = .returned v ∧ Qv v U'.heap L ∧ FrameEnd U o U' L kc ks
def own_Met (l : Launch) (Z : State) (y : MethodName) (bytes : ByteArray) (maxL : Nat) (ret : Option FieldType) (ws : List Jvm.Cond) (rm : Room) (h0 : Heap) (as' : Array Value) (Qv : Option Value → Heap → List Loc → Prop) (kc ks : Nat) : Prop :=
  MetFree l y (head1 (Jvm.Cond.code y bytes maxL ret :: ws) rm) (fun a U => a = as' ∧ Z.Warmed39 U.vm ∧ U.heap = h0) (fun _ _ _ _ _ => True) (fun _ U o U' => own_Post Qv kc ks U o U')
theorem own_start {y : MethodName} {bytes : ByteArray} {maxL : Nat} {ret : Option FieldType} {ws : List Jvm.Cond} {rm : Room} {h0 : Heap} {as' : Array Value} {Qv : Option Value → Heap → List Loc → Prop} {kc ks : Nat} (hpl : plainFor y = true)
    (body : ∀ (p : Program) (e : Env) (s : State) (m : MethodId) (below : List Frame) (meth : Method) (c : Code) (s₁ : State), Stand p l e rm s m as' below meth c s₁ [] 0 0 → p.tables.exec = Jvm.exec → Z.Warmed39 s.vm → c.code = bytes → c.maxLocals = maxL → meth.sig.returnType = ret → meth.locks = false → s.vm.findClass y.cls = some m.cls → meth.name = y.name → s₁.heap = h0 → own_Go p e below (own_Post Qv kc ks s) s₁ (entryFrame m as' maxL)) :
    own_Met l Z y bytes maxL ret ws rm h0 as' Qv kc ks := by
  refine MetFree.of_bodySF hpl hisR ?_
  intro p e s m args below meth c s₁ Bd hml0 hP hK
  obtain ⟨rfl, hZ, hh⟩ := hP
  exact body p e s m below meth c s₁ (Stand.of_body Bd) Bd.exec hZ Bd.bytes hml0 Bd.returns Bd.notSynchronized (findClass_of_methodNamed Bd.named) (name_of_methodNamed Bd.named Bd.method).1 (by rw [← hh, Bd.state]; rfl)
def own_PostW (Qv : Option Value → Heap → Vm → List Loc → Prop) (kc ks : Nat) (U : State) (o : Outcome) (U' : State) : Prop := ∃ v L, o = .returned v ∧ Qv v U'.heap U'.vm L ∧ ReturnedEndW U o U' L kc ks
def own_MetW (l : Launch) (Z : State) (y : MethodName) (bytes : ByteArray) (maxL : Nat) (ret : Option FieldType) (ws : List Jvm.Cond) (rm : Room) (h0 : Heap) (J : Vm → Prop) (as' : Array Value) (Qv : Option Value → Heap → Vm → List Loc → Prop) (kc ks : Nat) : Prop :=
  MetFree l y (head1 (Jvm.Cond.code y bytes maxL ret :: ws) rm) (fun a U => a = as' ∧ Z.Warmed39 U.vm ∧ U.heap = h0 ∧ J U.vm) (fun _ _ _ _ _ => True) (fun _ U o U' => own_PostW Qv kc ks U o U')
theorem own_startW {y : MethodName} {bytes : ByteArray} {maxL : Nat} {ret : Option FieldType} {ws : List Jvm.Cond} {rm : Room} {h0 : Heap} {J : Vm → Prop} {as' : Array Value} {Qv : Option Value → Heap → Vm → List Loc → Prop} {kc ks : Nat} (hpl : plainFor y = true)
    (body : ∀ (p : Program) (e : Env) (s : State) (m : MethodId) (below : List Frame) (meth : Method) (c : Code) (s₁ : State), Stand p l e rm (s.setVm s.vm) m as' below meth c s₁ [] 0 0 → p.tables.exec = Jvm.exec → Z.Warmed39 s.vm → c.code = bytes → c.maxLocals = maxL → meth.sig.returnType = ret → meth.locks = false → s.vm.findClass y.cls = some m.cls → meth.name = y.name → s₁.heap = h0 → s.Since s.vm 0 → s.heap = h0 → J s.vm → own_Go p e below (own_PostW Qv kc ks s) s₁ (entryFrame m as' maxL)) :
    own_MetW l Z y bytes maxL ret ws rm h0 J as' Qv kc ks := by
  refine MetFree.of_bodySF hpl hisR ?_
  intro p e s m args below meth c s₁ Bd hml0 hP hK
  obtain ⟨rfl, hZ, hh, hJ⟩ := hP
  exact body p e s m below meth c s₁ (Stand.of_body Bd) Bd.exec hZ Bd.bytes hml0 Bd.returns Bd.notSynchronized (findClass_of_methodNamed Bd.named) (name_of_methodNamed Bd.named Bd.method).1 (by rw [← hh, Bd.state]; rfl) ((State.WarmedH.refl s).since 0) hh hJ
def own_End (e : Env) (below : List Frame) (m : MethodId) (T : State) (v : Option Value) (P : Outcome → State → Prop) : Prop := ∃ fs, (∀ (f : JFrame) (acts : List Action), f.method = m → f.locked = none → f.entered = [] → (doReturn e (T.setTop f) acts v).1 = T.setFrames fs) ∧ (T.setFrames fs).status = .running ∧ Ended (T.setFrames fs) below (.returned v) ∧ P (.returned v) (T.setFrames fs)
theorem own_end {Qv : Option Value → Heap → List Loc → Prop} {kc ks : Nat} (X : Stand p l e R s m args below meth c T locs cells slots) {v : Option Value} (hv : meth.sig.returnType = none → v = none) (hlocks : meth.locks = false) (hc : cells ≤ kc) (hs : slots ≤ ks) (eT : T.heap = h) (q : Qv v h locs) : own_End e below m T v (own_Post Qv kc ks s) := by
  obtain ⟨fs, hr, hrun, hended, hW, hsame⟩ := X.leave hv hlocks
  exact ⟨fs, hr, hrun, hended, _, _, rfl, (by show Qv v T.heap locs; rw [eT]; exact q), ⟨_, rfl⟩, hW, hsame.mono hc hs⟩
theorem own_endW {Qv : Option Value → Heap → Vm → List Loc → Prop} {kc ks : Nat} {vm1 : Vm} (X : Stand p l e R (s.setVm vm1) m args below meth c T locs cells slots) {n : Nat} (hS : s.Since vm1 n) {v : Option Value} (hv : meth.sig.returnType = none → v = none) (hlocks : meth.locks = false) (hc : cells ≤ kc) (hs : slots ≤ ks) (eT : T.heap = h) (hk : n ≤ h.size) (q : ∀ vm', (s.setVm vm1).WarmedH vm' → Qv v h vm' locs) : own_End e below m T v (own_PostW Qv kc ks s) := by
  obtain ⟨fs, hr, hrun, hended, hE⟩ := X.leaveW hS (by rw [eT]; exact hk) hv hlocks
  exact ⟨fs, hr, hrun, hended, _, _, rfl, (by show Qv v T.heap T.vm locs; rw [eT]; exact q _ X.warmed), hE.1, hE.2.1, hE.2.2.1, hE.2.2.2.mono hc hs⟩
theorem own_fin {P : Outcome → State → Prop} {v : Option Value} {g : JFrame} (E : own_End e below m T v P) (st : ∀ fs, (∀ (f : JFrame) (acts : List Action), f.method = m → f.locked = none → f.entered = [] → (doReturn e (T.setTop f) acts v).1 = T.setFrames fs) → Steps p.tables e below (T.setTop g) (T.setFrames fs)) : own_Go p e below P T g := by
  obtain ⟨fs, hr, hrun, hended, q⟩ := E
  exact ⟨_, _, st fs hr, hrun, hended, q⟩
theorem own_some {t : FieldType} {v : Option Value} (hret : meth.sig.returnType = some t) : meth.sig.returnType = none → v = none := fun h => by rw [hret] at h; cases h
theorem own_finV {P : Outcome → State → Prop} (X : Stand p l e R s m args below meth c T locs cells slots) (hx : p.tables.exec = Jvm.exec) (hret : meth.sig.returnType = none) {pc : Nat} {Ls : Array Slot} (hd : decode c.code pc = .ok (.return_, 1)) (E : own_End e below m T none P) : own_Go p e below P T (mkF m pc Ls []) :=
  own_fin E (fun fs hr => X.returnOut hx hret hd hr)
theorem own_finX {P : Outcome → State → Prop} (X : Stand p l e R s m args below meth c T locs cells slots) (hx : p.tables.exec = Jvm.exec) {t : FieldType} (hret : meth.sig.returnType = some t) {pc : Nat} {Ls : Array Slot} {w : Value} {i : Instr} {rest : List Value} (hn : narrow t w = w)
    (hi : (i = .ireturn ∧ (t = .int ∨ t = .boolean ∨ t = .byte ∨ t = .char ∨ t = .short) ∧ ∃ z, w = .int z) ∨ (i = .lreturn ∧ t = .long ∧ ∃ z, w = .long z) ∨ (i = .dreturn ∧ t = .double ∧ ∃ z, w = .double z) ∨ (i = .freturn ∧ t = .float ∧ ∃ z, w = .float z) ∨ (i = .areturn ∧ t.isReference = true ∧ w.isRef = true))
    (hd : decode c.code pc = .ok (i, 1)) (E : own_End e below m T (some w) P) : own_Go p e below P T (mkF m pc Ls (w :: rest)) :=
  own_fin E (fun fs hr => retOut X hx hret hn hi hd hr)
theorem own_finI {P : Outcome → State → Prop} (X : Stand p l e R s m args below meth c T locs cells slots) (hx : p.tables.exec = Jvm.exec) (hret : meth.sig.returnType = some .int) {pc : Nat} {Ls : Array Slot} {z : Int32} {rest : List Value} (hd : decode c.code pc = .ok (.ireturn, 1)) (E : own_End e below m T (some (.int z)) P) : own_Go p e below P T (mkF m pc Ls (.int z :: rest)) :=
  own_finX X hx hret rfl (Or.inl ⟨rfl, Or.inl rfl, _, rfl⟩) hd E
theorem own_finL {P : Outcome → State → Prop} (X : Stand p l e R s m args below meth c T locs cells slots) (hx : p.tables.exec = Jvm.exec) (hret : meth.sig.returnType = some .long) {pc : Nat} {Ls : Array Slot} {z : Int64} {rest : List Value} (hd : decode c.code pc = .ok (.lreturn, 1)) (E : own_End e below m T (some (.long z)) P) : own_Go p e below P T (mkF m pc Ls (.long z :: rest)) :=
  own_finX X hx hret rfl (Or.inr (Or.inl ⟨rfl, rfl, _, rfl⟩)) hd E
theorem own_finD {P : Outcome → State → Prop} (X : Stand p l e R s m args below meth c T locs cells slots) (hx : p.tables.exec = Jvm.exec) (hret : meth.sig.returnType = some .double) {pc : Nat} {Ls : Array Slot} {z : UInt64} {rest : List Value} (hd : decode c.code pc = .ok (.dreturn, 1)) (E : own_End e below m T (some (.double z)) P) : own_Go p e below P T (mkF m pc Ls (.double z :: rest)) :=
  own_finX X hx hret rfl (Or.inr (Or.inr (Or.inl ⟨rfl, rfl, _, rfl⟩))) hd E
theorem own_finA {P : Outcome → State → Prop} (X : Stand p l e R s m args below meth c T locs cells slots) (hx : p.tables.exec = Jvm.exec) {t : FieldType} (hret : meth.sig.returnType = some t) (ht : t.isReference = true) {pc : Nat} {Ls : Array Slot} {w : Value} {rest : List Value} (hw : w.isRef = true) (hd : decode c.code pc = .ok (.areturn, 1)) (E : own_End e below m T (some w) P) : own_Go p e below P T (mkF m pc Ls (w :: rest)) :=
  own_finX X hx hret (by rcases ref_cases hw with rfl | ⟨z, rfl⟩ <;> cases t <;> first | rfl | cases ht) (Or.inr (Or.inr (Or.inr (Or.inr ⟨rfl, ht, hw⟩)))) hd E
theorem own_finZ {P : Outcome → State → Prop} (X : Stand p l e R s m args below meth c T locs cells slots) (hx : p.tables.exec = Jvm.exec) {t : FieldType} (hret : meth.sig.returnType = some t) (ht : t = .boolean ∨ t = .byte ∨ t = .char ∨ t = .short) {pc : Nat} {Ls : Array Slot} {z z' : Int32} {rest : List Value} (hz : nar t z = z') (hd : decode c.code pc = .ok (.ireturn, 1)) (E : own_End e below m T (some (.int z')) P) : own_Go p e below P T (mkF m pc Ls (.int z :: rest)) :=
  own_fin E (fun fs hr => by subst hz; exact retN X hx hret ht hd hr)
theorem own_callS (X : Stand p l e R s m args below meth c T locs cells slots) (hx : p.tables.exec = Jvm.exec) (hZ : Z.Warmed39 s.vm) {own : String} {index : Nat} {y : MethodName} {bytes : ByteArray} {maxL : Nat} {ret : Option FieldType} {rm : Room} {W : Nat} {Q : Option Value → Heap → List Loc → Prop} {argsL rest : List Value} {as' : Array Value}
    (hown : s.vm.findClass own = some m.cls) (w1 : (Cond.methodLink own index y).before a0 Z = true) (w2 : (Cond.static y).before a0 Z = true) (w3 : (Cond.initialized y.cls).before a0 Z = true) (w4 : (Cond.code y bytes maxL ret).before a0 Z = true) (hy : y.cls ≠ "java/lang/invoke/MethodHandle" ∧ y.cls ≠ "java/lang/invoke/VarHandle")
    (hM : own_Met l Z y bytes maxL ret [] rm h as' Q rm.cells rm.slots) (hf : rm.frames + 1 ≤ R.frames) (hl : W + (maxL + 11) + rm.locals ≤ R.locals) {g : JFrame} (hg : g.method = m) (hsz : g.locals.size = c.maxLocals) (has : argsL.toArray = as') (hlen : ∀ sig, parseMethodDescriptor y.desc = some sig → argsL.length = sig.parameters.length) (hstk : g.stack = argsL.reverse ++ rest) (hW : 2 * g.monitorRoom + (rest.map fun v => v.category).sum ≤ W)
    (hd : decode c.code g.pc = .ok (.invokestatic index, 3)) (eT : T.heap = h) (hc : cells + rm.cells ≤ R.cells) (hs : slots + rm.slots ≤ R.slots) :
    ∃ v T' L, Stand p l e R s m args below meth c T' (locs ++ L) (cells + rm.cells) (slots + rm.slots) ∧ Q v T'.heap L ∧ ∀ target, Steps p.tables e below (T'.setTop { g with pc := g.pc + 3, stack := v.toList ++ rest }) target → Steps p.tables e below (T.setTop g) target := by
  obtain ⟨v, _, ⟨T', L', k', n'⟩, -, X', ⟨Lc, hQ, l', y', z'⟩, st⟩ := Jvm.LawKit.callS X hx (y := y) hown (mvT hZ w1) (mvT hZ w2) (mvT hZ w3) (mvT hZ w4) hy (backOf (W := W) hM hZ w4 w3 hf hl) (g := g) hg hsz (argsL := argsL) (rest := rest) hlen hstk hW hd (fun _ _ => ⟨has, eT, hc, hs⟩)
  dsimp only [Pt.U, Pt.locs, Pt.cells, Pt.slots] at X' l' y' z' st hQ
  subst l' y' z'
  exact ⟨v, T', Lc, X', hQ, st⟩
theorem own_callI (X : Stand p l e R s m args below meth c T locs cells slots) (hx : p.tables.exec = Jvm.exec) (hZ : Z.Warmed39 s.vm) {own : String} {index : Nat} {y : MethodName} {bytes : ByteArray} {maxL : Nat} {rm : Room} {W : Nat} {Q : Option Value → Heap → List Loc → Prop} {a : Addr} {argsL rest : List Value} {as' : Array Value} (hyn : y.name = "<init>")
    (hown : s.vm.findClass own = some m.cls) (w1 : (Cond.methodLink own index y).before a0 Z = true) (w2 : (Cond.instanceMethod y).before a0 Z = true) (w3 : (Cond.initialized y.cls).before a0 Z = true) (w4 : (Cond.code y bytes maxL none).before a0 Z = true) (hy : y.cls ≠ "java/lang/invoke/MethodHandle" ∧ y.cls ≠ "java/lang/invoke/VarHandle")
    (hM : own_Met l Z y bytes maxL none [] rm h as' Q rm.cells rm.slots) (hf : rm.frames + 1 ≤ R.frames) (hl : W + (maxL + 11) + rm.locals ≤ R.locals) {g : JFrame} (hg : g.method = m) (hsz : g.locals.size = c.maxLocals) (has : (Value.ref a :: argsL).toArray = as') (hlen : ∀ sig, parseMethodDescriptor y.desc = some sig → argsL.length = sig.parameters.length) (hstk : g.stack = argsL.reverse ++ .ref a :: rest) (hW : 2 * g.monitorRoom + (rest.map fun v => v.category).sum ≤ W)
    (hd : decode c.code g.pc = .ok (.invokespecial index, 3)) (eT : T.heap = h) (hc : cells + rm.cells ≤ R.cells) (hs : slots + rm.slots ≤ R.slots) :
    ∃ v T' L, Stand p l e R s m args below meth c T' (locs ++ L) (cells + rm.cells) (slots + rm.slots) ∧ Q v T'.heap L ∧ ∀ target, Steps p.tables e below (T'.setTop { g with pc := g.pc + 3, stack := v.toList ++ rest }) target → Steps p.tables e below (T.setTop g) target := by
  obtain ⟨v, _, ⟨T', L', k', n'⟩, -, X', ⟨Lc, hQ, l', y', z'⟩, st⟩ := X.specialBack hx (y := y) hyn hown (mvT hZ w1) (mvT hZ w2) (mvT hZ w4) hy (backOf (W := W) hM hZ w4 w3 hf hl) (g := g) hg hsz (Steps.refl _) (a := a) (argsL := argsL) (rest := rest) hlen hstk hW hd (fun _ _ => ⟨has, eT, hc, hs⟩)
  dsimp only [Pt.U, Pt.locs, Pt.cells, Pt.slots] at X' l' y' z' st hQ
  subst l' y' z'
  exact ⟨v, T', Lc, X', hQ, fun t k => st.trans k⟩
theorem own_callV (X : Stand p l e R s m args below meth c T locs cells slots) (hx : p.tables.exec = Jvm.exec) (hZ : Z.Warmed39 s.vm) {own C : String} {index : Nat} {y z : MethodName} {bytes : ByteArray} {maxL : Nat} {ret : Option FieldType} {rm : Room} {W : Nat} {Q : Option Value → Heap → List Loc → Prop} {a : Addr} {argsL rest : List Value} {as' : Array Value}
    (hown : s.vm.findClass own = some m.cls) (w1 : (Cond.methodLink own index y).before a0 Z = true) (w2 : (Cond.declares y).before a0 Z = true) (hnf : NotFace s y) (wsel : (Cond.selects C y z).before a0 Z = true) (wi : (Cond.instanceMethod z).before a0 Z = true) (w3 : (Cond.initialized z.cls).before a0 Z = true) (w4 : (Cond.code z bytes maxL ret).before a0 Z = true) (hy : y.cls ≠ "java/lang/invoke/MethodHandle" ∧ y.cls ≠ "java/lang/invoke/VarHandle")
    (hM : own_Met l Z z bytes maxL ret [] rm h as' Q rm.cells rm.slots) (hf : rm.frames + 1 ≤ R.frames) (hl : W + (maxL + 11) + rm.locals ≤ R.locals) (E : Exa Z h a C) {g : JFrame} (hg : g.method = m) (hsz : g.locals.size = c.maxLocals) (has : (Value.ref a :: argsL).toArray = as') (hlen : ∀ sig, parseMethodDescriptor y.desc = some sig → argsL.length = sig.parameters.length) (hstk : g.stack = argsL.reverse ++ .ref a :: rest) (hW : 2 * g.monitorRoom + (rest.map fun v => v.category).sum ≤ W)
    (hd : decode c.code g.pc = .ok (.invokevirtual index, 3)) (eT : T.heap = h) (hc : cells + rm.cells ≤ R.cells) (hs : slots + rm.slots ≤ R.slots) :
    ∃ v T' L, Stand p l e R s m args below meth c T' (locs ++ L) (cells + rm.cells) (slots + rm.slots) ∧ Q v T'.heap L ∧ ∀ target, Steps p.tables e below (T'.setTop { g with pc := g.pc + 3, stack := v.toList ++ rest }) target → Steps p.tables e below (T.setTop g) target := by
  obtain ⟨cq, kq, qa, qb, qc⟩ := isOf hZ eT E
  obtain ⟨v, _, ⟨T', L', k', n'⟩, -, X', ⟨Lc, hQ, l', y', z'⟩, st⟩ := X.virtualBack hx (y := y) (z := z) hown (mvT hZ w1) (mvT hZ w2) hnf (mvT hZ wsel) (mvT hZ wi) hy (backOf (W := W) hM hZ w4 w3 hf hl) qa qc (g := g) hg hsz (Steps.refl _) (argsL := argsL) (rest := rest) hlen hstk hW hd (fun _ _ => ⟨has, eT, hc, hs⟩)
  dsimp only [Pt.U, Pt.locs, Pt.cells, Pt.slots] at X' l' y' z' st hQ
  subst l' y' z'
  exact ⟨v, T', Lc, X', hQ, fun t k => st.trans k⟩
theorem own_callP (X : Stand p l e R s m args below meth c T locs cells slots) (hx : p.tables.exec = Jvm.exec) (hZ : Z.Warmed39 s.vm) {own C : String} {index : Nat} {y : MethodName} {bytes : ByteArray} {maxL : Nat} {ret : Option FieldType} {rm : Room} {W : Nat} {Q : Option Value → Heap → List Loc → Prop} {a : Addr} {argsL rest : List Value} {as' : Array Value}
    (hown : s.vm.findClass own = some m.cls) (w1 : (Cond.methodLink own index y).before a0 Z = true) (wi : (Cond.instanceMethod y).before a0 Z = true) {kk : Nat} (wn : (Cond.instantiable y.cls kk).before a0 Z = true) (wp : (Cond.privateMethod y).before a0 Z = true) (w3 : (Cond.initialized y.cls).before a0 Z = true) (w4 : (Cond.code y bytes maxL ret).before a0 Z = true) (hy : y.cls ≠ "java/lang/invoke/MethodHandle" ∧ y.cls ≠ "java/lang/invoke/VarHandle")
    (hM : own_Met l Z y bytes maxL ret [] rm h as' Q rm.cells rm.slots) (hf : rm.frames + 1 ≤ R.frames) (hl : W + (maxL + 11) + rm.locals ≤ R.locals) (E : Exa Z h a C) {g : JFrame} (hg : g.method = m) (hsz : g.locals.size = c.maxLocals) (has : (Value.ref a :: argsL).toArray = as') (hlen : ∀ sig, parseMethodDescriptor y.desc = some sig → argsL.length = sig.parameters.length) (hstk : g.stack = argsL.reverse ++ .ref a :: rest) (hW : 2 * g.monitorRoom + (rest.map fun v => v.category).sum ≤ W)
    (hd : decode c.code g.pc = .ok (.invokevirtual index, 3)) (eT : T.heap = h) (hc : cells + rm.cells ≤ R.cells) (hs : slots + rm.slots ≤ R.slots) :
    ∃ v T' L, Stand p l e R s m args below meth c T' (locs ++ L) (cells + rm.cells) (slots + rm.slots) ∧ Q v T'.heap L ∧ ∀ target, Steps p.tables e below (T'.setTop { g with pc := g.pc + 3, stack := v.toList ++ rest }) target → Steps p.tables e below (T.setTop g) target := by
  obtain ⟨cq, q1, q2⟩ := E.cell
  obtain ⟨ci, ki, hi1, hi2, -, hi4, -⟩ := Cond.instantiable_spec (mvT (args := args) hZ wn)
  have hsel : (Cond.selects y.cls y y).before args s = true := selects_self_of_private hi1 hi2 (by simp only [Bool.or_eq_false_iff] at hi4; exact hi4.1) (Cond.privateMethod_at (mvP hZ wp (args := #[]))) (mvT hZ wi) hy
  obtain ⟨v, _, ⟨T', L', k', n'⟩, -, X', ⟨Lc, hQ, l', y', z'⟩, st⟩ := X.privateBack hx (y := y) hown (mvT hZ w1) (mvT hZ wi) hsel (Cond.privateMethod_at (mvP hZ wp (args := #[]))) (mvT hZ w4) hy (backOf (W := W) hM hZ w4 w3 hf hl) (g := g) hg hsz (Steps.refl _) (a := a) (by rw [eT]; exact q1) q2 (argsL := argsL) (rest := rest) hlen hstk hW hd (fun _ _ => ⟨has, eT, hc, hs⟩)
  dsimp only [Pt.U, Pt.locs, Pt.cells, Pt.slots] at X' l' y' z' st hQ
  subst l' y' z'
  exact ⟨v, T', Lc, X', hQ, fun t k => st.trans k⟩
end Own

theorem own_h {a0 : Array Value} {Z : State} (hw : ∀ d ∈ tables_1, d.before a0 Z = true) (i : Nat) {d : Jvm.Cond} (h : tables_1[i]? = some d) : d.before a0 Z = true := hw d (List.mem_of_getElem? h)
theorem own_at {T : State} {h : Heap} {a : Addr} {c : Cell} (eT : T.heap = h) (q : h[a]? = some c) : T.heap[a]? = some c := by rw [eT]; exact q
def own_b (b : Bool) : Int32 := cond b 1 0
theorem own_b0 {b : Bool} (h : b = false) : own_b b = 0 := by subst h; rfl
theorem own_b1 {b : Bool} (h : ¬ b = false) : ¬ own_b b = 0 := by cases b; exact absurd rfl h; decide
theorem own_narb (b : Bool) : nar .boolean (own_b b) = own_b b := by cases b <;> rfl
theorem own_lclt {a b : Int64} (h : a < b) : lcmpW a b < 0 := by rw [lcW]; exact (lc_lt a b).mpr h
theorem own_lcltN {a b : Int64} (h : ¬ a < b) : ¬ lcmpW a b < 0 := fun q => by rw [lcW] at q; exact h ((lc_lt a b).mp q)
theorem own_lcgt {a b : Int64} (h : b < a) : 0 < lcmpW a b := by rw [lcW]; exact (lc_gt a b).mpr h
theorem own_lcgtN {a b : Int64} (h : ¬ b < a) : ¬ 0 < lcmpW a b := fun q => by rw [lcW] at q; exact h ((lc_gt a b).mp q)
theorem own_lceq {a b : Int64} (h : a = b) : lcmpW a b = 0 := by rw [lcW]; exact (lc_eq a b).mpr h
theorem own_lceqN {a b : Int64} (h : ¬ a = b) : ¬ lcmpW a b = 0 := fun q => by rw [lcW] at q; exact h ((lc_eq a b).mp q)
theorem own_insKeep {Z : State} {h h' : Heap} {a : Addr} {C : String} {bo : Bool} {ws : List Addr} (F : Ins Z h a C bo) (K : Keep h h' ws) : Ins Z h' a C bo := by
  obtain ⟨cell, cT, h1, h2, h3⟩ := F
  obtain ⟨c', q1, q2, q3, -⟩ := K.2.2 _ _ h1
  exact ⟨c', cT, q1, h2, by rw [q2, q3]; exact h3⟩
theorem own_staKeep {Z : State} {h h' : Heap} {C n d : String} {v : Value} (F : Sta Z h C n d v) (K : Keep h h' []) : Sta Z h' C n d v := by
  obtain ⟨cf, i, k, f, st, cell, h1, h2, h3, h4, h5, r⟩ := F
  exact ⟨cf, i, k, f, st, cell, h1, h2, h3, h4, K.2.1 _ _ h5 nin0, r⟩
theorem own_narR {t : FieldType} {w : Value} (hw : w.isRef = true) : narrow t w = w := by rcases ref_cases hw with rfl | ⟨z, rfl⟩ <;> cases t <;> rfl
theorem own_fitR {n : String} {w : Value} (hw : w.isRef = true) : fits (.object n) w = true := by rcases ref_cases hw with rfl | ⟨z, rfl⟩ <;> rfl
theorem own_len {p : Program} {l : Launch} {e : Env} {R : Room} {s : State} {m : MethodId} {args : Array Value} {below : List Frame} {meth : Method} {c : Code} {T : State} {locs : List Loc} {cells slots : Nat} {Z : State} {h : Heap} (X : Stand p l e R s m args below meth c T locs cells slots) (hx : p.tables.exec = Jvm.exec) (hZ : Z.Warmed39 s.vm) (eT : T.heap = h) {a : Addr} {cl : Cell} {ty : FieldType} {z : Int32} (A : Arr Z h a cl ty) (S : cl.slots.size = z.toNatClampNeg) (hz : ¬ z < 0)
    {g : JFrame} (hg : g.method = m) {rest : List Value} (hs : g.stack = .ref a :: rest) (hd : decode c.code g.pc = .ok (.arraylength, 1)) {target : State} (k : Steps p.tables e below (T.setTop { g with pc := g.pc + 1, stack := .int z :: rest }) target) : Steps p.tables e below (T.setTop g) target := by
  refine X.arraylength hx (by rw [eT]; exact A.1) (State.isArrayOf_alike hZ.alike A.2.1) (g := g) hg hs hd _ ?_
  rw [len_of S hz]
  exact k

def own_Mg (K : Int) (a : Int64) : Prop := -K ≤ a.toInt ∧ a.toInt ≤ K
theorem own_mgB {K : Int} {a : Int64} (h : own_Mg K a) (hK : K < 9007199254740992) : B53 a := ⟨by have := h.1; omega, by have := h.2; omega⟩
theorem own_mgI (x : Int32) : own_Mg 2147483648 x.toInt64 := by
  have h1 := x.le_toInt; have h2 := x.toInt_lt
  constructor <;> rw [Int32.toInt_toInt64] <;> omega
theorem own_mgIK {K : Int} {x : Int32} (h1 : -K ≤ x.toInt) (h2 : x.toInt ≤ K) : own_Mg K x.toInt64 := by constructor <;> rw [Int32.toInt_toInt64] <;> assumption
theorem own_mgLit (a : Int64) {K v : Int} (h : a.toInt = v) (h2 : v.natAbs = K) : own_Mg K a := by constructor <;> omega
theorem own_mg0 : own_Mg 0 0 := own_mgLit 0 rfl rfl
theorem own_mgAdd {K M : Int} {a b : Int64} (ha : own_Mg K a) (hb : own_Mg M b) (h : K + M < 9223372036854775807) : own_Mg (K + M) (a + b) := by
  have e : (a + b).toInt = a.toInt + b.toInt := by
    obtain ⟨a1, a2⟩ := ha; obtain ⟨b1, b2⟩ := hb
    rw [Int64.toInt_add]; exact Int.bmod_eq_of_le (by omega) (by omega)
  obtain ⟨a1, a2⟩ := ha; obtain ⟨b1, b2⟩ := hb
  constructor <;> rw [e] <;> omega
theorem own_dc0 : FP.dconst0 = FP.l2d (0 : Int64) := by decide +kernel
theorem own_dc1 : FP.dconst1 = FP.l2d (1 : Int64) := by decide +kernel
def own_CQ (Z : State) (h : Heap) (a1 wA bA sA hA : Addr) (kw kb ks kh : ClassId) (reach : Int32) (w0 : Int64) (w1 : Int64) (b0 : Int64) (b1 : Int64) (s0 : Int64) (s1 : Int64) (t0 : Int32) (t1 : Int32) (fg : Int64) (rk : Int32) (bs : Int32) (sz : Int32) : Prop := Exa Z h a1 "com/example/allotrope/allotrope/procure/CoverQueue" ∧ Fld Z h a1 "com/example/allotrope/allotrope/procure/CoverQueue" "reach" "I" (.int reach) ∧ Fld Z h a1 "com/example/allotrope/allotrope/procure/CoverQueue" "weights" "[D" (.ref wA) ∧ Fld Z h a1 "com/example/allotrope/allotrope/procure/CoverQueue" "bounds" "[D" (.ref bA) ∧ Fld Z h a1 "com/example/allotrope/allotrope/procure/CoverQueue" "setAt" "[J" (.ref sA) ∧ Fld Z h a1 "com/example/allotrope/allotrope/procure/CoverQueue" "heap" "[I" (.ref hA) ∧ Fld Z h a1 "com/example/allotrope/allotrope/procure/CoverQueue" "forgotten" "J" (.long fg) ∧ Fld Z h a1 "com/example/allotrope/allotrope/procure/CoverQueue" "reckonings" "I" (.int rk) ∧ Fld Z h a1 "com/example/allotrope/allotrope/procure/CoverQueue" "best" "I" (.int bs) ∧ Fld Z h a1 "com/example/allotrope/allotrope/procure/CoverQueue" "size" "I" (.int sz) ∧ Arv Z h wA kw .double (2 : Int32) [(.double (FP.l2d w0)), (.double (FP.l2d w1))] (.double (FP.l2d 0)) ∧ Arv Z h bA kb .double (2 : Int32) [(.double (FP.l2d b0)), (.double (FP.l2d b1))] (.double (FP.l2d 0)) ∧ Arv Z h sA ks .long (2 : Int32) [(.long s0), (.long s1)] (.long (0 : Int64)) ∧ Arv Z h hA kh .int (2 : Int32) [(.int t0), (.int t1)] (.int (0 : Int32))
def own_NE (a1 wA bA sA hA : Addr) : Prop := a1 ≠ wA ∧ a1 ≠ bA ∧ a1 ≠ sA ∧ a1 ≠ hA ∧ wA ≠ bA ∧ wA ≠ sA ∧ wA ≠ hA ∧ bA ≠ sA ∧ bA ≠ hA ∧ sA ≠ hA
def own_GE (n0 : Nat) (a1 wA bA sA hA : Addr) : Prop := n0 ≤ a1 ∧ n0 ≤ wA ∧ n0 ≤ bA ∧ n0 ≤ sA ∧ n0 ≤ hA
theorem own_mgMul {K M : Int} {a b : Int64} (ha : own_Mg K a) (hb : own_Mg M b) (h : K * M < 9223372036854775807) : own_Mg (K * M) (a * b) := by
  obtain ⟨a1, a2⟩ := ha; obtain ⟨b1, b2⟩ := hb
  have hK : 0 ≤ K := by omega
  have hM : 0 ≤ M := by omega
  have q : (a.toInt * b.toInt).natAbs ≤ (K * M).natAbs := by
    rw [Int.natAbs_mul, Int.natAbs_mul]; exact Nat.mul_le_mul (by omega) (by omega)
  have hKM : 0 ≤ K * M := Int.mul_nonneg hK hM
  have e : (a * b).toInt = a.toInt * b.toInt := by rw [Int64.toInt_mul]; exact Int.bmod_eq_of_le (by omega) (by omega)
  constructor <;> rw [e] <;> omega
theorem own_mgUp {K M : Int} {a : Int64} (h : own_Mg K a) (q : K ≤ M) : own_Mg M a := ⟨by have := h.1; omega, by have := h.2; omega⟩
theorem own_nz1 {a b : Int64} (h : ¬ b < 0) : ¬ (a = 0 ∧ b < 0) := fun q => h q.2
theorem own_nz2 {a b : Int64} (h : 0 < a) : ¬ (b = 0 ∧ a < 0) := fun q => by
  have e0 : (0 : Int64).toInt = 0 := rfl
  have q2 := q.2
  rw [Int64.lt_iff_toInt_lt] at h q2
  omega
def own_ld (x y : Int64) (i j : Int32) : Bool := decide (y < x) || (!decide (x < y) && decide (i < j))
def own_mn (a b : Int32) : Int32 := if b < a then b else a
theorem own_mg8 : own_Mg 8 0 := own_mgLit 0 (K := 0) rfl rfl |> fun h => own_mgUp h (by decide)
theorem own_ldT {x y : Int64} {i j : Int32} (h : y < x) : own_ld x y i j = true := by simp [own_ld, h]
abbrev own_y0 : MethodName := ⟨"com/example/allotrope/allotrope/procure/CoverQueue", "leads", "(II)Z"⟩
theorem own_pn0 : plainName "com/example/allotrope/allotrope/procure/CoverQueue" = true := by first | (simp [plainName, overriddenIn]; done) | decide +kernel
theorem own_dld10_0 : decode prog_47_method_11_code 0 = .ok (.aload_n 0, 1) := by decide +kernel
theorem own_dld10_1 : decode prog_47_method_11_code 1 = .ok (.getfield 17, 3) := by decide +kernel
theorem own_dld10_4 : decode prog_47_method_11_code 4 = .ok (.iload_n 1, 1) := by decide +kernel
theorem own_dld10_5 : decode prog_47_method_11_code 5 = .ok (.daload, 1) := by decide +kernel
theorem own_dld10_6 : decode prog_47_method_11_code 6 = .ok (.aload_n 0, 1) := by decide +kernel
theorem own_dld10_7 : decode prog_47_method_11_code 7 = .ok (.getfield 13, 3) := by decide +kernel
theorem own_dld10_10 : decode prog_47_method_11_code 10 = .ok (.iload_n 2, 1) := by decide +kernel
theorem own_dld10_11 : decode prog_47_method_11_code 11 = .ok (.daload, 1) := by decide +kernel
theorem own_dld10_12 : decode prog_47_method_11_code 12 = .ok (.dmul, 1) := by decide +kernel
theorem own_dld10_13 : decode prog_47_method_11_code 13 = .ok (.dstore_n 3, 1) := by decide +kernel
theorem own_dld10_14 : decode prog_47_method_11_code 14 = .ok (.aload_n 0, 1) := by decide +kernel
theorem own_dld10_15 : decode prog_47_method_11_code 15 = .ok (.getfield 17, 3) := by decide +kernel
theorem own_dld10_18 : decode prog_47_method_11_code 18 = .ok (.iload_n 2, 1) := by decide +kernel
theorem own_dld10_19 : decode prog_47_method_11_code 19 = .ok (.daload, 1) := by decide +kernel
theorem own_dld10_20 : decode prog_47_method_11_code 20 = .ok (.aload_n 0, 1) := by decide +kernel
theorem own_dld10_21 : decode prog_47_method_11_code 21 = .ok (.getfield 13, 3) := by decide +kernel
theorem own_dld10_24 : decode prog_47_method_11_code 24 = .ok (.iload_n 1, 1) := by decide +kernel
theorem own_dld10_25 : decode prog_47_method_11_code 25 = .ok (.daload, 1) := by decide +kernel
theorem own_dld10_26 : decode prog_47_method_11_code 26 = .ok (.dmul, 1) := by decide +kernel
theorem own_dld10_27 : decode prog_47_method_11_code 27 = .ok (.dstore 5, 2) := by decide +kernel
theorem own_dld10_29 : decode prog_47_method_11_code 29 = .ok (.dload_n 3, 1) := by decide +kernel
theorem own_dld10_30 : decode prog_47_method_11_code 30 = .ok (.dload 5, 2) := by decide +kernel
theorem own_dld10_32 : decode prog_47_method_11_code 32 = .ok (.dcmp .l, 1) := by decide +kernel
theorem own_dld10_33 : decode prog_47_method_11_code 33 = .ok (.ifCond .gt 15, 3) := by decide +kernel
theorem own_dld10_36 : decode prog_47_method_11_code 36 = .ok (.dload 5, 2) := by decide +kernel
theorem own_dld10_38 : decode prog_47_method_11_code 38 = .ok (.dload_n 3, 1) := by decide +kernel
theorem own_dld10_39 : decode prog_47_method_11_code 39 = .ok (.dcmp .l, 1) := by decide +kernel
theorem own_dld10_40 : decode prog_47_method_11_code 40 = .ok (.ifCond .gt 12, 3) := by decide +kernel
theorem own_dld10_43 : decode prog_47_method_11_code 43 = .ok (.iload_n 1, 1) := by decide +kernel
theorem own_dld10_44 : decode prog_47_method_11_code 44 = .ok (.iload_n 2, 1) := by decide +kernel
theorem own_dld10_45 : decode prog_47_method_11_code 45 = .ok (.if_icmp .ge 7, 3) := by decide +kernel
theorem own_dld10_48 : decode prog_47_method_11_code 48 = .ok (.iconst 1, 1) := by decide +kernel
theorem own_dld10_49 : decode prog_47_method_11_code 49 = .ok (.goto 4, 3) := by decide +kernel
theorem own_dld10_52 : decode prog_47_method_11_code 52 = .ok (.iconst 0, 1) := by decide +kernel
theorem own_dld10_53 : decode prog_47_method_11_code 53 = .ok (.ireturn, 1) := by decide +kernel
theorem own_efld10 (m : MethodId) (x0 : Addr) (x1 : Int32) (x2 : Int32) : entryFrame m #[(.ref x0), (.int x1), (.int x2)] 7 = mkF m 0 #[rv x0, iv x1, iv x2, u_, u_, u_, u_] [] := by first | (simp [entryFrame, mkF, argsToLocals, Value.category]; done) | rfl
def own_Qld10 (Z : State) (a1 : Addr) (wA bA sA hA : Addr) (kw kb ks kh : ClassId) (reach : Int32) (w0 : Int64) (w1 : Int64) (b0 : Int64) (b1 : Int64) (s0 : Int64) (s1 : Int64) (t0 : Int32) (t1 : Int32) (fg : Int64) (rk : Int32) (bs : Int32) (sz : Int32) (h0 : Heap) (n0 : Nat) : Option Value → Heap → List Loc → Prop := fun v h L => v = some (.int (own_b (own_ld (b1 * w0) (b0 * w1) (1 : Int32) (0 : Int32)))) ∧ Fr n0 L ∧ h = h0
def own_Rld10 : Room := { frames := 0, cells := 0, slots := 0, locals := 0 }
set_option maxRecDepth 65536 in
set_option maxHeartbeats 40000000 in
theorem own_rmld10 (l : Launch) (Z : State) (a0 : Array Value) (hw : ∀ d ∈ tables_1, d.before a0 Z = true) (ws : List Jvm.Cond) (a1 : Addr) (wA bA sA hA : Addr) (kw kb ks kh : ClassId) (reach : Int32) (w0 : Int64) (w1 : Int64) (b0 : Int64) (b1 : Int64) (s0 : Int64) (s1 : Int64) (t0 : Int32) (t1 : Int32) (fg : Int64) (rk : Int32) (bs : Int32) (sz : Int32) (h0 : Heap) (n0 : Nat) (Z0 : n0 ≤ h0.size) (hCQ : own_CQ Z h0 a1 wA bA sA hA kw kb ks kh reach w0 w1 b0 b1 s0 s1 t0 t1 fg rk bs sz) (m_w0 : own_Mg 8 w0) (m_w1 : own_Mg 8 w1) (m_b0 : own_Mg 8 b0) (m_b1 : own_Mg 8 b1) (hb0 : (0 : Int64) < b0) (hb1 : (0 : Int64) < b1) (hw0 : ¬ w0 < (0 : Int64)) (hw1 : ¬ w1 < (0 : Int64)) :
    own_Met l Z own_y0 prog_47_method_11_code 7 (some .boolean) ws own_Rld10 h0 #[(.ref a1), (.int 1), (.int 0)] (own_Qld10 Z a1 wA bA sA hA kw kb ks kh reach w0 w1 b0 b1 s0 s1 t0 t1 fg rk bs sz h0 n0) own_Rld10.cells own_Rld10.slots := by
  refine own_start (plainFor_of_name own_pn0) ?_
  intro p e s m below meth c s₁ X0 hx hZ hby hml hret hlk hown hnm e0
  have hown : s.vm.findClass "com/example/allotrope/allotrope/procure/CoverQueue" = some m.cls := hown
  have hml : c.maxLocals = 7 := hml
  have N0 := Fr.nil n0
  refine own_cast (own_efld10 m a1 (1 : Int32) (0 : Int32)) ?_
  obtain ⟨u1_0, u1_1, u1_2, u1_3, u1_4, u1_5, u1_6, u1_7, u1_8, u1_9, u1_10, u1_11, u1_12, u1_13⟩ := id hCQ
  refine own_s s₁ (mkF m 1 #[rv a1, iv 1, iv 0, u_, u_, u_, u_] [(.ref a1)]) (fun _ k => XS.aloadN X0.here hx rfl (hb hby own_dld10_0) rfl rfl k) ?_
  obtain ⟨T2, X2, e2, st2⟩ := getF X0 hx hZ hown (host := "") (Or.inl (own_h hw 14 rfl)) Via.refl e0 u1_3 (g := (mkF m 1 #[rv a1, iv 1, iv 0, u_, u_, u_, u_] [(.ref a1)])) rfl rfl (hb hby own_dld10_1)
  refine own_s T2 (mkF m 4 #[rv a1, iv 1, iv 0, u_, u_, u_, u_] [(.ref bA)]) st2 ?_
  refine own_s T2 (mkF m 5 #[rv a1, iv 1, iv 0, u_, u_, u_, u_] [(.int 1), (.ref bA)]) (fun _ k => XS.iloadN X2.here hx rfl (hb hby own_dld10_4) rfl  k) ?_
  obtain ⟨cl3, Ar3, q3, S3, Nn3, H3, G3⟩ := id u1_11
  have hin3 : ¬ ((1 : Int32) < 0 ∨ cl3.slots.size ≤ ((1 : Int32)).toNatClampNeg) := (inb_of S3 ⟨by decide, by decide⟩)
  refine own_s T2 (mkF m 7 #[rv a1, iv 1, iv 0, u_, u_, u_, u_] [(.ref a1), (.double (FP.l2d b1))]) (fun _ k => X2.daload hx (j := (1 : Int32)) (v := (.double (FP.l2d b1))) (own_at e2 Ar3.1) (State.isArrayOf_alike hZ.alike Ar3.2.1) Ar3.2.2 hin3 (Has.at H3 hin3 rfl) (g := (mkF m 5 #[rv a1, iv 1, iv 0, u_, u_, u_, u_] [(.int 1), (.ref bA)])) rfl rfl (hb hby own_dld10_5) _ (XS.aloadN X2.here hx rfl (hb hby own_dld10_6) rfl rfl k)) ?_
  obtain ⟨T4, X4, e4, st4⟩ := getF X2 hx hZ hown (host := "") (Or.inl (own_h hw 12 rfl)) Via.refl e2 u1_2 (g := (mkF m 7 #[rv a1, iv 1, iv 0, u_, u_, u_, u_] [(.ref a1), (.double (FP.l2d b1))])) rfl rfl (hb hby own_dld10_7)
  refine own_s T4 (mkF m 10 #[rv a1, iv 1, iv 0, u_, u_, u_, u_] [(.ref wA), (.double (FP.l2d b1))]) st4 ?_
  refine own_s T4 (mkF m 11 #[rv a1, iv 1, iv 0, u_, u_, u_, u_] [(.int 0), (.ref wA), (.double (FP.l2d b1))]) (fun _ k => XS.iloadN X4.here hx rfl (hb hby own_dld10_10) rfl  k) ?_
  obtain ⟨cl5, Ar5, q5, S5, Nn5, H5, G5⟩ := id u1_10
  have hin5 : ¬ ((0 : Int32) < 0 ∨ cl5.slots.size ≤ ((0 : Int32)).toNatClampNeg) := (inb_of S5 ⟨by decide, by decide⟩)
  refine own_s T4 (mkF m 12 #[rv a1, iv 1, iv 0, u_, u_, u_, u_] [(.double (FP.l2d w0)), (.double (FP.l2d b1))]) (fun _ k => X4.daload hx (j := (0 : Int32)) (v := (.double (FP.l2d w0))) (own_at e4 Ar5.1) (State.isArrayOf_alike hZ.alike Ar5.2.1) Ar5.2.2 hin5 (Has.at H5 hin5 rfl) (g := (mkF m 11 #[rv a1, iv 1, iv 0, u_, u_, u_, u_] [(.int 0), (.ref wA), (.double (FP.l2d b1))])) rfl rfl (hb hby own_dld10_11) _ k) ?_
  have dw6 := dmul_k m_b1.1 m_b1.2 m_w0.1 m_w0.2 (by decide) (by decide) (by decide) (own_nz1 hw0) (own_nz2 hb1)
  have mg6 := own_mgMul m_b1 m_w0 (by decide)
  refine own_s T4 (mkF m 15 #[rv a1, iv 1, iv 0, .val (.double (FP.l2d (b1 * w0))), v_, u_, u_] [(.ref a1)]) (fun _ k => XS.dmulS X4.here hx rfl (hb hby own_dld10_12) rfl (nn_w dw6) dw6 (XS.dstoreN X4.here hx rfl (hb hby own_dld10_13) rfl (l' := #[rv a1, iv 1, iv 0, .val (.double (FP.l2d (b1 * w0))), v_, u_, u_]) rfl (XS.aloadN X4.here hx rfl (hb hby own_dld10_14) rfl rfl k))) ?_
  obtain ⟨T7, X7, e7, st7⟩ := getF X4 hx hZ hown (host := "") (Or.inl (own_h hw 14 rfl)) Via.refl e4 u1_3 (g := (mkF m 15 #[rv a1, iv 1, iv 0, .val (.double (FP.l2d (b1 * w0))), v_, u_, u_] [(.ref a1)])) rfl rfl (hb hby own_dld10_15)
  refine own_s T7 (mkF m 18 #[rv a1, iv 1, iv 0, .val (.double (FP.l2d (b1 * w0))), v_, u_, u_] [(.ref bA)]) st7 ?_
  refine own_s T7 (mkF m 19 #[rv a1, iv 1, iv 0, .val (.double (FP.l2d (b1 * w0))), v_, u_, u_] [(.int 0), (.ref bA)]) (fun _ k => XS.iloadN X7.here hx rfl (hb hby own_dld10_18) rfl  k) ?_
  obtain ⟨cl8, Ar8, q8, S8, Nn8, H8, G8⟩ := id u1_11
  have hin8 : ¬ ((0 : Int32) < 0 ∨ cl8.slots.size ≤ ((0 : Int32)).toNatClampNeg) := (inb_of S8 ⟨by decide, by decide⟩)
  refine own_s T7 (mkF m 21 #[rv a1, iv 1, iv 0, .val (.double (FP.l2d (b1 * w0))), v_, u_, u_] [(.ref a1), (.double (FP.l2d b0))]) (fun _ k => X7.daload hx (j := (0 : Int32)) (v := (.double (FP.l2d b0))) (own_at e7 Ar8.1) (State.isArrayOf_alike hZ.alike Ar8.2.1) Ar8.2.2 hin8 (Has.at H8 hin8 rfl) (g := (mkF m 19 #[rv a1, iv 1, iv 0, .val (.double (FP.l2d (b1 * w0))), v_, u_, u_] [(.int 0), (.ref bA)])) rfl rfl (hb hby own_dld10_19) _ (XS.aloadN X7.here hx rfl (hb hby own_dld10_20) rfl rfl k)) ?_
  obtain ⟨T9, X9, e9, st9⟩ := getF X7 hx hZ hown (host := "") (Or.inl (own_h hw 12 rfl)) Via.refl e7 u1_2 (g := (mkF m 21 #[rv a1, iv 1, iv 0, .val (.double (FP.l2d (b1 * w0))), v_, u_, u_] [(.ref a1), (.double (FP.l2d b0))])) rfl rfl (hb hby own_dld10_21)
  refine own_s T9 (mkF m 24 #[rv a1, iv 1, iv 0, .val (.double (FP.l2d (b1 * w0))), v_, u_, u_] [(.ref wA), (.double (FP.l2d b0))]) st9 ?_
  refine own_s T9 (mkF m 25 #[rv a1, iv 1, iv 0, .val (.double (FP.l2d (b1 * w0))), v_, u_, u_] [(.int 1), (.ref wA), (.double (FP.l2d b0))]) (fun _ k => XS.iloadN X9.here hx rfl (hb hby own_dld10_24) rfl  k) ?_
  obtain ⟨cl10, Ar10, q10, S10, Nn10, H10, G10⟩ := id u1_10
  have hin10 : ¬ ((1 : Int32) < 0 ∨ cl10.slots.size ≤ ((1 : Int32)).toNatClampNeg) := (inb_of S10 ⟨by decide, by decide⟩)
  refine own_s T9 (mkF m 26 #[rv a1, iv 1, iv 0, .val (.double (FP.l2d (b1 * w0))), v_, u_, u_] [(.double (FP.l2d w1)), (.double (FP.l2d b0))]) (fun _ k => X9.daload hx (j := (1 : Int32)) (v := (.double (FP.l2d w1))) (own_at e9 Ar10.1) (State.isArrayOf_alike hZ.alike Ar10.2.1) Ar10.2.2 hin10 (Has.at H10 hin10 rfl) (g := (mkF m 25 #[rv a1, iv 1, iv 0, .val (.double (FP.l2d (b1 * w0))), v_, u_, u_] [(.int 1), (.ref wA), (.double (FP.l2d b0))])) rfl rfl (hb hby own_dld10_25) _ k) ?_
  have dw11 := dmul_k m_b0.1 m_b0.2 m_w1.1 m_w1.2 (by decide) (by decide) (by decide) (own_nz1 hw1) (own_nz2 hb0)
  have mg11 := own_mgMul m_b0 m_w1 (by decide)
  refine own_s T9 (mkF m 33 #[rv a1, iv 1, iv 0, .val (.double (FP.l2d (b1 * w0))), v_, .val (.double (FP.l2d (b0 * w1))), v_] [(.int (lcmpW (b1 * w0) (b0 * w1)))]) (fun _ k => XS.dmulS X9.here hx rfl (hb hby own_dld10_26) rfl (nn_w dw11) dw11 (XS.dstore X9.here hx rfl (hb hby own_dld10_27) rfl (l' := #[rv a1, iv 1, iv 0, .val (.double (FP.l2d (b1 * w0))), v_, .val (.double (FP.l2d (b0 * w1))), v_]) rfl (XS.dloadN X9.here hx rfl (hb hby own_dld10_29) rfl  (XS.dload X9.here hx rfl (hb hby own_dld10_30) rfl  (XS.dcmpS X9.here hx rfl (hb hby own_dld10_32) rfl (dcmpV_w (own_mgB mg6 (by decide)) (own_mgB mg11 (by decide)) _) k))))) ?_
  by_cases c33 : (b0 * w1) < (b1 * w0)
  · refine own_s T9 (mkF m 53 #[rv a1, iv 1, iv 0, .val (.double (FP.l2d (b1 * w0))), v_, .val (.double (FP.l2d (b0 * w1))), v_] [(.int 1)]) (fun _ k => XS.ifYes X9.here hx rfl (pc0 := 33) (pc' := 48) rfl (hb hby own_dld10_33) rfl ((if0 _ _).trans (tlt (own_lcgt c33)).2.2.1) (by decide) (by decide) (XS.iconst X9.here hx rfl (hb hby own_dld10_48) (XS.goto X9.here hx rfl (pc0 := 49) (pc' := 53) rfl (hb hby own_dld10_49) (by decide) (by decide) k))) ?_
    exact own_finZ X9 hx (t := .boolean) hret (by simp) (z' := (1 : Int32)) rfl (hb hby own_dld10_53) (own_end (Qv := (own_Qld10 Z a1 wA bA sA hA kw kb ks kh reach w0 w1 b0 b1 s0 s1 t0 t1 fg rk bs sz h0 n0)) X9 (own_some hret) hlk (by decide) (by decide) e9 ⟨by simp [own_ld, own_b, c33], N0, rfl⟩)
  · refine own_s T9 (mkF m 40 #[rv a1, iv 1, iv 0, .val (.double (FP.l2d (b1 * w0))), v_, .val (.double (FP.l2d (b0 * w1))), v_] [(.int (lcmpW (b0 * w1) (b1 * w0)))]) (fun _ k => XS.ifNo X9.here hx rfl (hb hby own_dld10_33) rfl ((if0 _ _).trans (flt (own_lcgtN c33)).2.2.1) (XS.dload X9.here hx rfl (hb hby own_dld10_36) rfl  (XS.dloadN X9.here hx rfl (hb hby own_dld10_38) rfl  (XS.dcmpS X9.here hx rfl (hb hby own_dld10_39) rfl (dcmpV_w (own_mgB mg11 (by decide)) (own_mgB mg6 (by decide)) _) k)))) ?_
    by_cases c40 : (b1 * w0) < (b0 * w1)
    · refine own_s T9 (mkF m 53 #[rv a1, iv 1, iv 0, .val (.double (FP.l2d (b1 * w0))), v_, .val (.double (FP.l2d (b0 * w1))), v_] [(.int 0)]) (fun _ k => XS.ifYes X9.here hx rfl (pc0 := 40) (pc' := 52) rfl (hb hby own_dld10_40) rfl ((if0 _ _).trans (tlt (own_lcgt c40)).2.2.1) (by decide) (by decide) (XS.iconst X9.here hx rfl (hb hby own_dld10_52) k)) ?_
      exact own_finZ X9 hx (t := .boolean) hret (by simp) (z' := (0 : Int32)) rfl (hb hby own_dld10_53) (own_end (Qv := (own_Qld10 Z a1 wA bA sA hA kw kb ks kh reach w0 w1 b0 b1 s0 s1 t0 t1 fg rk bs sz h0 n0)) X9 (own_some hret) hlk (by decide) (by decide) e9 ⟨by simp [own_ld, own_b, c33, c40], N0, rfl⟩)
    · refine own_s T9 (mkF m 53 #[rv a1, iv 1, iv 0, .val (.double (FP.l2d (b1 * w0))), v_, .val (.double (FP.l2d (b0 * w1))), v_] [(.int 0)]) (fun _ k => XS.ifNo X9.here hx rfl (hb hby own_dld10_40) rfl ((if0 _ _).trans (flt (own_lcgtN c40)).2.2.1) (XS.iloadN X9.here hx rfl (hb hby own_dld10_43) rfl  (XS.iloadN X9.here hx rfl (hb hby own_dld10_44) rfl  (XS.icmpYes X9.here hx rfl (pc0 := 45) (pc' := 52) rfl (hb hby own_dld10_45) rfl (flt (by decide : ¬ ((1 : Int32) < (0 : Int32)))).2.1 (by decide) (by decide) (XS.iconst X9.here hx rfl (hb hby own_dld10_52) k))))) ?_
      exact own_finZ X9 hx (t := .boolean) hret (by simp) (z' := (0 : Int32)) rfl (hb hby own_dld10_53) (own_end (Qv := (own_Qld10 Z a1 wA bA sA hA kw kb ks kh reach w0 w1 b0 b1 s0 s1 t0 t1 fg rk bs sz h0 n0)) X9 (own_some hret) hlk (by decide) (by decide) e9 ⟨by simp [own_ld, own_b, c33, c40], N0, rfl⟩)
theorem own_dld01_0 : decode prog_47_method_11_code 0 = .ok (.aload_n 0, 1) := by decide +kernel
theorem own_dld01_1 : decode prog_47_method_11_code 1 = .ok (.getfield 17, 3) := by decide +kernel
theorem own_dld01_4 : decode prog_47_method_11_code 4 = .ok (.iload_n 1, 1) := by decide +kernel
theorem own_dld01_5 : decode prog_47_method_11_code 5 = .ok (.daload, 1) := by decide +kernel
theorem own_dld01_6 : decode prog_47_method_11_code 6 = .ok (.aload_n 0, 1) := by decide +kernel
theorem own_dld01_7 : decode prog_47_method_11_code 7 = .ok (.getfield 13, 3) := by decide +kernel
theorem own_dld01_10 : decode prog_47_method_11_code 10 = .ok (.iload_n 2, 1) := by decide +kernel
theorem own_dld01_11 : decode prog_47_method_11_code 11 = .ok (.daload, 1) := by decide +kernel
theorem own_dld01_12 : decode prog_47_method_11_code 12 = .ok (.dmul, 1) := by decide +kernel
theorem own_dld01_13 : decode prog_47_method_11_code 13 = .ok (.dstore_n 3, 1) := by decide +kernel
theorem own_dld01_14 : decode prog_47_method_11_code 14 = .ok (.aload_n 0, 1) := by decide +kernel
theorem own_dld01_15 : decode prog_47_method_11_code 15 = .ok (.getfield 17, 3) := by decide +kernel
theorem own_dld01_18 : decode prog_47_method_11_code 18 = .ok (.iload_n 2, 1) := by decide +kernel
theorem own_dld01_19 : decode prog_47_method_11_code 19 = .ok (.daload, 1) := by decide +kernel
theorem own_dld01_20 : decode prog_47_method_11_code 20 = .ok (.aload_n 0, 1) := by decide +kernel
theorem own_dld01_21 : decode prog_47_method_11_code 21 = .ok (.getfield 13, 3) := by decide +kernel
theorem own_dld01_24 : decode prog_47_method_11_code 24 = .ok (.iload_n 1, 1) := by decide +kernel
theorem own_dld01_25 : decode prog_47_method_11_code 25 = .ok (.daload, 1) := by decide +kernel
theorem own_dld01_26 : decode prog_47_method_11_code 26 = .ok (.dmul, 1) := by decide +kernel
theorem own_dld01_27 : decode prog_47_method_11_code 27 = .ok (.dstore 5, 2) := by decide +kernel
theorem own_dld01_29 : decode prog_47_method_11_code 29 = .ok (.dload_n 3, 1) := by decide +kernel
theorem own_dld01_30 : decode prog_47_method_11_code 30 = .ok (.dload 5, 2) := by decide +kernel
theorem own_dld01_32 : decode prog_47_method_11_code 32 = .ok (.dcmp .l, 1) := by decide +kernel
theorem own_dld01_33 : decode prog_47_method_11_code 33 = .ok (.ifCond .gt 15, 3) := by decide +kernel
theorem own_dld01_36 : decode prog_47_method_11_code 36 = .ok (.dload 5, 2) := by decide +kernel
theorem own_dld01_38 : decode prog_47_method_11_code 38 = .ok (.dload_n 3, 1) := by decide +kernel
theorem own_dld01_39 : decode prog_47_method_11_code 39 = .ok (.dcmp .l, 1) := by decide +kernel
theorem own_dld01_40 : decode prog_47_method_11_code 40 = .ok (.ifCond .gt 12, 3) := by decide +kernel
theorem own_dld01_43 : decode prog_47_method_11_code 43 = .ok (.iload_n 1, 1) := by decide +kernel
theorem own_dld01_44 : decode prog_47_method_11_code 44 = .ok (.iload_n 2, 1) := by decide +kernel
theorem own_dld01_45 : decode prog_47_method_11_code 45 = .ok (.if_icmp .ge 7, 3) := by decide +kernel
theorem own_dld01_48 : decode prog_47_method_11_code 48 = .ok (.iconst 1, 1) := by decide +kernel
theorem own_dld01_49 : decode prog_47_method_11_code 49 = .ok (.goto 4, 3) := by decide +kernel
theorem own_dld01_52 : decode prog_47_method_11_code 52 = .ok (.iconst 0, 1) := by decide +kernel
theorem own_dld01_53 : decode prog_47_method_11_code 53 = .ok (.ireturn, 1) := by decide +kernel
theorem own_efld01 (m : MethodId) (x0 : Addr) (x1 : Int32) (x2 : Int32) : entryFrame m #[(.ref x0), (.int x1), (.int x2)] 7 = mkF m 0 #[rv x0, iv x1, iv x2, u_, u_, u_, u_] [] := by first | (simp [entryFrame, mkF, argsToLocals, Value.category]; done) | rfl
def own_Qld01 (Z : State) (a1 : Addr) (wA bA sA hA : Addr) (kw kb ks kh : ClassId) (reach : Int32) (w0 : Int64) (w1 : Int64) (b0 : Int64) (b1 : Int64) (s0 : Int64) (s1 : Int64) (t0 : Int32) (t1 : Int32) (fg : Int64) (rk : Int32) (bs : Int32) (sz : Int32) (h0 : Heap) (n0 : Nat) : Option Value → Heap → List Loc → Prop := fun v h L => v = some (.int (own_b (own_ld (b0 * w1) (b1 * w0) (0 : Int32) (1 : Int32)))) ∧ Fr n0 L ∧ h = h0
def own_Rld01 : Room := { frames := 0, cells := 0, slots := 0, locals := 0 }
set_option maxRecDepth 65536 in
set_option maxHeartbeats 40000000 in
theorem own_rmld01 (l : Launch) (Z : State) (a0 : Array Value) (hw : ∀ d ∈ tables_1, d.before a0 Z = true) (ws : List Jvm.Cond) (a1 : Addr) (wA bA sA hA : Addr) (kw kb ks kh : ClassId) (reach : Int32) (w0 : Int64) (w1 : Int64) (b0 : Int64) (b1 : Int64) (s0 : Int64) (s1 : Int64) (t0 : Int32) (t1 : Int32) (fg : Int64) (rk : Int32) (bs : Int32) (sz : Int32) (h0 : Heap) (n0 : Nat) (Z0 : n0 ≤ h0.size) (hCQ : own_CQ Z h0 a1 wA bA sA hA kw kb ks kh reach w0 w1 b0 b1 s0 s1 t0 t1 fg rk bs sz) (m_w0 : own_Mg 8 w0) (m_w1 : own_Mg 8 w1) (m_b0 : own_Mg 8 b0) (m_b1 : own_Mg 8 b1) (hb0 : (0 : Int64) < b0) (hb1 : (0 : Int64) < b1) (hw0 : ¬ w0 < (0 : Int64)) (hw1 : ¬ w1 < (0 : Int64)) :
    own_Met l Z own_y0 prog_47_method_11_code 7 (some .boolean) ws own_Rld01 h0 #[(.ref a1), (.int 0), (.int 1)] (own_Qld01 Z a1 wA bA sA hA kw kb ks kh reach w0 w1 b0 b1 s0 s1 t0 t1 fg rk bs sz h0 n0) own_Rld01.cells own_Rld01.slots := by
  refine own_start (plainFor_of_name own_pn0) ?_
  intro p e s m below meth c s₁ X0 hx hZ hby hml hret hlk hown hnm e0
  have hown : s.vm.findClass "com/example/allotrope/allotrope/procure/CoverQueue" = some m.cls := hown
  have hml : c.maxLocals = 7 := hml
  have N0 := Fr.nil n0
  refine own_cast (own_efld01 m a1 (0 : Int32) (1 : Int32)) ?_
  obtain ⟨u1_0, u1_1, u1_2, u1_3, u1_4, u1_5, u1_6, u1_7, u1_8, u1_9, u1_10, u1_11, u1_12, u1_13⟩ := id hCQ
  refine own_s s₁ (mkF m 1 #[rv a1, iv 0, iv 1, u_, u_, u_, u_] [(.ref a1)]) (fun _ k => XS.aloadN X0.here hx rfl (hb hby own_dld01_0) rfl rfl k) ?_
  obtain ⟨T2, X2, e2, st2⟩ := getF X0 hx hZ hown (host := "") (Or.inl (own_h hw 14 rfl)) Via.refl e0 u1_3 (g := (mkF m 1 #[rv a1, iv 0, iv 1, u_, u_, u_, u_] [(.ref a1)])) rfl rfl (hb hby own_dld01_1)
  refine own_s T2 (mkF m 4 #[rv a1, iv 0, iv 1, u_, u_, u_, u_] [(.ref bA)]) st2 ?_
  refine own_s T2 (mkF m 5 #[rv a1, iv 0, iv 1, u_, u_, u_, u_] [(.int 0), (.ref bA)]) (fun _ k => XS.iloadN X2.here hx rfl (hb hby own_dld01_4) rfl  k) ?_
  obtain ⟨cl3, Ar3, q3, S3, Nn3, H3, G3⟩ := id u1_11
  have hin3 : ¬ ((0 : Int32) < 0 ∨ cl3.slots.size ≤ ((0 : Int32)).toNatClampNeg) := (inb_of S3 ⟨by decide, by decide⟩)
  refine own_s T2 (mkF m 7 #[rv a1, iv 0, iv 1, u_, u_, u_, u_] [(.ref a1), (.double (FP.l2d b0))]) (fun _ k => X2.daload hx (j := (0 : Int32)) (v := (.double (FP.l2d b0))) (own_at e2 Ar3.1) (State.isArrayOf_alike hZ.alike Ar3.2.1) Ar3.2.2 hin3 (Has.at H3 hin3 rfl) (g := (mkF m 5 #[rv a1, iv 0, iv 1, u_, u_, u_, u_] [(.int 0), (.ref bA)])) rfl rfl (hb hby own_dld01_5) _ (XS.aloadN X2.here hx rfl (hb hby own_dld01_6) rfl rfl k)) ?_
  obtain ⟨T4, X4, e4, st4⟩ := getF X2 hx hZ hown (host := "") (Or.inl (own_h hw 12 rfl)) Via.refl e2 u1_2 (g := (mkF m 7 #[rv a1, iv 0, iv 1, u_, u_, u_, u_] [(.ref a1), (.double (FP.l2d b0))])) rfl rfl (hb hby own_dld01_7)
  refine own_s T4 (mkF m 10 #[rv a1, iv 0, iv 1, u_, u_, u_, u_] [(.ref wA), (.double (FP.l2d b0))]) st4 ?_
  refine own_s T4 (mkF m 11 #[rv a1, iv 0, iv 1, u_, u_, u_, u_] [(.int 1), (.ref wA), (.double (FP.l2d b0))]) (fun _ k => XS.iloadN X4.here hx rfl (hb hby own_dld01_10) rfl  k) ?_
  obtain ⟨cl5, Ar5, q5, S5, Nn5, H5, G5⟩ := id u1_10
  have hin5 : ¬ ((1 : Int32) < 0 ∨ cl5.slots.size ≤ ((1 : Int32)).toNatClampNeg) := (inb_of S5 ⟨by decide, by decide⟩)
  refine own_s T4 (mkF m 12 #[rv a1, iv 0, iv 1, u_, u_, u_, u_] [(.double (FP.l2d w1)), (.double (FP.l2d b0))]) (fun _ k => X4.daload hx (j := (1 : Int32)) (v := (.double (FP.l2d w1))) (own_at e4 Ar5.1) (State.isArrayOf_alike hZ.alike Ar5.2.1) Ar5.2.2 hin5 (Has.at H5 hin5 rfl) (g := (mkF m 11 #[rv a1, iv 0, iv 1, u_, u_, u_, u_] [(.int 1), (.ref wA), (.double (FP.l2d b0))])) rfl rfl (hb hby own_dld01_11) _ k) ?_
  have dw6 := dmul_k m_b0.1 m_b0.2 m_w1.1 m_w1.2 (by decide) (by decide) (by decide) (own_nz1 hw1) (own_nz2 hb0)
  have mg6 := own_mgMul m_b0 m_w1 (by decide)
  refine own_s T4 (mkF m 15 #[rv a1, iv 0, iv 1, .val (.double (FP.l2d (b0 * w1))), v_, u_, u_] [(.ref a1)]) (fun _ k => XS.dmulS X4.here hx rfl (hb hby own_dld01_12) rfl (nn_w dw6) dw6 (XS.dstoreN X4.here hx rfl (hb hby own_dld01_13) rfl (l' := #[rv a1, iv 0, iv 1, .val (.double (FP.l2d (b0 * w1))), v_, u_, u_]) rfl (XS.aloadN X4.here hx rfl (hb hby own_dld01_14) rfl rfl k))) ?_
  obtain ⟨T7, X7, e7, st7⟩ := getF X4 hx hZ hown (host := "") (Or.inl (own_h hw 14 rfl)) Via.refl e4 u1_3 (g := (mkF m 15 #[rv a1, iv 0, iv 1, .val (.double (FP.l2d (b0 * w1))), v_, u_, u_] [(.ref a1)])) rfl rfl (hb hby own_dld01_15)
  refine own_s T7 (mkF m 18 #[rv a1, iv 0, iv 1, .val (.double (FP.l2d (b0 * w1))), v_, u_, u_] [(.ref bA)]) st7 ?_
  refine own_s T7 (mkF m 19 #[rv a1, iv 0, iv 1, .val (.double (FP.l2d (b0 * w1))), v_, u_, u_] [(.int 1), (.ref bA)]) (fun _ k => XS.iloadN X7.here hx rfl (hb hby own_dld01_18) rfl  k) ?_
  obtain ⟨cl8, Ar8, q8, S8, Nn8, H8, G8⟩ := id u1_11
  have hin8 : ¬ ((1 : Int32) < 0 ∨ cl8.slots.size ≤ ((1 : Int32)).toNatClampNeg) := (inb_of S8 ⟨by decide, by decide⟩)
  refine own_s T7 (mkF m 21 #[rv a1, iv 0, iv 1, .val (.double (FP.l2d (b0 * w1))), v_, u_, u_] [(.ref a1), (.double (FP.l2d b1))]) (fun _ k => X7.daload hx (j := (1 : Int32)) (v := (.double (FP.l2d b1))) (own_at e7 Ar8.1) (State.isArrayOf_alike hZ.alike Ar8.2.1) Ar8.2.2 hin8 (Has.at H8 hin8 rfl) (g := (mkF m 19 #[rv a1, iv 0, iv 1, .val (.double (FP.l2d (b0 * w1))), v_, u_, u_] [(.int 1), (.ref bA)])) rfl rfl (hb hby own_dld01_19) _ (XS.aloadN X7.here hx rfl (hb hby own_dld01_20) rfl rfl k)) ?_
  obtain ⟨T9, X9, e9, st9⟩ := getF X7 hx hZ hown (host := "") (Or.inl (own_h hw 12 rfl)) Via.refl e7 u1_2 (g := (mkF m 21 #[rv a1, iv 0, iv 1, .val (.double (FP.l2d (b0 * w1))), v_, u_, u_] [(.ref a1), (.double (FP.l2d b1))])) rfl rfl (hb hby own_dld01_21)
  refine own_s T9 (mkF m 24 #[rv a1, iv 0, iv 1, .val (.double (FP.l2d (b0 * w1))), v_, u_, u_] [(.ref wA), (.double (FP.l2d b1))]) st9 ?_
  refine own_s T9 (mkF m 25 #[rv a1, iv 0, iv 1, .val (.double (FP.l2d (b0 * w1))), v_, u_, u_] [(.int 0), (.ref wA), (.double (FP.l2d b1))]) (fun _ k => XS.iloadN X9.here hx rfl (hb hby own_dld01_24) rfl  k) ?_
  obtain ⟨cl10, Ar10, q10, S10, Nn10, H10, G10⟩ := id u1_10
  have hin10 : ¬ ((0 : Int32) < 0 ∨ cl10.slots.size ≤ ((0 : Int32)).toNatClampNeg) := (inb_of S10 ⟨by decide, by decide⟩)
  refine own_s T9 (mkF m 26 #[rv a1, iv 0, iv 1, .val (.double (FP.l2d (b0 * w1))), v_, u_, u_] [(.double (FP.l2d w0)), (.double (FP.l2d b1))]) (fun _ k => X9.daload hx (j := (0 : Int32)) (v := (.double (FP.l2d w0))) (own_at e9 Ar10.1) (State.isArrayOf_alike hZ.alike Ar10.2.1) Ar10.2.2 hin10 (Has.at H10 hin10 rfl) (g := (mkF m 25 #[rv a1, iv 0, iv 1, .val (.double (FP.l2d (b0 * w1))), v_, u_, u_] [(.int 0), (.ref wA), (.double (FP.l2d b1))])) rfl rfl (hb hby own_dld01_25) _ k) ?_
  have dw11 := dmul_k m_b1.1 m_b1.2 m_w0.1 m_w0.2 (by decide) (by decide) (by decide) (own_nz1 hw0) (own_nz2 hb1)
  have mg11 := own_mgMul m_b1 m_w0 (by decide)
  refine own_s T9 (mkF m 33 #[rv a1, iv 0, iv 1, .val (.double (FP.l2d (b0 * w1))), v_, .val (.double (FP.l2d (b1 * w0))), v_] [(.int (lcmpW (b0 * w1) (b1 * w0)))]) (fun _ k => XS.dmulS X9.here hx rfl (hb hby own_dld01_26) rfl (nn_w dw11) dw11 (XS.dstore X9.here hx rfl (hb hby own_dld01_27) rfl (l' := #[rv a1, iv 0, iv 1, .val (.double (FP.l2d (b0 * w1))), v_, .val (.double (FP.l2d (b1 * w0))), v_]) rfl (XS.dloadN X9.here hx rfl (hb hby own_dld01_29) rfl  (XS.dload X9.here hx rfl (hb hby own_dld01_30) rfl  (XS.dcmpS X9.here hx rfl (hb hby own_dld01_32) rfl (dcmpV_w (own_mgB mg6 (by decide)) (own_mgB mg11 (by decide)) _) k))))) ?_
  by_cases c33 : (b1 * w0) < (b0 * w1)
  · refine own_s T9 (mkF m 53 #[rv a1, iv 0, iv 1, .val (.double (FP.l2d (b0 * w1))), v_, .val (.double (FP.l2d (b1 * w0))), v_] [(.int 1)]) (fun _ k => XS.ifYes X9.here hx rfl (pc0 := 33) (pc' := 48) rfl (hb hby own_dld01_33) rfl ((if0 _ _).trans (tlt (own_lcgt c33)).2.2.1) (by decide) (by decide) (XS.iconst X9.here hx rfl (hb hby own_dld01_48) (XS.goto X9.here hx rfl (pc0 := 49) (pc' := 53) rfl (hb hby own_dld01_49) (by decide) (by decide) k))) ?_
    exact own_finZ X9 hx (t := .boolean) hret (by simp) (z' := (1 : Int32)) rfl (hb hby own_dld01_53) (own_end (Qv := (own_Qld01 Z a1 wA bA sA hA kw kb ks kh reach w0 w1 b0 b1 s0 s1 t0 t1 fg rk bs sz h0 n0)) X9 (own_some hret) hlk (by decide) (by decide) e9 ⟨by simp [own_ld, own_b, c33], N0, rfl⟩)
  · refine own_s T9 (mkF m 40 #[rv a1, iv 0, iv 1, .val (.double (FP.l2d (b0 * w1))), v_, .val (.double (FP.l2d (b1 * w0))), v_] [(.int (lcmpW (b1 * w0) (b0 * w1)))]) (fun _ k => XS.ifNo X9.here hx rfl (hb hby own_dld01_33) rfl ((if0 _ _).trans (flt (own_lcgtN c33)).2.2.1) (XS.dload X9.here hx rfl (hb hby own_dld01_36) rfl  (XS.dloadN X9.here hx rfl (hb hby own_dld01_38) rfl  (XS.dcmpS X9.here hx rfl (hb hby own_dld01_39) rfl (dcmpV_w (own_mgB mg11 (by decide)) (own_mgB mg6 (by decide)) _) k)))) ?_
    by_cases c40 : (b0 * w1) < (b1 * w0)
    · refine own_s T9 (mkF m 53 #[rv a1, iv 0, iv 1, .val (.double (FP.l2d (b0 * w1))), v_, .val (.double (FP.l2d (b1 * w0))), v_] [(.int 0)]) (fun _ k => XS.ifYes X9.here hx rfl (pc0 := 40) (pc' := 52) rfl (hb hby own_dld01_40) rfl ((if0 _ _).trans (tlt (own_lcgt c40)).2.2.1) (by decide) (by decide) (XS.iconst X9.here hx rfl (hb hby own_dld01_52) k)) ?_
      exact own_finZ X9 hx (t := .boolean) hret (by simp) (z' := (0 : Int32)) rfl (hb hby own_dld01_53) (own_end (Qv := (own_Qld01 Z a1 wA bA sA hA kw kb ks kh reach w0 w1 b0 b1 s0 s1 t0 t1 fg rk bs sz h0 n0)) X9 (own_some hret) hlk (by decide) (by decide) e9 ⟨by simp [own_ld, own_b, c33, c40], N0, rfl⟩)
    · refine own_s T9 (mkF m 49 #[rv a1, iv 0, iv 1, .val (.double (FP.l2d (b0 * w1))), v_, .val (.double (FP.l2d (b1 * w0))), v_] [(.int 1)]) (fun _ k => XS.ifNo X9.here hx rfl (hb hby own_dld01_40) rfl ((if0 _ _).trans (flt (own_lcgtN c40)).2.2.1) (XS.iloadN X9.here hx rfl (hb hby own_dld01_43) rfl  (XS.iloadN X9.here hx rfl (hb hby own_dld01_44) rfl  (XS.icmpNo X9.here hx rfl (hb hby own_dld01_45) rfl (tlt (by decide : ((0 : Int32) < (1 : Int32)))).2.1 (XS.iconst X9.here hx rfl (hb hby own_dld01_48) k))))) ?_
      refine own_s T9 (mkF m 53 #[rv a1, iv 0, iv 1, .val (.double (FP.l2d (b0 * w1))), v_, .val (.double (FP.l2d (b1 * w0))), v_] [(.int 1)]) (fun _ k => XS.goto X9.here hx rfl (pc0 := 49) (pc' := 53) rfl (hb hby own_dld01_49) (by decide) (by decide) k) ?_
      exact own_finZ X9 hx (t := .boolean) hret (by simp) (z' := (1 : Int32)) rfl (hb hby own_dld01_53) (own_end (Qv := (own_Qld01 Z a1 wA bA sA hA kw kb ks kh reach w0 w1 b0 b1 s0 s1 t0 t1 fg rk bs sz h0 n0)) X9 (own_some hret) hlk (by decide) (by decide) e9 ⟨by simp [own_ld, own_b, c33, c40], N0, rfl⟩)
abbrev own_y1 : MethodName := ⟨"com/example/allotrope/allotrope/procure/CoverQueue", "rise", "(I)V"⟩
theorem own_dr0_0 : decode prog_47_method_9_code 0 = .ok (.iload_n 1, 1) := by decide +kernel
theorem own_dr0_1 : decode prog_47_method_9_code 1 = .ok (.istore_n 2, 1) := by decide +kernel
theorem own_dr0_2 : decode prog_47_method_9_code 2 = .ok (.iload_n 2, 1) := by decide +kernel
theorem own_dr0_3 : decode prog_47_method_9_code 3 = .ok (.ifCond .le 65, 3) := by decide +kernel
theorem own_dr0_68 : decode prog_47_method_9_code 68 = .ok (.return_, 1) := by decide +kernel
theorem own_efr0 (m : MethodId) (x0 : Addr) (x1 : Int32) : entryFrame m #[(.ref x0), (.int x1)] 5 = mkF m 0 #[rv x0, iv x1, u_, u_, u_] [] := by first | (simp [entryFrame, mkF, argsToLocals, Value.category]; done) | rfl
def own_Qr0 (Z : State) (a1 : Addr) (wA bA sA hA : Addr) (kw kb ks kh : ClassId) (reach : Int32) (w0 : Int64) (w1 : Int64) (b0 : Int64) (b1 : Int64) (s0 : Int64) (s1 : Int64) (t0 : Int32) (t1 : Int32) (fg : Int64) (rk : Int32) (bs : Int32) (sz : Int32) (h0 : Heap) (n0 : Nat) : Option Value → Heap → List Loc → Prop := fun v h L => v = none ∧ Fr n0 L ∧ Keep h0 h [a1, wA, bA, sA, hA] ∧ own_CQ Z h a1 wA bA sA hA kw kb ks kh reach w0 w1 b0 b1 s0 s1 t0 t1 fg rk bs sz
def own_Rr0 : Room := { frames := 0, cells := 0, slots := 0, locals := 0 }
set_option maxRecDepth 65536 in
set_option maxHeartbeats 40000000 in
theorem own_rmr0 (l : Launch) (Z : State) (a0 : Array Value) (hw : ∀ d ∈ tables_1, d.before a0 Z = true) (ws : List Jvm.Cond) (a1 : Addr) (wA bA sA hA : Addr) (kw kb ks kh : ClassId) (reach : Int32) (w0 : Int64) (w1 : Int64) (b0 : Int64) (b1 : Int64) (s0 : Int64) (s1 : Int64) (t0 : Int32) (t1 : Int32) (fg : Int64) (rk : Int32) (bs : Int32) (sz : Int32) (h0 : Heap) (n0 : Nat) (Z0 : n0 ≤ h0.size) (hCQ : own_CQ Z h0 a1 wA bA sA hA kw kb ks kh reach w0 w1 b0 b1 s0 s1 t0 t1 fg rk bs sz) (hNE : own_NE a1 wA bA sA hA) (hGE : own_GE n0 a1 wA bA sA hA) (m_w0 : own_Mg 8 w0) (m_w1 : own_Mg 8 w1) (m_b0 : own_Mg 8 b0) (m_b1 : own_Mg 8 b1) :
    own_Met l Z own_y1 prog_47_method_9_code 5 none ws own_Rr0 h0 #[(.ref a1), (.int 0)] (own_Qr0 Z a1 wA bA sA hA kw kb ks kh reach w0 w1 b0 b1 s0 s1 t0 t1 fg rk bs sz h0 n0) own_Rr0.cells own_Rr0.slots := by
  refine own_start (plainFor_of_name own_pn0) ?_
  intro p e s m below meth c s₁ X0 hx hZ hby hml hret hlk hown hnm e0
  have hown : s.vm.findClass "com/example/allotrope/allotrope/procure/CoverQueue" = some m.cls := hown
  have hml : c.maxLocals = 5 := hml
  have N0 := Fr.nil n0
  refine own_cast (own_efr0 m a1 (0 : Int32)) ?_
  obtain ⟨ne_a1_wA, ne_a1_bA, ne_a1_sA, ne_a1_hA, ne_wA_bA, ne_wA_sA, ne_wA_hA, ne_bA_sA, ne_bA_hA, ne_sA_hA⟩ := id hNE
  obtain ⟨g_a1, g_wA, g_bA, g_sA, g_hA⟩ := id hGE
  obtain ⟨u1_0, u1_1, u1_2, u1_3, u1_4, u1_5, u1_6, u1_7, u1_8, u1_9, u1_10, u1_11, u1_12, u1_13⟩ := id hCQ
  refine own_s s₁ (mkF m 68 #[rv a1, iv 0, iv 0, u_, u_] []) (fun _ k => XS.iloadN X0.here hx rfl (hb hby own_dr0_0) rfl  (XS.istoreN X0.here hx rfl (hb hby own_dr0_1) rfl (l' := #[rv a1, iv 0, iv 0, u_, u_]) rfl (XS.iloadN X0.here hx rfl (hb hby own_dr0_2) rfl  (XS.ifYes X0.here hx rfl (pc0 := 3) (pc' := 68) rfl (hb hby own_dr0_3) rfl ((if0 _ _).trans (flt (by decide : ¬ ((0 : Int32) < (0 : Int32)))).2.2.2) (by decide) (by decide) k)))) ?_
  exact own_finV X0 hx hret (hb hby own_dr0_68) (own_end (Qv := (own_Qr0 Z a1 wA bA sA hA kw kb ks kh reach w0 w1 b0 b1 s0 s1 t0 t1 fg rk bs sz h0 n0)) X0 (fun _ => rfl) hlk (by decide) (by decide) e0 ⟨rfl, N0, (Keep.refl h0 [a1, wA, bA, sA, hA]), ⟨u1_0, u1_1, u1_2, u1_3, u1_4, u1_5, u1_6, u1_7, u1_8, u1_9, u1_10, u1_11, u1_12, u1_13⟩⟩)
theorem own_pd0 : parseMethodDescriptor "(II)Z" = some ⟨[.int, .int], some .boolean⟩ := by decide +kernel
theorem own_dr1T_0 : decode prog_47_method_9_code 0 = .ok (.iload_n 1, 1) := by decide +kernel
theorem own_dr1T_1 : decode prog_47_method_9_code 1 = .ok (.istore_n 2, 1) := by decide +kernel
theorem own_dr1T_2 : decode prog_47_method_9_code 2 = .ok (.iload_n 2, 1) := by decide +kernel
theorem own_dr1T_3 : decode prog_47_method_9_code 3 = .ok (.ifCond .le 65, 3) := by decide +kernel
theorem own_dr1T_6 : decode prog_47_method_9_code 6 = .ok (.aload_n 0, 1) := by decide +kernel
theorem own_dr1T_7 : decode prog_47_method_9_code 7 = .ok (.aload_n 0, 1) := by decide +kernel
theorem own_dr1T_8 : decode prog_47_method_9_code 8 = .ok (.getfield 24, 3) := by decide +kernel
theorem own_dr1T_11 : decode prog_47_method_9_code 11 = .ok (.iload_n 2, 1) := by decide +kernel
theorem own_dr1T_12 : decode prog_47_method_9_code 12 = .ok (.iaload, 1) := by decide +kernel
theorem own_dr1T_13 : decode prog_47_method_9_code 13 = .ok (.aload_n 0, 1) := by decide +kernel
theorem own_dr1T_14 : decode prog_47_method_9_code 14 = .ok (.getfield 24, 3) := by decide +kernel
theorem own_dr1T_17 : decode prog_47_method_9_code 17 = .ok (.iload_n 2, 1) := by decide +kernel
theorem own_dr1T_18 : decode prog_47_method_9_code 18 = .ok (.iconst 1, 1) := by decide +kernel
theorem own_dr1T_19 : decode prog_47_method_9_code 19 = .ok (.isub, 1) := by decide +kernel
theorem own_dr1T_20 : decode prog_47_method_9_code 20 = .ok (.iconst 2, 1) := by decide +kernel
theorem own_dr1T_21 : decode prog_47_method_9_code 21 = .ok (.idiv, 1) := by decide +kernel
theorem own_dr1T_22 : decode prog_47_method_9_code 22 = .ok (.iaload, 1) := by decide +kernel
theorem own_dr1T_23 : decode prog_47_method_9_code 23 = .ok (.invokevirtual 48, 3) := by decide +kernel
theorem own_dr1T_26 : decode prog_47_method_9_code 26 = .ok (.ifCond .eq 42, 3) := by decide +kernel
theorem own_dr1T_29 : decode prog_47_method_9_code 29 = .ok (.iload_n 2, 1) := by decide +kernel
theorem own_dr1T_30 : decode prog_47_method_9_code 30 = .ok (.iconst 1, 1) := by decide +kernel
theorem own_dr1T_31 : decode prog_47_method_9_code 31 = .ok (.isub, 1) := by decide +kernel
theorem own_dr1T_32 : decode prog_47_method_9_code 32 = .ok (.iconst 2, 1) := by decide +kernel
theorem own_dr1T_33 : decode prog_47_method_9_code 33 = .ok (.idiv, 1) := by decide +kernel
theorem own_dr1T_34 : decode prog_47_method_9_code 34 = .ok (.istore_n 3, 1) := by decide +kernel
theorem own_dr1T_35 : decode prog_47_method_9_code 35 = .ok (.aload_n 0, 1) := by decide +kernel
theorem own_dr1T_36 : decode prog_47_method_9_code 36 = .ok (.getfield 24, 3) := by decide +kernel
theorem own_dr1T_39 : decode prog_47_method_9_code 39 = .ok (.iload_n 2, 1) := by decide +kernel
theorem own_dr1T_40 : decode prog_47_method_9_code 40 = .ok (.iaload, 1) := by decide +kernel
theorem own_dr1T_41 : decode prog_47_method_9_code 41 = .ok (.istore 4, 2) := by decide +kernel
theorem own_dr1T_43 : decode prog_47_method_9_code 43 = .ok (.aload_n 0, 1) := by decide +kernel
theorem own_dr1T_44 : decode prog_47_method_9_code 44 = .ok (.getfield 24, 3) := by decide +kernel
theorem own_dr1T_47 : decode prog_47_method_9_code 47 = .ok (.iload_n 2, 1) := by decide +kernel
theorem own_dr1T_48 : decode prog_47_method_9_code 48 = .ok (.aload_n 0, 1) := by decide +kernel
theorem own_dr1T_49 : decode prog_47_method_9_code 49 = .ok (.getfield 24, 3) := by decide +kernel
theorem own_dr1T_52 : decode prog_47_method_9_code 52 = .ok (.iload_n 3, 1) := by decide +kernel
theorem own_dr1T_53 : decode prog_47_method_9_code 53 = .ok (.iaload, 1) := by decide +kernel
theorem own_dr1T_54 : decode prog_47_method_9_code 54 = .ok (.iastore, 1) := by decide +kernel
theorem own_dr1T_55 : decode prog_47_method_9_code 55 = .ok (.aload_n 0, 1) := by decide +kernel
theorem own_dr1T_56 : decode prog_47_method_9_code 56 = .ok (.getfield 24, 3) := by decide +kernel
theorem own_dr1T_59 : decode prog_47_method_9_code 59 = .ok (.iload_n 3, 1) := by decide +kernel
theorem own_dr1T_60 : decode prog_47_method_9_code 60 = .ok (.iload 4, 2) := by decide +kernel
theorem own_dr1T_62 : decode prog_47_method_9_code 62 = .ok (.iastore, 1) := by decide +kernel
theorem own_dr1T_63 : decode prog_47_method_9_code 63 = .ok (.iload_n 3, 1) := by decide +kernel
theorem own_dr1T_64 : decode prog_47_method_9_code 64 = .ok (.istore_n 2, 1) := by decide +kernel
theorem own_dr1T_65 : decode prog_47_method_9_code 65 = .ok (.goto (-63), 3) := by decide +kernel
theorem own_dr1T_68 : decode prog_47_method_9_code 68 = .ok (.return_, 1) := by decide +kernel
theorem own_efr1T (m : MethodId) (x0 : Addr) (x1 : Int32) : entryFrame m #[(.ref x0), (.int x1)] 5 = mkF m 0 #[rv x0, iv x1, u_, u_, u_] [] := by first | (simp [entryFrame, mkF, argsToLocals, Value.category]; done) | rfl
def own_Qr1T (Z : State) (a1 : Addr) (wA bA sA hA : Addr) (kw kb ks kh : ClassId) (reach : Int32) (w0 : Int64) (w1 : Int64) (b0 : Int64) (b1 : Int64) (s0 : Int64) (s1 : Int64) (fg : Int64) (rk : Int32) (bs : Int32) (sz : Int32) (h0 : Heap) (n0 : Nat) : Option Value → Heap → List Loc → Prop := fun v h L => v = none ∧ Fr n0 L ∧ Keep h0 h [a1, wA, bA, sA, hA] ∧ own_CQ Z h a1 wA bA sA hA kw kb ks kh reach w0 w1 b0 b1 s0 s1 (1 : Int32) (0 : Int32) fg rk bs sz
def own_Rr1T : Room := { frames := 1, cells := 0, slots := 0, locals := 18 }
set_option maxRecDepth 65536 in
set_option maxHeartbeats 40000000 in
theorem own_rmr1T (l : Launch) (Z : State) (a0 : Array Value) (hw : ∀ d ∈ tables_1, d.before a0 Z = true) (ws : List Jvm.Cond) (a1 : Addr) (wA bA sA hA : Addr) (kw kb ks kh : ClassId) (reach : Int32) (w0 : Int64) (w1 : Int64) (b0 : Int64) (b1 : Int64) (s0 : Int64) (s1 : Int64) (fg : Int64) (rk : Int32) (bs : Int32) (sz : Int32) (h0 : Heap) (n0 : Nat) (Z0 : n0 ≤ h0.size) (hCQ : own_CQ Z h0 a1 wA bA sA hA kw kb ks kh reach w0 w1 b0 b1 s0 s1 (0 : Int32) (1 : Int32) fg rk bs sz) (hNE : own_NE a1 wA bA sA hA) (hGE : own_GE n0 a1 wA bA sA hA) (m_w0 : own_Mg 8 w0) (m_w1 : own_Mg 8 w1) (m_b0 : own_Mg 8 b0) (m_b1 : own_Mg 8 b1) (hb0 : (0 : Int64) < b0) (hb1 : (0 : Int64) < b1) (hw0 : ¬ w0 < (0 : Int64)) (hw1 : ¬ w1 < (0 : Int64)) (hld : (own_ld (b1 * w0) (b0 * w1) (1 : Int32) (0 : Int32)) = true) :
    own_Met l Z own_y1 prog_47_method_9_code 5 none ws own_Rr1T h0 #[(.ref a1), (.int 1)] (own_Qr1T Z a1 wA bA sA hA kw kb ks kh reach w0 w1 b0 b1 s0 s1 fg rk bs sz h0 n0) own_Rr1T.cells own_Rr1T.slots := by
  refine own_start (plainFor_of_name own_pn0) ?_
  intro p e s m below meth c s₁ X0 hx hZ hby hml hret hlk hown hnm e0
  have hown : s.vm.findClass "com/example/allotrope/allotrope/procure/CoverQueue" = some m.cls := hown
  have hml : c.maxLocals = 5 := hml
  have N0 := Fr.nil n0
  refine own_cast (own_efr1T m a1 (1 : Int32)) ?_
  obtain ⟨ne_a1_wA, ne_a1_bA, ne_a1_sA, ne_a1_hA, ne_wA_bA, ne_wA_sA, ne_wA_hA, ne_bA_sA, ne_bA_hA, ne_sA_hA⟩ := id hNE
  obtain ⟨g_a1, g_wA, g_bA, g_sA, g_hA⟩ := id hGE
  obtain ⟨u1_0, u1_1, u1_2, u1_3, u1_4, u1_5, u1_6, u1_7, u1_8, u1_9, u1_10, u1_11, u1_12, u1_13⟩ := id hCQ
  refine own_s s₁ (mkF m 7 #[rv a1, iv 1, iv 1, u_, u_] [(.ref a1)]) (fun _ k => XS.iloadN X0.here hx rfl (hb hby own_dr1T_0) rfl  (XS.istoreN X0.here hx rfl (hb hby own_dr1T_1) rfl (l' := #[rv a1, iv 1, iv 1, u_, u_]) rfl (XS.iloadN X0.here hx rfl (hb hby own_dr1T_2) rfl  (XS.ifNo X0.here hx rfl (hb hby own_dr1T_3) rfl ((if0 _ _).trans (tlt (by decide : ((0 : Int32) < (1 : Int32)))).2.2.2) (XS.aloadN X0.here hx rfl (hb hby own_dr1T_6) rfl rfl k))))) ?_
  refine own_s s₁ (mkF m 8 #[rv a1, iv 1, iv 1, u_, u_] [(.ref a1), (.ref a1)]) (fun _ k => XS.aloadN X0.here hx rfl (hb hby own_dr1T_7) rfl rfl k) ?_
  obtain ⟨T2, X2, e2, st2⟩ := getF X0 hx hZ hown (host := "") (Or.inl (own_h hw 20 rfl)) Via.refl e0 u1_5 (g := (mkF m 8 #[rv a1, iv 1, iv 1, u_, u_] [(.ref a1), (.ref a1)])) rfl rfl (hb hby own_dr1T_8)
  refine own_s T2 (mkF m 11 #[rv a1, iv 1, iv 1, u_, u_] [(.ref hA), (.ref a1)]) st2 ?_
  refine own_s T2 (mkF m 12 #[rv a1, iv 1, iv 1, u_, u_] [(.int 1), (.ref hA), (.ref a1)]) (fun _ k => XS.iloadN X2.here hx rfl (hb hby own_dr1T_11) rfl  k) ?_
  obtain ⟨cl3, Ar3, q3, S3, Nn3, H3, G3⟩ := id u1_13
  have hin3 : ¬ ((1 : Int32) < 0 ∨ cl3.slots.size ≤ ((1 : Int32)).toNatClampNeg) := (inb_of S3 ⟨by decide, by decide⟩)
  refine own_s T2 (mkF m 14 #[rv a1, iv 1, iv 1, u_, u_] [(.ref a1), (.int 1), (.ref a1)]) (fun _ k => X2.iaload hx (j := (1 : Int32)) (v := (.int 1)) (own_at e2 Ar3.1) (State.isArrayOf_alike hZ.alike Ar3.2.1) Ar3.2.2 hin3 (Has.at H3 hin3 rfl) (g := (mkF m 12 #[rv a1, iv 1, iv 1, u_, u_] [(.int 1), (.ref hA), (.ref a1)])) rfl rfl (hb hby own_dr1T_12) _ (XS.aloadN X2.here hx rfl (hb hby own_dr1T_13) rfl rfl k)) ?_
  obtain ⟨T4, X4, e4, st4⟩ := getF X2 hx hZ hown (host := "") (Or.inl (own_h hw 20 rfl)) Via.refl e2 u1_5 (g := (mkF m 14 #[rv a1, iv 1, iv 1, u_, u_] [(.ref a1), (.int 1), (.ref a1)])) rfl rfl (hb hby own_dr1T_14)
  refine own_s T4 (mkF m 17 #[rv a1, iv 1, iv 1, u_, u_] [(.ref hA), (.int 1), (.ref a1)]) st4 ?_
  refine own_s T4 (mkF m 22 #[rv a1, iv 1, iv 1, u_, u_] [(.int 0), (.ref hA), (.int 1), (.ref a1)]) (fun _ k => XS.iloadN X4.here hx rfl (hb hby own_dr1T_17) rfl  (XS.iconst X4.here hx rfl (hb hby own_dr1T_18) (XS.isub X4.here hx rfl (hb hby own_dr1T_19) rfl (XS.iconst X4.here hx rfl (hb hby own_dr1T_20) (XS.idiv X4.here hx rfl (hb hby own_dr1T_21) rfl (by decide) k))))) ?_
  obtain ⟨cl5, Ar5, q5, S5, Nn5, H5, G5⟩ := id u1_13
  have hin5 : ¬ ((0 : Int32) < 0 ∨ cl5.slots.size ≤ ((0 : Int32)).toNatClampNeg) := (inb_of S5 ⟨by decide, by decide⟩)
  refine own_s T4 (mkF m 23 #[rv a1, iv 1, iv 1, u_, u_] [(.int 0), (.int 1), (.ref a1)]) (fun _ k => X4.iaload hx (j := (0 : Int32)) (v := (.int 0)) (own_at e4 Ar5.1) (State.isArrayOf_alike hZ.alike Ar5.2.1) Ar5.2.2 hin5 (Has.at H5 hin5 rfl) (g := (mkF m 22 #[rv a1, iv 1, iv 1, u_, u_] [(.int 0), (.ref hA), (.int 1), (.ref a1)])) rfl rfl (hb hby own_dr1T_22) _ k) ?_
  obtain ⟨v6, T6, L6, X6, hQ6, st6⟩ := own_callP X4 hx hZ (y := own_y0) (W := 0) (a := a1) hown (own_h hw 68 rfl) (own_h hw 69 rfl) (own_h hw 1 rfl) (own_h hw 70 rfl) (own_h hw 2 rfl) (own_h hw 71 rfl) (by decide) (own_rmld10 l Z a0 hw [] a1 wA bA sA hA kw kb ks kh reach w0 w1 b0 b1 s0 s1 (0 : Int32) (1 : Int32) fg rk bs sz h0 n0 Z0 ⟨u1_0, u1_1, u1_2, u1_3, u1_4, u1_5, u1_6, u1_7, u1_8, u1_9, u1_10, u1_11, u1_12, u1_13⟩ m_w0 m_w1 m_b0 m_b1 hb0 hb1 hw0 hw1) (by decide) (by decide) u1_0 (g := (mkF m 23 #[rv a1, iv 1, iv 1, u_, u_] [(.int 0), (.int 1), (.ref a1)])) rfl (by rw [hml]; rfl) (argsL := [(.int 1), (.int 0)]) (rest := []) rfl (lenOf own_pd0 rfl) rfl (by show 2 * 0 + _ ≤ _; exact Nat.le_of_eq rfl) (hb hby own_dr1T_23) e4 (by decide) (by decide)
  obtain ⟨rfl, Nq6, e6⟩ := hQ6
  have N6 := Fr.app N0 Nq6
  refine own_s T6 (mkF m 26 #[rv a1, iv 1, iv 1, u_, u_] [(.int (own_b (own_ld (b1 * w0) (b0 * w1) (1 : Int32) (0 : Int32))))]) st6 ?_
  refine own_s T6 (mkF m 33 #[rv a1, iv 1, iv 1, u_, u_] [(.int 2), (.int 0)]) (fun _ k => XS.ifNo X6.here hx rfl (hb hby own_dr1T_26) rfl ((if0 _ _).trans (feq (own_b1 (by simp [hld]))).1) (XS.iloadN X6.here hx rfl (hb hby own_dr1T_29) rfl  (XS.iconst X6.here hx rfl (hb hby own_dr1T_30) (XS.isub X6.here hx rfl (hb hby own_dr1T_31) rfl (XS.iconst X6.here hx rfl (hb hby own_dr1T_32) k))))) ?_
  refine own_s T6 (mkF m 36 #[rv a1, iv 1, iv 1, iv 0, u_] [(.ref a1)]) (fun _ k => XS.idiv X6.here hx rfl (hb hby own_dr1T_33) rfl (by decide) (XS.istoreN X6.here hx rfl (hb hby own_dr1T_34) rfl (l' := #[rv a1, iv 1, iv 1, iv 0, u_]) rfl (XS.aloadN X6.here hx rfl (hb hby own_dr1T_35) rfl rfl k))) ?_
  obtain ⟨T7, X7, e7, st7⟩ := getF X6 hx hZ hown (host := "") (Or.inl (own_h hw 20 rfl)) Via.refl e6 u1_5 (g := (mkF m 36 #[rv a1, iv 1, iv 1, iv 0, u_] [(.ref a1)])) rfl rfl (hb hby own_dr1T_36)
  refine own_s T7 (mkF m 39 #[rv a1, iv 1, iv 1, iv 0, u_] [(.ref hA)]) st7 ?_
  refine own_s T7 (mkF m 40 #[rv a1, iv 1, iv 1, iv 0, u_] [(.int 1), (.ref hA)]) (fun _ k => XS.iloadN X7.here hx rfl (hb hby own_dr1T_39) rfl  k) ?_
  obtain ⟨cl8, Ar8, q8, S8, Nn8, H8, G8⟩ := id u1_13
  have hin8 : ¬ ((1 : Int32) < 0 ∨ cl8.slots.size ≤ ((1 : Int32)).toNatClampNeg) := (inb_of S8 ⟨by decide, by decide⟩)
  refine own_s T7 (mkF m 44 #[rv a1, iv 1, iv 1, iv 0, iv 1] [(.ref a1)]) (fun _ k => X7.iaload hx (j := (1 : Int32)) (v := (.int 1)) (own_at e7 Ar8.1) (State.isArrayOf_alike hZ.alike Ar8.2.1) Ar8.2.2 hin8 (Has.at H8 hin8 rfl) (g := (mkF m 40 #[rv a1, iv 1, iv 1, iv 0, u_] [(.int 1), (.ref hA)])) rfl rfl (hb hby own_dr1T_40) _ (XS.istore X7.here hx rfl (hb hby own_dr1T_41) rfl (l' := #[rv a1, iv 1, iv 1, iv 0, iv 1]) rfl (XS.aloadN X7.here hx rfl (hb hby own_dr1T_43) rfl rfl k))) ?_
  obtain ⟨T9, X9, e9, st9⟩ := getF X7 hx hZ hown (host := "") (Or.inl (own_h hw 20 rfl)) Via.refl e7 u1_5 (g := (mkF m 44 #[rv a1, iv 1, iv 1, iv 0, iv 1] [(.ref a1)])) rfl rfl (hb hby own_dr1T_44)
  refine own_s T9 (mkF m 47 #[rv a1, iv 1, iv 1, iv 0, iv 1] [(.ref hA)]) st9 ?_
  refine own_s T9 (mkF m 49 #[rv a1, iv 1, iv 1, iv 0, iv 1] [(.ref a1), (.int 1), (.ref hA)]) (fun _ k => XS.iloadN X9.here hx rfl (hb hby own_dr1T_47) rfl  (XS.aloadN X9.here hx rfl (hb hby own_dr1T_48) rfl rfl k)) ?_
  obtain ⟨T10, X10, e10, st10⟩ := getF X9 hx hZ hown (host := "") (Or.inl (own_h hw 20 rfl)) Via.refl e9 u1_5 (g := (mkF m 49 #[rv a1, iv 1, iv 1, iv 0, iv 1] [(.ref a1), (.int 1), (.ref hA)])) rfl rfl (hb hby own_dr1T_49)
  refine own_s T10 (mkF m 52 #[rv a1, iv 1, iv 1, iv 0, iv 1] [(.ref hA), (.int 1), (.ref hA)]) st10 ?_
  refine own_s T10 (mkF m 53 #[rv a1, iv 1, iv 1, iv 0, iv 1] [(.int 0), (.ref hA), (.int 1), (.ref hA)]) (fun _ k => XS.iloadN X10.here hx rfl (hb hby own_dr1T_52) rfl  k) ?_
  obtain ⟨cl11, Ar11, q11, S11, Nn11, H11, G11⟩ := id u1_13
  have hin11 : ¬ ((0 : Int32) < 0 ∨ cl11.slots.size ≤ ((0 : Int32)).toNatClampNeg) := (inb_of S11 ⟨by decide, by decide⟩)
  refine own_s T10 (mkF m 54 #[rv a1, iv 1, iv 1, iv 0, iv 1] [(.int 0), (.int 1), (.ref hA)]) (fun _ k => X10.iaload hx (j := (0 : Int32)) (v := (.int 0)) (own_at e10 Ar11.1) (State.isArrayOf_alike hZ.alike Ar11.2.1) Ar11.2.2 hin11 (Has.at H11 hin11 rfl) (g := (mkF m 53 #[rv a1, iv 1, iv 1, iv 0, iv 1] [(.int 0), (.ref hA), (.int 1), (.ref hA)])) rfl rfl (hb hby own_dr1T_53) _ k) ?_
  obtain ⟨cl12, Ar12, q12, S12, Nn12, H12, G12⟩ := id u1_13
  have hin12 : ¬ ((1 : Int32) < 0 ∨ cl12.slots.size ≤ ((1 : Int32)).toNatClampNeg) := (inb_of S12 ⟨by decide, by decide⟩)
  obtain ⟨T12, h12, X12, e12, W12, st12⟩ := stI X10 hx hZ e10 Ar12 (j := (1 : Int32)) hin12 (g := (mkF m 54 #[rv a1, iv 1, iv 1, iv 0, iv 1] [(.int 0), (.int 1), (.ref hA)])) rfl rfl (hb hby own_dr1T_54)
  have f12 : Arv Z h12 hA kh .int (2 : Int32) [(.int 0), (.int 0)] (.int 0) := Arv.set Ar12 q12 S12 Nn12 H12 G12 rfl W12 1 rfl (Nat.le_of_ble_eq_true rfl)
  have f13 := Exa.wr W12 u1_0
  have f14 := Fld.other W12 u1_1 (Or.inl ne_a1_hA)
  have f15 := Fld.other W12 u1_2 (Or.inl ne_a1_hA)
  have f16 := Fld.other W12 u1_3 (Or.inl ne_a1_hA)
  have f17 := Fld.other W12 u1_4 (Or.inl ne_a1_hA)
  have f18 := Fld.other W12 u1_5 (Or.inl ne_a1_hA)
  have f19 := Fld.other W12 u1_6 (Or.inl ne_a1_hA)
  have f20 := Fld.other W12 u1_7 (Or.inl ne_a1_hA)
  have f21 := Fld.other W12 u1_8 (Or.inl ne_a1_hA)
  have f22 := Fld.other W12 u1_9 (Or.inl ne_a1_hA)
  have f23 := u1_10.other W12 ne_wA_hA
  have f24 := u1_11.other W12 ne_bA_hA
  have f25 := u1_12.other W12 ne_sA_hA
  have K12 : Keep h0 h12 [a1, wA, bA, sA, hA] := (Keep.refl h0 [a1, wA, bA, sA, hA]).wr W12 (Or.inl (List.mem_of_getElem? (i := 4) rfl))
  have Z12 := Nat.le_trans Z0 (Nat.le_of_eq W12.size.symm)
  have N12 := Fr.snoc X12 N6 g_hA
  refine own_s T12 (mkF m 55 #[rv a1, iv 1, iv 1, iv 0, iv 1] []) st12 ?_
  refine own_s T12 (mkF m 56 #[rv a1, iv 1, iv 1, iv 0, iv 1] [(.ref a1)]) (fun _ k => XS.aloadN X12.here hx rfl (hb hby own_dr1T_55) rfl rfl k) ?_
  obtain ⟨T26, X26, e26, st26⟩ := getF X12 hx hZ hown (host := "") (Or.inl (own_h hw 20 rfl)) Via.refl e12 f18 (g := (mkF m 56 #[rv a1, iv 1, iv 1, iv 0, iv 1] [(.ref a1)])) rfl rfl (hb hby own_dr1T_56)
  refine own_s T26 (mkF m 59 #[rv a1, iv 1, iv 1, iv 0, iv 1] [(.ref hA)]) st26 ?_
  refine own_s T26 (mkF m 62 #[rv a1, iv 1, iv 1, iv 0, iv 1] [(.int 1), (.int 0), (.ref hA)]) (fun _ k => XS.iloadN X26.here hx rfl (hb hby own_dr1T_59) rfl  (XS.iload X26.here hx rfl (hb hby own_dr1T_60) rfl  k)) ?_
  obtain ⟨cl27, Ar27, q27, S27, Nn27, H27, G27⟩ := id f12
  have hin27 : ¬ ((0 : Int32) < 0 ∨ cl27.slots.size ≤ ((0 : Int32)).toNatClampNeg) := (inb_of S27 ⟨by decide, by decide⟩)
  obtain ⟨T27, h27, X27, e27, W27, st27⟩ := stI X26 hx hZ e26 Ar27 (j := (0 : Int32)) hin27 (g := (mkF m 62 #[rv a1, iv 1, iv 1, iv 0, iv 1] [(.int 1), (.int 0), (.ref hA)])) rfl rfl (hb hby own_dr1T_62)
  have f27 : Arv Z h27 hA kh .int (2 : Int32) [(.int 1), (.int 0)] (.int 0) := Arv.set Ar27 q27 S27 Nn27 H27 G27 rfl W27 0 rfl (Nat.le_of_ble_eq_true rfl)
  have f28 := Exa.wr W27 f13
  have f29 := Fld.other W27 f14 (Or.inl ne_a1_hA)
  have f30 := Fld.other W27 f15 (Or.inl ne_a1_hA)
  have f31 := Fld.other W27 f16 (Or.inl ne_a1_hA)
  have f32 := Fld.other W27 f17 (Or.inl ne_a1_hA)
  have f33 := Fld.other W27 f18 (Or.inl ne_a1_hA)
  have f34 := Fld.other W27 f19 (Or.inl ne_a1_hA)
  have f35 := Fld.other W27 f20 (Or.inl ne_a1_hA)
  have f36 := Fld.other W27 f21 (Or.inl ne_a1_hA)
  have f37 := Fld.other W27 f22 (Or.inl ne_a1_hA)
  have f38 := f23.other W27 ne_wA_hA
  have f39 := f24.other W27 ne_bA_hA
  have f40 := f25.other W27 ne_sA_hA
  have K27 : Keep h0 h27 [a1, wA, bA, sA, hA] := K12.wr W27 (Or.inl (List.mem_of_getElem? (i := 4) rfl))
  have Z27 := Nat.le_trans Z12 (Nat.le_of_eq W27.size.symm)
  have N27 := Fr.snoc X27 N12 g_hA
  refine own_s T27 (mkF m 63 #[rv a1, iv 1, iv 1, iv 0, iv 1] []) st27 ?_
  refine own_s T27 (mkF m 68 #[rv a1, iv 1, iv 0, iv 0, iv 1] []) (fun _ k => XS.iloadN X27.here hx rfl (hb hby own_dr1T_63) rfl  (XS.istoreN X27.here hx rfl (hb hby own_dr1T_64) rfl (l' := #[rv a1, iv 1, iv 0, iv 0, iv 1]) rfl (XS.goto X27.here hx rfl (pc0 := 65) (pc' := 2) rfl (hb hby own_dr1T_65) (by decide) (by decide) (XS.iloadN X27.here hx rfl (hb hby own_dr1T_2) rfl  (XS.ifYes X27.here hx rfl (pc0 := 3) (pc' := 68) rfl (hb hby own_dr1T_3) rfl ((if0 _ _).trans (flt (by decide : ¬ ((0 : Int32) < (0 : Int32)))).2.2.2) (by decide) (by decide) k))))) ?_
  exact own_finV X27 hx hret (hb hby own_dr1T_68) (own_end (Qv := (own_Qr1T Z a1 wA bA sA hA kw kb ks kh reach w0 w1 b0 b1 s0 s1 fg rk bs sz h0 n0)) X27 (fun _ => rfl) hlk (by decide) (by decide) e27 ⟨rfl, N27, K27, ⟨f28, f29, f30, f31, f32, f33, f34, f35, f36, f37, f38, f39, f40, f27⟩⟩)
theorem own_dr1F_0 : decode prog_47_method_9_code 0 = .ok (.iload_n 1, 1) := by decide +kernel
theorem own_dr1F_1 : decode prog_47_method_9_code 1 = .ok (.istore_n 2, 1) := by decide +kernel
theorem own_dr1F_2 : decode prog_47_method_9_code 2 = .ok (.iload_n 2, 1) := by decide +kernel
theorem own_dr1F_3 : decode prog_47_method_9_code 3 = .ok (.ifCond .le 65, 3) := by decide +kernel
theorem own_dr1F_6 : decode prog_47_method_9_code 6 = .ok (.aload_n 0, 1) := by decide +kernel
theorem own_dr1F_7 : decode prog_47_method_9_code 7 = .ok (.aload_n 0, 1) := by decide +kernel
theorem own_dr1F_8 : decode prog_47_method_9_code 8 = .ok (.getfield 24, 3) := by decide +kernel
theorem own_dr1F_11 : decode prog_47_method_9_code 11 = .ok (.iload_n 2, 1) := by decide +kernel
theorem own_dr1F_12 : decode prog_47_method_9_code 12 = .ok (.iaload, 1) := by decide +kernel
theorem own_dr1F_13 : decode prog_47_method_9_code 13 = .ok (.aload_n 0, 1) := by decide +kernel
theorem own_dr1F_14 : decode prog_47_method_9_code 14 = .ok (.getfield 24, 3) := by decide +kernel
theorem own_dr1F_17 : decode prog_47_method_9_code 17 = .ok (.iload_n 2, 1) := by decide +kernel
theorem own_dr1F_18 : decode prog_47_method_9_code 18 = .ok (.iconst 1, 1) := by decide +kernel
theorem own_dr1F_19 : decode prog_47_method_9_code 19 = .ok (.isub, 1) := by decide +kernel
theorem own_dr1F_20 : decode prog_47_method_9_code 20 = .ok (.iconst 2, 1) := by decide +kernel
theorem own_dr1F_21 : decode prog_47_method_9_code 21 = .ok (.idiv, 1) := by decide +kernel
theorem own_dr1F_22 : decode prog_47_method_9_code 22 = .ok (.iaload, 1) := by decide +kernel
theorem own_dr1F_23 : decode prog_47_method_9_code 23 = .ok (.invokevirtual 48, 3) := by decide +kernel
theorem own_dr1F_26 : decode prog_47_method_9_code 26 = .ok (.ifCond .eq 42, 3) := by decide +kernel
theorem own_dr1F_68 : decode prog_47_method_9_code 68 = .ok (.return_, 1) := by decide +kernel
theorem own_efr1F (m : MethodId) (x0 : Addr) (x1 : Int32) : entryFrame m #[(.ref x0), (.int x1)] 5 = mkF m 0 #[rv x0, iv x1, u_, u_, u_] [] := by first | (simp [entryFrame, mkF, argsToLocals, Value.category]; done) | rfl
def own_Qr1F (Z : State) (a1 : Addr) (wA bA sA hA : Addr) (kw kb ks kh : ClassId) (reach : Int32) (w0 : Int64) (w1 : Int64) (b0 : Int64) (b1 : Int64) (s0 : Int64) (s1 : Int64) (fg : Int64) (rk : Int32) (bs : Int32) (sz : Int32) (h0 : Heap) (n0 : Nat) : Option Value → Heap → List Loc → Prop := fun v h L => v = none ∧ Fr n0 L ∧ Keep h0 h [a1, wA, bA, sA, hA] ∧ own_CQ Z h a1 wA bA sA hA kw kb ks kh reach w0 w1 b0 b1 s0 s1 (0 : Int32) (1 : Int32) fg rk bs sz
def own_Rr1F : Room := { frames := 1, cells := 0, slots := 0, locals := 18 }
set_option maxRecDepth 65536 in
set_option maxHeartbeats 40000000 in
theorem own_rmr1F (l : Launch) (Z : State) (a0 : Array Value) (hw : ∀ d ∈ tables_1, d.before a0 Z = true) (ws : List Jvm.Cond) (a1 : Addr) (wA bA sA hA : Addr) (kw kb ks kh : ClassId) (reach : Int32) (w0 : Int64) (w1 : Int64) (b0 : Int64) (b1 : Int64) (s0 : Int64) (s1 : Int64) (fg : Int64) (rk : Int32) (bs : Int32) (sz : Int32) (h0 : Heap) (n0 : Nat) (Z0 : n0 ≤ h0.size) (hCQ : own_CQ Z h0 a1 wA bA sA hA kw kb ks kh reach w0 w1 b0 b1 s0 s1 (0 : Int32) (1 : Int32) fg rk bs sz) (hNE : own_NE a1 wA bA sA hA) (hGE : own_GE n0 a1 wA bA sA hA) (m_w0 : own_Mg 8 w0) (m_w1 : own_Mg 8 w1) (m_b0 : own_Mg 8 b0) (m_b1 : own_Mg 8 b1) (hb0 : (0 : Int64) < b0) (hb1 : (0 : Int64) < b1) (hw0 : ¬ w0 < (0 : Int64)) (hw1 : ¬ w1 < (0 : Int64)) (hld : (own_ld (b1 * w0) (b0 * w1) (1 : Int32) (0 : Int32)) = false) :
    own_Met l Z own_y1 prog_47_method_9_code 5 none ws own_Rr1F h0 #[(.ref a1), (.int 1)] (own_Qr1F Z a1 wA bA sA hA kw kb ks kh reach w0 w1 b0 b1 s0 s1 fg rk bs sz h0 n0) own_Rr1F.cells own_Rr1F.slots := by
  refine own_start (plainFor_of_name own_pn0) ?_
  intro p e s m below meth c s₁ X0 hx hZ hby hml hret hlk hown hnm e0
  have hown : s.vm.findClass "com/example/allotrope/allotrope/procure/CoverQueue" = some m.cls := hown
  have hml : c.maxLocals = 5 := hml
  have N0 := Fr.nil n0
  refine own_cast (own_efr1F m a1 (1 : Int32)) ?_
  obtain ⟨ne_a1_wA, ne_a1_bA, ne_a1_sA, ne_a1_hA, ne_wA_bA, ne_wA_sA, ne_wA_hA, ne_bA_sA, ne_bA_hA, ne_sA_hA⟩ := id hNE
  obtain ⟨g_a1, g_wA, g_bA, g_sA, g_hA⟩ := id hGE
  obtain ⟨u1_0, u1_1, u1_2, u1_3, u1_4, u1_5, u1_6, u1_7, u1_8, u1_9, u1_10, u1_11, u1_12, u1_13⟩ := id hCQ
  refine own_s s₁ (mkF m 7 #[rv a1, iv 1, iv 1, u_, u_] [(.ref a1)]) (fun _ k => XS.iloadN X0.here hx rfl (hb hby own_dr1F_0) rfl  (XS.istoreN X0.here hx rfl (hb hby own_dr1F_1) rfl (l' := #[rv a1, iv 1, iv 1, u_, u_]) rfl (XS.iloadN X0.here hx rfl (hb hby own_dr1F_2) rfl  (XS.ifNo X0.here hx rfl (hb hby own_dr1F_3) rfl ((if0 _ _).trans (tlt (by decide : ((0 : Int32) < (1 : Int32)))).2.2.2) (XS.aloadN X0.here hx rfl (hb hby own_dr1F_6) rfl rfl k))))) ?_
  refine own_s s₁ (mkF m 8 #[rv a1, iv 1, iv 1, u_, u_] [(.ref a1), (.ref a1)]) (fun _ k => XS.aloadN X0.here hx rfl (hb hby own_dr1F_7) rfl rfl k) ?_
  obtain ⟨T2, X2, e2, st2⟩ := getF X0 hx hZ hown (host := "") (Or.inl (own_h hw 20 rfl)) Via.refl e0 u1_5 (g := (mkF m 8 #[rv a1, iv 1, iv 1, u_, u_] [(.ref a1), (.ref a1)])) rfl rfl (hb hby own_dr1F_8)
  refine own_s T2 (mkF m 11 #[rv a1, iv 1, iv 1, u_, u_] [(.ref hA), (.ref a1)]) st2 ?_
  refine own_s T2 (mkF m 12 #[rv a1, iv 1, iv 1, u_, u_] [(.int 1), (.ref hA), (.ref a1)]) (fun _ k => XS.iloadN X2.here hx rfl (hb hby own_dr1F_11) rfl  k) ?_
  obtain ⟨cl3, Ar3, q3, S3, Nn3, H3, G3⟩ := id u1_13
  have hin3 : ¬ ((1 : Int32) < 0 ∨ cl3.slots.size ≤ ((1 : Int32)).toNatClampNeg) := (inb_of S3 ⟨by decide, by decide⟩)
  refine own_s T2 (mkF m 14 #[rv a1, iv 1, iv 1, u_, u_] [(.ref a1), (.int 1), (.ref a1)]) (fun _ k => X2.iaload hx (j := (1 : Int32)) (v := (.int 1)) (own_at e2 Ar3.1) (State.isArrayOf_alike hZ.alike Ar3.2.1) Ar3.2.2 hin3 (Has.at H3 hin3 rfl) (g := (mkF m 12 #[rv a1, iv 1, iv 1, u_, u_] [(.int 1), (.ref hA), (.ref a1)])) rfl rfl (hb hby own_dr1F_12) _ (XS.aloadN X2.here hx rfl (hb hby own_dr1F_13) rfl rfl k)) ?_
  obtain ⟨T4, X4, e4, st4⟩ := getF X2 hx hZ hown (host := "") (Or.inl (own_h hw 20 rfl)) Via.refl e2 u1_5 (g := (mkF m 14 #[rv a1, iv 1, iv 1, u_, u_] [(.ref a1), (.int 1), (.ref a1)])) rfl rfl (hb hby own_dr1F_14)
  refine own_s T4 (mkF m 17 #[rv a1, iv 1, iv 1, u_, u_] [(.ref hA), (.int 1), (.ref a1)]) st4 ?_
  refine own_s T4 (mkF m 22 #[rv a1, iv 1, iv 1, u_, u_] [(.int 0), (.ref hA), (.int 1), (.ref a1)]) (fun _ k => XS.iloadN X4.here hx rfl (hb hby own_dr1F_17) rfl  (XS.iconst X4.here hx rfl (hb hby own_dr1F_18) (XS.isub X4.here hx rfl (hb hby own_dr1F_19) rfl (XS.iconst X4.here hx rfl (hb hby own_dr1F_20) (XS.idiv X4.here hx rfl (hb hby own_dr1F_21) rfl (by decide) k))))) ?_
  obtain ⟨cl5, Ar5, q5, S5, Nn5, H5, G5⟩ := id u1_13
  have hin5 : ¬ ((0 : Int32) < 0 ∨ cl5.slots.size ≤ ((0 : Int32)).toNatClampNeg) := (inb_of S5 ⟨by decide, by decide⟩)
  refine own_s T4 (mkF m 23 #[rv a1, iv 1, iv 1, u_, u_] [(.int 0), (.int 1), (.ref a1)]) (fun _ k => X4.iaload hx (j := (0 : Int32)) (v := (.int 0)) (own_at e4 Ar5.1) (State.isArrayOf_alike hZ.alike Ar5.2.1) Ar5.2.2 hin5 (Has.at H5 hin5 rfl) (g := (mkF m 22 #[rv a1, iv 1, iv 1, u_, u_] [(.int 0), (.ref hA), (.int 1), (.ref a1)])) rfl rfl (hb hby own_dr1F_22) _ k) ?_
  obtain ⟨v6, T6, L6, X6, hQ6, st6⟩ := own_callP X4 hx hZ (y := own_y0) (W := 0) (a := a1) hown (own_h hw 68 rfl) (own_h hw 69 rfl) (own_h hw 1 rfl) (own_h hw 70 rfl) (own_h hw 2 rfl) (own_h hw 71 rfl) (by decide) (own_rmld10 l Z a0 hw [] a1 wA bA sA hA kw kb ks kh reach w0 w1 b0 b1 s0 s1 (0 : Int32) (1 : Int32) fg rk bs sz h0 n0 Z0 ⟨u1_0, u1_1, u1_2, u1_3, u1_4, u1_5, u1_6, u1_7, u1_8, u1_9, u1_10, u1_11, u1_12, u1_13⟩ m_w0 m_w1 m_b0 m_b1 hb0 hb1 hw0 hw1) (by decide) (by decide) u1_0 (g := (mkF m 23 #[rv a1, iv 1, iv 1, u_, u_] [(.int 0), (.int 1), (.ref a1)])) rfl (by rw [hml]; rfl) (argsL := [(.int 1), (.int 0)]) (rest := []) rfl (lenOf own_pd0 rfl) rfl (by show 2 * 0 + _ ≤ _; exact Nat.le_of_eq rfl) (hb hby own_dr1F_23) e4 (by decide) (by decide)
  obtain ⟨rfl, Nq6, e6⟩ := hQ6
  have N6 := Fr.app N0 Nq6
  refine own_s T6 (mkF m 26 #[rv a1, iv 1, iv 1, u_, u_] [(.int (own_b (own_ld (b1 * w0) (b0 * w1) (1 : Int32) (0 : Int32))))]) st6 ?_
  refine own_s T6 (mkF m 68 #[rv a1, iv 1, iv 1, u_, u_] []) (fun _ k => XS.ifYes X6.here hx rfl (pc0 := 26) (pc' := 68) rfl (hb hby own_dr1F_26) rfl ((if0 _ _).trans (teq (own_b0 hld)).1) (by decide) (by decide) k) ?_
  exact own_finV X6 hx hret (hb hby own_dr1F_68) (own_end (Qv := (own_Qr1F Z a1 wA bA sA hA kw kb ks kh reach w0 w1 b0 b1 s0 s1 fg rk bs sz h0 n0)) X6 (fun _ => rfl) hlk (by decide) (by decide) e6 ⟨rfl, N6, (Keep.refl h0 [a1, wA, bA, sA, hA]), ⟨u1_0, u1_1, u1_2, u1_3, u1_4, u1_5, u1_6, u1_7, u1_8, u1_9, u1_10, u1_11, u1_12, u1_13⟩⟩)
abbrev own_y2 : MethodName := ⟨"com/example/allotrope/allotrope/procure/CoverQueue", "sink", "(I)V"⟩
theorem own_ds0_0 : decode prog_47_method_10_code 0 = .ok (.iload_n 1, 1) := by decide +kernel
theorem own_ds0_1 : decode prog_47_method_10_code 1 = .ok (.istore_n 2, 1) := by decide +kernel
theorem own_ds0_2 : decode prog_47_method_10_code 2 = .ok (.iconst 0, 1) := by decide +kernel
theorem own_ds0_3 : decode prog_47_method_10_code 3 = .ok (.istore_n 3, 1) := by decide +kernel
theorem own_ds0_4 : decode prog_47_method_10_code 4 = .ok (.iload_n 3, 1) := by decide +kernel
theorem own_ds0_5 : decode prog_47_method_10_code 5 = .ok (.ifCond .ne 139, 3) := by decide +kernel
theorem own_ds0_8 : decode prog_47_method_10_code 8 = .ok (.iload_n 2, 1) := by decide +kernel
theorem own_ds0_9 : decode prog_47_method_10_code 9 = .ok (.istore 4, 2) := by decide +kernel
theorem own_ds0_11 : decode prog_47_method_10_code 11 = .ok (.iconst 2, 1) := by decide +kernel
theorem own_ds0_12 : decode prog_47_method_10_code 12 = .ok (.iload_n 2, 1) := by decide +kernel
theorem own_ds0_13 : decode prog_47_method_10_code 13 = .ok (.imul, 1) := by decide +kernel
theorem own_ds0_14 : decode prog_47_method_10_code 14 = .ok (.iconst 1, 1) := by decide +kernel
theorem own_ds0_15 : decode prog_47_method_10_code 15 = .ok (.iadd, 1) := by decide +kernel
theorem own_ds0_16 : decode prog_47_method_10_code 16 = .ok (.istore 5, 2) := by decide +kernel
theorem own_ds0_18 : decode prog_47_method_10_code 18 = .ok (.iload 5, 2) := by decide +kernel
theorem own_ds0_20 : decode prog_47_method_10_code 20 = .ok (.aload_n 0, 1) := by decide +kernel
theorem own_ds0_21 : decode prog_47_method_10_code 21 = .ok (.getfield 31, 3) := by decide +kernel
theorem own_ds0_24 : decode prog_47_method_10_code 24 = .ok (.if_icmp .ge 28, 3) := by decide +kernel
theorem own_ds0_52 : decode prog_47_method_10_code 52 = .ok (.iload 5, 2) := by decide +kernel
theorem own_ds0_54 : decode prog_47_method_10_code 54 = .ok (.iconst 1, 1) := by decide +kernel
theorem own_ds0_55 : decode prog_47_method_10_code 55 = .ok (.iadd, 1) := by decide +kernel
theorem own_ds0_56 : decode prog_47_method_10_code 56 = .ok (.aload_n 0, 1) := by decide +kernel
theorem own_ds0_57 : decode prog_47_method_10_code 57 = .ok (.getfield 31, 3) := by decide +kernel
theorem own_ds0_60 : decode prog_47_method_10_code 60 = .ok (.if_icmp .ge 32, 3) := by decide +kernel
theorem own_ds0_92 : decode prog_47_method_10_code 92 = .ok (.iload 4, 2) := by decide +kernel
theorem own_ds0_94 : decode prog_47_method_10_code 94 = .ok (.iload_n 2, 1) := by decide +kernel
theorem own_ds0_95 : decode prog_47_method_10_code 95 = .ok (.if_icmp .ne 7, 3) := by decide +kernel
theorem own_ds0_98 : decode prog_47_method_10_code 98 = .ok (.iconst 1, 1) := by decide +kernel
theorem own_ds0_99 : decode prog_47_method_10_code 99 = .ok (.goto 4, 3) := by decide +kernel
theorem own_ds0_103 : decode prog_47_method_10_code 103 = .ok (.istore_n 3, 1) := by decide +kernel
theorem own_ds0_104 : decode prog_47_method_10_code 104 = .ok (.iload_n 3, 1) := by decide +kernel
theorem own_ds0_105 : decode prog_47_method_10_code 105 = .ok (.ifCond .ne 36, 3) := by decide +kernel
theorem own_ds0_141 : decode prog_47_method_10_code 141 = .ok (.goto (-137), 3) := by decide +kernel
theorem own_ds0_144 : decode prog_47_method_10_code 144 = .ok (.return_, 1) := by decide +kernel
theorem own_efs0 (m : MethodId) (x0 : Addr) (x1 : Int32) : entryFrame m #[(.ref x0), (.int x1)] 7 = mkF m 0 #[rv x0, iv x1, u_, u_, u_, u_, u_] [] := by first | (simp [entryFrame, mkF, argsToLocals, Value.category]; done) | rfl
def own_Qs0 (Z : State) (a1 : Addr) (wA bA sA hA : Addr) (kw kb ks kh : ClassId) (reach : Int32) (w0 : Int64) (w1 : Int64) (b0 : Int64) (b1 : Int64) (s0 : Int64) (s1 : Int64) (t0 : Int32) (t1 : Int32) (fg : Int64) (rk : Int32) (bs : Int32) (h0 : Heap) (n0 : Nat) : Option Value → Heap → List Loc → Prop := fun v h L => v = none ∧ Fr n0 L ∧ Keep h0 h [a1, wA, bA, sA, hA] ∧ own_CQ Z h a1 wA bA sA hA kw kb ks kh reach w0 w1 b0 b1 s0 s1 t0 t1 fg rk bs (0 : Int32)
def own_Rs0 : Room := { frames := 0, cells := 0, slots := 0, locals := 0 }
set_option maxRecDepth 65536 in
set_option maxHeartbeats 40000000 in
theorem own_rms0 (l : Launch) (Z : State) (a0 : Array Value) (hw : ∀ d ∈ tables_1, d.before a0 Z = true) (ws : List Jvm.Cond) (a1 : Addr) (wA bA sA hA : Addr) (kw kb ks kh : ClassId) (reach : Int32) (w0 : Int64) (w1 : Int64) (b0 : Int64) (b1 : Int64) (s0 : Int64) (s1 : Int64) (t0 : Int32) (t1 : Int32) (fg : Int64) (rk : Int32) (bs : Int32) (h0 : Heap) (n0 : Nat) (Z0 : n0 ≤ h0.size) (hCQ : own_CQ Z h0 a1 wA bA sA hA kw kb ks kh reach w0 w1 b0 b1 s0 s1 t0 t1 fg rk bs (0 : Int32)) (hNE : own_NE a1 wA bA sA hA) (hGE : own_GE n0 a1 wA bA sA hA) (m_w0 : own_Mg 8 w0) (m_w1 : own_Mg 8 w1) (m_b0 : own_Mg 8 b0) (m_b1 : own_Mg 8 b1) :
    own_Met l Z own_y2 prog_47_method_10_code 7 none ws own_Rs0 h0 #[(.ref a1), (.int 0)] (own_Qs0 Z a1 wA bA sA hA kw kb ks kh reach w0 w1 b0 b1 s0 s1 t0 t1 fg rk bs h0 n0) own_Rs0.cells own_Rs0.slots := by
  refine own_start (plainFor_of_name own_pn0) ?_
  intro p e s m below meth c s₁ X0 hx hZ hby hml hret hlk hown hnm e0
  have hown : s.vm.findClass "com/example/allotrope/allotrope/procure/CoverQueue" = some m.cls := hown
  have hml : c.maxLocals = 7 := hml
  have N0 := Fr.nil n0
  refine own_cast (own_efs0 m a1 (0 : Int32)) ?_
  obtain ⟨ne_a1_wA, ne_a1_bA, ne_a1_sA, ne_a1_hA, ne_wA_bA, ne_wA_sA, ne_wA_hA, ne_bA_sA, ne_bA_hA, ne_sA_hA⟩ := id hNE
  obtain ⟨g_a1, g_wA, g_bA, g_sA, g_hA⟩ := id hGE
  obtain ⟨u1_0, u1_1, u1_2, u1_3, u1_4, u1_5, u1_6, u1_7, u1_8, u1_9, u1_10, u1_11, u1_12, u1_13⟩ := id hCQ
  refine own_s s₁ (mkF m 5 #[rv a1, iv 0, iv 0, iv 0, u_, u_, u_] [(.int 0)]) (fun _ k => XS.iloadN X0.here hx rfl (hb hby own_ds0_0) rfl  (XS.istoreN X0.here hx rfl (hb hby own_ds0_1) rfl (l' := #[rv a1, iv 0, iv 0, u_, u_, u_, u_]) rfl (XS.iconst X0.here hx rfl (hb hby own_ds0_2) (XS.istoreN X0.here hx rfl (hb hby own_ds0_3) rfl (l' := #[rv a1, iv 0, iv 0, iv 0, u_, u_, u_]) rfl (XS.iloadN X0.here hx rfl (hb hby own_ds0_4) rfl  k))))) ?_
  refine own_s s₁ (mkF m 13 #[rv a1, iv 0, iv 0, iv 0, iv 0, u_, u_] [(.int 0), (.int 2)]) (fun _ k => XS.ifNo X0.here hx rfl (hb hby own_ds0_5) rfl ((if0 _ _).trans (teq (by decide : ((0 : Int32) = (0 : Int32)))).2) (XS.iloadN X0.here hx rfl (hb hby own_ds0_8) rfl  (XS.istore X0.here hx rfl (hb hby own_ds0_9) rfl (l' := #[rv a1, iv 0, iv 0, iv 0, iv 0, u_, u_]) rfl (XS.iconst X0.here hx rfl (hb hby own_ds0_11) (XS.iloadN X0.here hx rfl (hb hby own_ds0_12) rfl  k))))) ?_
  refine own_s s₁ (mkF m 20 #[rv a1, iv 0, iv 0, iv 0, iv 0, iv 1, u_] [(.int 1)]) (fun _ k => XS.imul X0.here hx rfl (hb hby own_ds0_13) rfl (XS.iconst X0.here hx rfl (hb hby own_ds0_14) (XS.iadd X0.here hx rfl (hb hby own_ds0_15) rfl (XS.istore X0.here hx rfl (hb hby own_ds0_16) rfl (l' := #[rv a1, iv 0, iv 0, iv 0, iv 0, iv 1, u_]) rfl (XS.iload X0.here hx rfl (hb hby own_ds0_18) rfl  k))))) ?_
  refine own_s s₁ (mkF m 21 #[rv a1, iv 0, iv 0, iv 0, iv 0, iv 1, u_] [(.ref a1), (.int 1)]) (fun _ k => XS.aloadN X0.here hx rfl (hb hby own_ds0_20) rfl rfl k) ?_
  obtain ⟨T2, X2, e2, st2⟩ := getF X0 hx hZ hown (host := "") (Or.inl (own_h hw 38 rfl)) Via.refl e0 u1_9 (g := (mkF m 21 #[rv a1, iv 0, iv 0, iv 0, iv 0, iv 1, u_] [(.ref a1), (.int 1)])) rfl rfl (hb hby own_ds0_21)
  refine own_s T2 (mkF m 24 #[rv a1, iv 0, iv 0, iv 0, iv 0, iv 1, u_] [(.int 0), (.int 1)]) st2 ?_
  refine own_s T2 (mkF m 57 #[rv a1, iv 0, iv 0, iv 0, iv 0, iv 1, u_] [(.ref a1), (.int 2)]) (fun _ k => XS.icmpYes X2.here hx rfl (pc0 := 24) (pc' := 52) rfl (hb hby own_ds0_24) rfl (flt (by decide : ¬ ((1 : Int32) < (0 : Int32)))).2.1 (by decide) (by decide) (XS.iload X2.here hx rfl (hb hby own_ds0_52) rfl  (XS.iconst X2.here hx rfl (hb hby own_ds0_54) (XS.iadd X2.here hx rfl (hb hby own_ds0_55) rfl (XS.aloadN X2.here hx rfl (hb hby own_ds0_56) rfl rfl k))))) ?_
  obtain ⟨T3, X3, e3, st3⟩ := getF X2 hx hZ hown (host := "") (Or.inl (own_h hw 38 rfl)) Via.refl e2 u1_9 (g := (mkF m 57 #[rv a1, iv 0, iv 0, iv 0, iv 0, iv 1, u_] [(.ref a1), (.int 2)])) rfl rfl (hb hby own_ds0_57)
  refine own_s T3 (mkF m 60 #[rv a1, iv 0, iv 0, iv 0, iv 0, iv 1, u_] [(.int 0), (.int 2)]) st3 ?_
  refine own_s T3 (mkF m 99 #[rv a1, iv 0, iv 0, iv 0, iv 0, iv 1, u_] [(.int 1)]) (fun _ k => XS.icmpYes X3.here hx rfl (pc0 := 60) (pc' := 92) rfl (hb hby own_ds0_60) rfl (flt (by decide : ¬ ((2 : Int32) < (0 : Int32)))).2.1 (by decide) (by decide) (XS.iload X3.here hx rfl (hb hby own_ds0_92) rfl  (XS.iloadN X3.here hx rfl (hb hby own_ds0_94) rfl  (XS.icmpNo X3.here hx rfl (hb hby own_ds0_95) rfl (teq (by decide : ((0 : Int32) = (0 : Int32)))).2 (XS.iconst X3.here hx rfl (hb hby own_ds0_98) k))))) ?_
  refine own_s T3 (mkF m 4 #[rv a1, iv 0, iv 0, iv 1, iv 0, iv 1, u_] []) (fun _ k => XS.goto X3.here hx rfl (pc0 := 99) (pc' := 103) rfl (hb hby own_ds0_99) (by decide) (by decide) (XS.istoreN X3.here hx rfl (hb hby own_ds0_103) rfl (l' := #[rv a1, iv 0, iv 0, iv 1, iv 0, iv 1, u_]) rfl (XS.iloadN X3.here hx rfl (hb hby own_ds0_104) rfl  (XS.ifYes X3.here hx rfl (pc0 := 105) (pc' := 141) rfl (hb hby own_ds0_105) rfl ((if0 _ _).trans (feq (by decide : ¬ ((1 : Int32) = (0 : Int32)))).2) (by decide) (by decide) (XS.goto X3.here hx rfl (pc0 := 141) (pc' := 4) rfl (hb hby own_ds0_141) (by decide) (by decide) k))))) ?_
  refine own_s T3 (mkF m 144 #[rv a1, iv 0, iv 0, iv 1, iv 0, iv 1, u_] []) (fun _ k => XS.iloadN X3.here hx rfl (hb hby own_ds0_4) rfl  (XS.ifYes X3.here hx rfl (pc0 := 5) (pc' := 144) rfl (hb hby own_ds0_5) rfl ((if0 _ _).trans (feq (by decide : ¬ ((1 : Int32) = (0 : Int32)))).2) (by decide) (by decide) k)) ?_
  exact own_finV X3 hx hret (hb hby own_ds0_144) (own_end (Qv := (own_Qs0 Z a1 wA bA sA hA kw kb ks kh reach w0 w1 b0 b1 s0 s1 t0 t1 fg rk bs h0 n0)) X3 (fun _ => rfl) hlk (by decide) (by decide) e3 ⟨rfl, N0, (Keep.refl h0 [a1, wA, bA, sA, hA]), ⟨u1_0, u1_1, u1_2, u1_3, u1_4, u1_5, u1_6, u1_7, u1_8, u1_9, u1_10, u1_11, u1_12, u1_13⟩⟩)
theorem own_ds1_0 : decode prog_47_method_10_code 0 = .ok (.iload_n 1, 1) := by decide +kernel
theorem own_ds1_1 : decode prog_47_method_10_code 1 = .ok (.istore_n 2, 1) := by decide +kernel
theorem own_ds1_2 : decode prog_47_method_10_code 2 = .ok (.iconst 0, 1) := by decide +kernel
theorem own_ds1_3 : decode prog_47_method_10_code 3 = .ok (.istore_n 3, 1) := by decide +kernel
theorem own_ds1_4 : decode prog_47_method_10_code 4 = .ok (.iload_n 3, 1) := by decide +kernel
theorem own_ds1_5 : decode prog_47_method_10_code 5 = .ok (.ifCond .ne 139, 3) := by decide +kernel
theorem own_ds1_8 : decode prog_47_method_10_code 8 = .ok (.iload_n 2, 1) := by decide +kernel
theorem own_ds1_9 : decode prog_47_method_10_code 9 = .ok (.istore 4, 2) := by decide +kernel
theorem own_ds1_11 : decode prog_47_method_10_code 11 = .ok (.iconst 2, 1) := by decide +kernel
theorem own_ds1_12 : decode prog_47_method_10_code 12 = .ok (.iload_n 2, 1) := by decide +kernel
theorem own_ds1_13 : decode prog_47_method_10_code 13 = .ok (.imul, 1) := by decide +kernel
theorem own_ds1_14 : decode prog_47_method_10_code 14 = .ok (.iconst 1, 1) := by decide +kernel
theorem own_ds1_15 : decode prog_47_method_10_code 15 = .ok (.iadd, 1) := by decide +kernel
theorem own_ds1_16 : decode prog_47_method_10_code 16 = .ok (.istore 5, 2) := by decide +kernel
theorem own_ds1_18 : decode prog_47_method_10_code 18 = .ok (.iload 5, 2) := by decide +kernel
theorem own_ds1_20 : decode prog_47_method_10_code 20 = .ok (.aload_n 0, 1) := by decide +kernel
theorem own_ds1_21 : decode prog_47_method_10_code 21 = .ok (.getfield 31, 3) := by decide +kernel
theorem own_ds1_24 : decode prog_47_method_10_code 24 = .ok (.if_icmp .ge 28, 3) := by decide +kernel
theorem own_ds1_52 : decode prog_47_method_10_code 52 = .ok (.iload 5, 2) := by decide +kernel
theorem own_ds1_54 : decode prog_47_method_10_code 54 = .ok (.iconst 1, 1) := by decide +kernel
theorem own_ds1_55 : decode prog_47_method_10_code 55 = .ok (.iadd, 1) := by decide +kernel
theorem own_ds1_56 : decode prog_47_method_10_code 56 = .ok (.aload_n 0, 1) := by decide +kernel
theorem own_ds1_57 : decode prog_47_method_10_code 57 = .ok (.getfield 31, 3) := by decide +kernel
theorem own_ds1_60 : decode prog_47_method_10_code 60 = .ok (.if_icmp .ge 32, 3) := by decide +kernel
theorem own_ds1_92 : decode prog_47_method_10_code 92 = .ok (.iload 4, 2) := by decide +kernel
theorem own_ds1_94 : decode prog_47_method_10_code 94 = .ok (.iload_n 2, 1) := by decide +kernel
theorem own_ds1_95 : decode prog_47_method_10_code 95 = .ok (.if_icmp .ne 7, 3) := by decide +kernel
theorem own_ds1_98 : decode prog_47_method_10_code 98 = .ok (.iconst 1, 1) := by decide +kernel
theorem own_ds1_99 : decode prog_47_method_10_code 99 = .ok (.goto 4, 3) := by decide +kernel
theorem own_ds1_103 : decode prog_47_method_10_code 103 = .ok (.istore_n 3, 1) := by decide +kernel
theorem own_ds1_104 : decode prog_47_method_10_code 104 = .ok (.iload_n 3, 1) := by decide +kernel
theorem own_ds1_105 : decode prog_47_method_10_code 105 = .ok (.ifCond .ne 36, 3) := by decide +kernel
theorem own_ds1_141 : decode prog_47_method_10_code 141 = .ok (.goto (-137), 3) := by decide +kernel
theorem own_ds1_144 : decode prog_47_method_10_code 144 = .ok (.return_, 1) := by decide +kernel
theorem own_efs1 (m : MethodId) (x0 : Addr) (x1 : Int32) : entryFrame m #[(.ref x0), (.int x1)] 7 = mkF m 0 #[rv x0, iv x1, u_, u_, u_, u_, u_] [] := by first | (simp [entryFrame, mkF, argsToLocals, Value.category]; done) | rfl
def own_Qs1 (Z : State) (a1 : Addr) (wA bA sA hA : Addr) (kw kb ks kh : ClassId) (reach : Int32) (w0 : Int64) (w1 : Int64) (b0 : Int64) (b1 : Int64) (s0 : Int64) (s1 : Int64) (t0 : Int32) (t1 : Int32) (fg : Int64) (rk : Int32) (bs : Int32) (h0 : Heap) (n0 : Nat) : Option Value → Heap → List Loc → Prop := fun v h L => v = none ∧ Fr n0 L ∧ Keep h0 h [a1, wA, bA, sA, hA] ∧ own_CQ Z h a1 wA bA sA hA kw kb ks kh reach w0 w1 b0 b1 s0 s1 t0 t1 fg rk bs (1 : Int32)
def own_Rs1 : Room := { frames := 0, cells := 0, slots := 0, locals := 0 }
set_option maxRecDepth 65536 in
set_option maxHeartbeats 40000000 in
theorem own_rms1 (l : Launch) (Z : State) (a0 : Array Value) (hw : ∀ d ∈ tables_1, d.before a0 Z = true) (ws : List Jvm.Cond) (a1 : Addr) (wA bA sA hA : Addr) (kw kb ks kh : ClassId) (reach : Int32) (w0 : Int64) (w1 : Int64) (b0 : Int64) (b1 : Int64) (s0 : Int64) (s1 : Int64) (t0 : Int32) (t1 : Int32) (fg : Int64) (rk : Int32) (bs : Int32) (h0 : Heap) (n0 : Nat) (Z0 : n0 ≤ h0.size) (hCQ : own_CQ Z h0 a1 wA bA sA hA kw kb ks kh reach w0 w1 b0 b1 s0 s1 t0 t1 fg rk bs (1 : Int32)) (hNE : own_NE a1 wA bA sA hA) (hGE : own_GE n0 a1 wA bA sA hA) (m_w0 : own_Mg 8 w0) (m_w1 : own_Mg 8 w1) (m_b0 : own_Mg 8 b0) (m_b1 : own_Mg 8 b1) :
    own_Met l Z own_y2 prog_47_method_10_code 7 none ws own_Rs1 h0 #[(.ref a1), (.int 0)] (own_Qs1 Z a1 wA bA sA hA kw kb ks kh reach w0 w1 b0 b1 s0 s1 t0 t1 fg rk bs h0 n0) own_Rs1.cells own_Rs1.slots := by
  refine own_start (plainFor_of_name own_pn0) ?_
  intro p e s m below meth c s₁ X0 hx hZ hby hml hret hlk hown hnm e0
  have hown : s.vm.findClass "com/example/allotrope/allotrope/procure/CoverQueue" = some m.cls := hown
  have hml : c.maxLocals = 7 := hml
  have N0 := Fr.nil n0
  refine own_cast (own_efs1 m a1 (0 : Int32)) ?_
  obtain ⟨ne_a1_wA, ne_a1_bA, ne_a1_sA, ne_a1_hA, ne_wA_bA, ne_wA_sA, ne_wA_hA, ne_bA_sA, ne_bA_hA, ne_sA_hA⟩ := id hNE
  obtain ⟨g_a1, g_wA, g_bA, g_sA, g_hA⟩ := id hGE
  obtain ⟨u1_0, u1_1, u1_2, u1_3, u1_4, u1_5, u1_6, u1_7, u1_8, u1_9, u1_10, u1_11, u1_12, u1_13⟩ := id hCQ
  refine own_s s₁ (mkF m 5 #[rv a1, iv 0, iv 0, iv 0, u_, u_, u_] [(.int 0)]) (fun _ k => XS.iloadN X0.here hx rfl (hb hby own_ds1_0) rfl  (XS.istoreN X0.here hx rfl (hb hby own_ds1_1) rfl (l' := #[rv a1, iv 0, iv 0, u_, u_, u_, u_]) rfl (XS.iconst X0.here hx rfl (hb hby own_ds1_2) (XS.istoreN X0.here hx rfl (hb hby own_ds1_3) rfl (l' := #[rv a1, iv 0, iv 0, iv 0, u_, u_, u_]) rfl (XS.iloadN X0.here hx rfl (hb hby own_ds1_4) rfl  k))))) ?_
  refine own_s s₁ (mkF m 13 #[rv a1, iv 0, iv 0, iv 0, iv 0, u_, u_] [(.int 0), (.int 2)]) (fun _ k => XS.ifNo X0.here hx rfl (hb hby own_ds1_5) rfl ((if0 _ _).trans (teq (by decide : ((0 : Int32) = (0 : Int32)))).2) (XS.iloadN X0.here hx rfl (hb hby own_ds1_8) rfl  (XS.istore X0.here hx rfl (hb hby own_ds1_9) rfl (l' := #[rv a1, iv 0, iv 0, iv 0, iv 0, u_, u_]) rfl (XS.iconst X0.here hx rfl (hb hby own_ds1_11) (XS.iloadN X0.here hx rfl (hb hby own_ds1_12) rfl  k))))) ?_
  refine own_s s₁ (mkF m 20 #[rv a1, iv 0, iv 0, iv 0, iv 0, iv 1, u_] [(.int 1)]) (fun _ k => XS.imul X0.here hx rfl (hb hby own_ds1_13) rfl (XS.iconst X0.here hx rfl (hb hby own_ds1_14) (XS.iadd X0.here hx rfl (hb hby own_ds1_15) rfl (XS.istore X0.here hx rfl (hb hby own_ds1_16) rfl (l' := #[rv a1, iv 0, iv 0, iv 0, iv 0, iv 1, u_]) rfl (XS.iload X0.here hx rfl (hb hby own_ds1_18) rfl  k))))) ?_
  refine own_s s₁ (mkF m 21 #[rv a1, iv 0, iv 0, iv 0, iv 0, iv 1, u_] [(.ref a1), (.int 1)]) (fun _ k => XS.aloadN X0.here hx rfl (hb hby own_ds1_20) rfl rfl k) ?_
  obtain ⟨T2, X2, e2, st2⟩ := getF X0 hx hZ hown (host := "") (Or.inl (own_h hw 38 rfl)) Via.refl e0 u1_9 (g := (mkF m 21 #[rv a1, iv 0, iv 0, iv 0, iv 0, iv 1, u_] [(.ref a1), (.int 1)])) rfl rfl (hb hby own_ds1_21)
  refine own_s T2 (mkF m 24 #[rv a1, iv 0, iv 0, iv 0, iv 0, iv 1, u_] [(.int 1), (.int 1)]) st2 ?_
  refine own_s T2 (mkF m 57 #[rv a1, iv 0, iv 0, iv 0, iv 0, iv 1, u_] [(.ref a1), (.int 2)]) (fun _ k => XS.icmpYes X2.here hx rfl (pc0 := 24) (pc' := 52) rfl (hb hby own_ds1_24) rfl (flt (by decide : ¬ ((1 : Int32) < (1 : Int32)))).2.1 (by decide) (by decide) (XS.iload X2.here hx rfl (hb hby own_ds1_52) rfl  (XS.iconst X2.here hx rfl (hb hby own_ds1_54) (XS.iadd X2.here hx rfl (hb hby own_ds1_55) rfl (XS.aloadN X2.here hx rfl (hb hby own_ds1_56) rfl rfl k))))) ?_
  obtain ⟨T3, X3, e3, st3⟩ := getF X2 hx hZ hown (host := "") (Or.inl (own_h hw 38 rfl)) Via.refl e2 u1_9 (g := (mkF m 57 #[rv a1, iv 0, iv 0, iv 0, iv 0, iv 1, u_] [(.ref a1), (.int 2)])) rfl rfl (hb hby own_ds1_57)
  refine own_s T3 (mkF m 60 #[rv a1, iv 0, iv 0, iv 0, iv 0, iv 1, u_] [(.int 1), (.int 2)]) st3 ?_
  refine own_s T3 (mkF m 99 #[rv a1, iv 0, iv 0, iv 0, iv 0, iv 1, u_] [(.int 1)]) (fun _ k => XS.icmpYes X3.here hx rfl (pc0 := 60) (pc' := 92) rfl (hb hby own_ds1_60) rfl (flt (by decide : ¬ ((2 : Int32) < (1 : Int32)))).2.1 (by decide) (by decide) (XS.iload X3.here hx rfl (hb hby own_ds1_92) rfl  (XS.iloadN X3.here hx rfl (hb hby own_ds1_94) rfl  (XS.icmpNo X3.here hx rfl (hb hby own_ds1_95) rfl (teq (by decide : ((0 : Int32) = (0 : Int32)))).2 (XS.iconst X3.here hx rfl (hb hby own_ds1_98) k))))) ?_
  refine own_s T3 (mkF m 4 #[rv a1, iv 0, iv 0, iv 1, iv 0, iv 1, u_] []) (fun _ k => XS.goto X3.here hx rfl (pc0 := 99) (pc' := 103) rfl (hb hby own_ds1_99) (by decide) (by decide) (XS.istoreN X3.here hx rfl (hb hby own_ds1_103) rfl (l' := #[rv a1, iv 0, iv 0, iv 1, iv 0, iv 1, u_]) rfl (XS.iloadN X3.here hx rfl (hb hby own_ds1_104) rfl  (XS.ifYes X3.here hx rfl (pc0 := 105) (pc' := 141) rfl (hb hby own_ds1_105) rfl ((if0 _ _).trans (feq (by decide : ¬ ((1 : Int32) = (0 : Int32)))).2) (by decide) (by decide) (XS.goto X3.here hx rfl (pc0 := 141) (pc' := 4) rfl (hb hby own_ds1_141) (by decide) (by decide) k))))) ?_
  refine own_s T3 (mkF m 144 #[rv a1, iv 0, iv 0, iv 1, iv 0, iv 1, u_] []) (fun _ k => XS.iloadN X3.here hx rfl (hb hby own_ds1_4) rfl  (XS.ifYes X3.here hx rfl (pc0 := 5) (pc' := 144) rfl (hb hby own_ds1_5) rfl ((if0 _ _).trans (feq (by decide : ¬ ((1 : Int32) = (0 : Int32)))).2) (by decide) (by decide) k)) ?_
  exact own_finV X3 hx hret (hb hby own_ds1_144) (own_end (Qv := (own_Qs1 Z a1 wA bA sA hA kw kb ks kh reach w0 w1 b0 b1 s0 s1 t0 t1 fg rk bs h0 n0)) X3 (fun _ => rfl) hlk (by decide) (by decide) e3 ⟨rfl, N0, (Keep.refl h0 [a1, wA, bA, sA, hA]), ⟨u1_0, u1_1, u1_2, u1_3, u1_4, u1_5, u1_6, u1_7, u1_8, u1_9, u1_10, u1_11, u1_12, u1_13⟩⟩)
theorem own_ds20T_0 : decode prog_47_method_10_code 0 = .ok (.iload_n 1, 1) := by decide +kernel
theorem own_ds20T_1 : decode prog_47_method_10_code 1 = .ok (.istore_n 2, 1) := by decide +kernel
theorem own_ds20T_2 : decode prog_47_method_10_code 2 = .ok (.iconst 0, 1) := by decide +kernel
theorem own_ds20T_3 : decode prog_47_method_10_code 3 = .ok (.istore_n 3, 1) := by decide +kernel
theorem own_ds20T_4 : decode prog_47_method_10_code 4 = .ok (.iload_n 3, 1) := by decide +kernel
theorem own_ds20T_5 : decode prog_47_method_10_code 5 = .ok (.ifCond .ne 139, 3) := by decide +kernel
theorem own_ds20T_8 : decode prog_47_method_10_code 8 = .ok (.iload_n 2, 1) := by decide +kernel
theorem own_ds20T_9 : decode prog_47_method_10_code 9 = .ok (.istore 4, 2) := by decide +kernel
theorem own_ds20T_11 : decode prog_47_method_10_code 11 = .ok (.iconst 2, 1) := by decide +kernel
theorem own_ds20T_12 : decode prog_47_method_10_code 12 = .ok (.iload_n 2, 1) := by decide +kernel
theorem own_ds20T_13 : decode prog_47_method_10_code 13 = .ok (.imul, 1) := by decide +kernel
theorem own_ds20T_14 : decode prog_47_method_10_code 14 = .ok (.iconst 1, 1) := by decide +kernel
theorem own_ds20T_15 : decode prog_47_method_10_code 15 = .ok (.iadd, 1) := by decide +kernel
theorem own_ds20T_16 : decode prog_47_method_10_code 16 = .ok (.istore 5, 2) := by decide +kernel
theorem own_ds20T_18 : decode prog_47_method_10_code 18 = .ok (.iload 5, 2) := by decide +kernel
theorem own_ds20T_20 : decode prog_47_method_10_code 20 = .ok (.aload_n 0, 1) := by decide +kernel
theorem own_ds20T_21 : decode prog_47_method_10_code 21 = .ok (.getfield 31, 3) := by decide +kernel
theorem own_ds20T_24 : decode prog_47_method_10_code 24 = .ok (.if_icmp .ge 28, 3) := by decide +kernel
theorem own_ds20T_27 : decode prog_47_method_10_code 27 = .ok (.aload_n 0, 1) := by decide +kernel
theorem own_ds20T_28 : decode prog_47_method_10_code 28 = .ok (.aload_n 0, 1) := by decide +kernel
theorem own_ds20T_29 : decode prog_47_method_10_code 29 = .ok (.getfield 24, 3) := by decide +kernel
theorem own_ds20T_32 : decode prog_47_method_10_code 32 = .ok (.iload 5, 2) := by decide +kernel
theorem own_ds20T_34 : decode prog_47_method_10_code 34 = .ok (.iaload, 1) := by decide +kernel
theorem own_ds20T_35 : decode prog_47_method_10_code 35 = .ok (.aload_n 0, 1) := by decide +kernel
theorem own_ds20T_36 : decode prog_47_method_10_code 36 = .ok (.getfield 24, 3) := by decide +kernel
theorem own_ds20T_39 : decode prog_47_method_10_code 39 = .ok (.iload 4, 2) := by decide +kernel
theorem own_ds20T_41 : decode prog_47_method_10_code 41 = .ok (.iaload, 1) := by decide +kernel
theorem own_ds20T_42 : decode prog_47_method_10_code 42 = .ok (.invokevirtual 48, 3) := by decide +kernel
theorem own_ds20T_45 : decode prog_47_method_10_code 45 = .ok (.ifCond .eq 7, 3) := by decide +kernel
theorem own_ds20T_48 : decode prog_47_method_10_code 48 = .ok (.iload 5, 2) := by decide +kernel
theorem own_ds20T_50 : decode prog_47_method_10_code 50 = .ok (.istore 4, 2) := by decide +kernel
theorem own_ds20T_52 : decode prog_47_method_10_code 52 = .ok (.iload 5, 2) := by decide +kernel
theorem own_ds20T_54 : decode prog_47_method_10_code 54 = .ok (.iconst 1, 1) := by decide +kernel
theorem own_ds20T_55 : decode prog_47_method_10_code 55 = .ok (.iadd, 1) := by decide +kernel
theorem own_ds20T_56 : decode prog_47_method_10_code 56 = .ok (.aload_n 0, 1) := by decide +kernel
theorem own_ds20T_57 : decode prog_47_method_10_code 57 = .ok (.getfield 31, 3) := by decide +kernel
theorem own_ds20T_60 : decode prog_47_method_10_code 60 = .ok (.if_icmp .ge 32, 3) := by decide +kernel
theorem own_ds20T_92 : decode prog_47_method_10_code 92 = .ok (.iload 4, 2) := by decide +kernel
theorem own_ds20T_94 : decode prog_47_method_10_code 94 = .ok (.iload_n 2, 1) := by decide +kernel
theorem own_ds20T_95 : decode prog_47_method_10_code 95 = .ok (.if_icmp .ne 7, 3) := by decide +kernel
theorem own_ds20T_98 : decode prog_47_method_10_code 98 = .ok (.iconst 1, 1) := by decide +kernel
theorem own_ds20T_99 : decode prog_47_method_10_code 99 = .ok (.goto 4, 3) := by decide +kernel
theorem own_ds20T_102 : decode prog_47_method_10_code 102 = .ok (.iconst 0, 1) := by decide +kernel
theorem own_ds20T_103 : decode prog_47_method_10_code 103 = .ok (.istore_n 3, 1) := by decide +kernel
theorem own_ds20T_104 : decode prog_47_method_10_code 104 = .ok (.iload_n 3, 1) := by decide +kernel
theorem own_ds20T_105 : decode prog_47_method_10_code 105 = .ok (.ifCond .ne 36, 3) := by decide +kernel
theorem own_ds20T_108 : decode prog_47_method_10_code 108 = .ok (.aload_n 0, 1) := by decide +kernel
theorem own_ds20T_109 : decode prog_47_method_10_code 109 = .ok (.getfield 24, 3) := by decide +kernel
theorem own_ds20T_112 : decode prog_47_method_10_code 112 = .ok (.iload_n 2, 1) := by decide +kernel
theorem own_ds20T_113 : decode prog_47_method_10_code 113 = .ok (.iaload, 1) := by decide +kernel
theorem own_ds20T_114 : decode prog_47_method_10_code 114 = .ok (.istore 6, 2) := by decide +kernel
theorem own_ds20T_116 : decode prog_47_method_10_code 116 = .ok (.aload_n 0, 1) := by decide +kernel
theorem own_ds20T_117 : decode prog_47_method_10_code 117 = .ok (.getfield 24, 3) := by decide +kernel
theorem own_ds20T_120 : decode prog_47_method_10_code 120 = .ok (.iload_n 2, 1) := by decide +kernel
theorem own_ds20T_121 : decode prog_47_method_10_code 121 = .ok (.aload_n 0, 1) := by decide +kernel
theorem own_ds20T_122 : decode prog_47_method_10_code 122 = .ok (.getfield 24, 3) := by decide +kernel
theorem own_ds20T_125 : decode prog_47_method_10_code 125 = .ok (.iload 4, 2) := by decide +kernel
theorem own_ds20T_127 : decode prog_47_method_10_code 127 = .ok (.iaload, 1) := by decide +kernel
theorem own_ds20T_128 : decode prog_47_method_10_code 128 = .ok (.iastore, 1) := by decide +kernel
theorem own_ds20T_129 : decode prog_47_method_10_code 129 = .ok (.aload_n 0, 1) := by decide +kernel
theorem own_ds20T_130 : decode prog_47_method_10_code 130 = .ok (.getfield 24, 3) := by decide +kernel
theorem own_ds20T_133 : decode prog_47_method_10_code 133 = .ok (.iload 4, 2) := by decide +kernel
theorem own_ds20T_135 : decode prog_47_method_10_code 135 = .ok (.iload 6, 2) := by decide +kernel
theorem own_ds20T_137 : decode prog_47_method_10_code 137 = .ok (.iastore, 1) := by decide +kernel
theorem own_ds20T_138 : decode prog_47_method_10_code 138 = .ok (.iload 4, 2) := by decide +kernel
theorem own_ds20T_140 : decode prog_47_method_10_code 140 = .ok (.istore_n 2, 1) := by decide +kernel
theorem own_ds20T_141 : decode prog_47_method_10_code 141 = .ok (.goto (-137), 3) := by decide +kernel
theorem own_ds20T_144 : decode prog_47_method_10_code 144 = .ok (.return_, 1) := by decide +kernel
theorem own_efs20T (m : MethodId) (x0 : Addr) (x1 : Int32) : entryFrame m #[(.ref x0), (.int x1)] 7 = mkF m 0 #[rv x0, iv x1, u_, u_, u_, u_, u_] [] := by first | (simp [entryFrame, mkF, argsToLocals, Value.category]; done) | rfl
def own_Qs20T (Z : State) (a1 : Addr) (wA bA sA hA : Addr) (kw kb ks kh : ClassId) (reach : Int32) (w0 : Int64) (w1 : Int64) (b0 : Int64) (b1 : Int64) (s0 : Int64) (s1 : Int64) (fg : Int64) (rk : Int32) (bs : Int32) (h0 : Heap) (n0 : Nat) : Option Value → Heap → List Loc → Prop := fun v h L => v = none ∧ Fr n0 L ∧ Keep h0 h [a1, wA, bA, sA, hA] ∧ own_CQ Z h a1 wA bA sA hA kw kb ks kh reach w0 w1 b0 b1 s0 s1 (1 : Int32) (0 : Int32) fg rk bs (2 : Int32)
def own_Rs20T : Room := { frames := 1, cells := 0, slots := 0, locals := 18 }
set_option maxRecDepth 65536 in
set_option maxHeartbeats 40000000 in
theorem own_rms20T (l : Launch) (Z : State) (a0 : Array Value) (hw : ∀ d ∈ tables_1, d.before a0 Z = true) (ws : List Jvm.Cond) (a1 : Addr) (wA bA sA hA : Addr) (kw kb ks kh : ClassId) (reach : Int32) (w0 : Int64) (w1 : Int64) (b0 : Int64) (b1 : Int64) (s0 : Int64) (s1 : Int64) (fg : Int64) (rk : Int32) (bs : Int32) (h0 : Heap) (n0 : Nat) (Z0 : n0 ≤ h0.size) (hCQ : own_CQ Z h0 a1 wA bA sA hA kw kb ks kh reach w0 w1 b0 b1 s0 s1 (0 : Int32) (1 : Int32) fg rk bs (2 : Int32)) (hNE : own_NE a1 wA bA sA hA) (hGE : own_GE n0 a1 wA bA sA hA) (m_w0 : own_Mg 8 w0) (m_w1 : own_Mg 8 w1) (m_b0 : own_Mg 8 b0) (m_b1 : own_Mg 8 b1) (hb0 : (0 : Int64) < b0) (hb1 : (0 : Int64) < b1) (hw0 : ¬ w0 < (0 : Int64)) (hw1 : ¬ w1 < (0 : Int64)) (hld : (own_ld (b1 * w0) (b0 * w1) (1 : Int32) (0 : Int32)) = true) :
    own_Met l Z own_y2 prog_47_method_10_code 7 none ws own_Rs20T h0 #[(.ref a1), (.int 0)] (own_Qs20T Z a1 wA bA sA hA kw kb ks kh reach w0 w1 b0 b1 s0 s1 fg rk bs h0 n0) own_Rs20T.cells own_Rs20T.slots := by
  refine own_start (plainFor_of_name own_pn0) ?_
  intro p e s m below meth c s₁ X0 hx hZ hby hml hret hlk hown hnm e0
  have hown : s.vm.findClass "com/example/allotrope/allotrope/procure/CoverQueue" = some m.cls := hown
  have hml : c.maxLocals = 7 := hml
  have N0 := Fr.nil n0
  refine own_cast (own_efs20T m a1 (0 : Int32)) ?_
  obtain ⟨ne_a1_wA, ne_a1_bA, ne_a1_sA, ne_a1_hA, ne_wA_bA, ne_wA_sA, ne_wA_hA, ne_bA_sA, ne_bA_hA, ne_sA_hA⟩ := id hNE
  obtain ⟨g_a1, g_wA, g_bA, g_sA, g_hA⟩ := id hGE
  obtain ⟨u1_0, u1_1, u1_2, u1_3, u1_4, u1_5, u1_6, u1_7, u1_8, u1_9, u1_10, u1_11, u1_12, u1_13⟩ := id hCQ
  refine own_s s₁ (mkF m 5 #[rv a1, iv 0, iv 0, iv 0, u_, u_, u_] [(.int 0)]) (fun _ k => XS.iloadN X0.here hx rfl (hb hby own_ds20T_0) rfl  (XS.istoreN X0.here hx rfl (hb hby own_ds20T_1) rfl (l' := #[rv a1, iv 0, iv 0, u_, u_, u_, u_]) rfl (XS.iconst X0.here hx rfl (hb hby own_ds20T_2) (XS.istoreN X0.here hx rfl (hb hby own_ds20T_3) rfl (l' := #[rv a1, iv 0, iv 0, iv 0, u_, u_, u_]) rfl (XS.iloadN X0.here hx rfl (hb hby own_ds20T_4) rfl  k))))) ?_
  refine own_s s₁ (mkF m 13 #[rv a1, iv 0, iv 0, iv 0, iv 0, u_, u_] [(.int 0), (.int 2)]) (fun _ k => XS.ifNo X0.here hx rfl (hb hby own_ds20T_5) rfl ((if0 _ _).trans (teq (by decide : ((0 : Int32) = (0 : Int32)))).2) (XS.iloadN X0.here hx rfl (hb hby own_ds20T_8) rfl  (XS.istore X0.here hx rfl (hb hby own_ds20T_9) rfl (l' := #[rv a1, iv 0, iv 0, iv 0, iv 0, u_, u_]) rfl (XS.iconst X0.here hx rfl (hb hby own_ds20T_11) (XS.iloadN X0.here hx rfl (hb hby own_ds20T_12) rfl  k))))) ?_
  refine own_s s₁ (mkF m 20 #[rv a1, iv 0, iv 0, iv 0, iv 0, iv 1, u_] [(.int 1)]) (fun _ k => XS.imul X0.here hx rfl (hb hby own_ds20T_13) rfl (XS.iconst X0.here hx rfl (hb hby own_ds20T_14) (XS.iadd X0.here hx rfl (hb hby own_ds20T_15) rfl (XS.istore X0.here hx rfl (hb hby own_ds20T_16) rfl (l' := #[rv a1, iv 0, iv 0, iv 0, iv 0, iv 1, u_]) rfl (XS.iload X0.here hx rfl (hb hby own_ds20T_18) rfl  k))))) ?_
  refine own_s s₁ (mkF m 21 #[rv a1, iv 0, iv 0, iv 0, iv 0, iv 1, u_] [(.ref a1), (.int 1)]) (fun _ k => XS.aloadN X0.here hx rfl (hb hby own_ds20T_20) rfl rfl k) ?_
  obtain ⟨T2, X2, e2, st2⟩ := getF X0 hx hZ hown (host := "") (Or.inl (own_h hw 38 rfl)) Via.refl e0 u1_9 (g := (mkF m 21 #[rv a1, iv 0, iv 0, iv 0, iv 0, iv 1, u_] [(.ref a1), (.int 1)])) rfl rfl (hb hby own_ds20T_21)
  refine own_s T2 (mkF m 24 #[rv a1, iv 0, iv 0, iv 0, iv 0, iv 1, u_] [(.int 2), (.int 1)]) st2 ?_
  refine own_s T2 (mkF m 29 #[rv a1, iv 0, iv 0, iv 0, iv 0, iv 1, u_] [(.ref a1), (.ref a1)]) (fun _ k => XS.icmpNo X2.here hx rfl (hb hby own_ds20T_24) rfl (tlt (by decide : ((1 : Int32) < (2 : Int32)))).2.1 (XS.aloadN X2.here hx rfl (hb hby own_ds20T_27) rfl rfl (XS.aloadN X2.here hx rfl (hb hby own_ds20T_28) rfl rfl k))) ?_
  obtain ⟨T3, X3, e3, st3⟩ := getF X2 hx hZ hown (host := "") (Or.inl (own_h hw 20 rfl)) Via.refl e2 u1_5 (g := (mkF m 29 #[rv a1, iv 0, iv 0, iv 0, iv 0, iv 1, u_] [(.ref a1), (.ref a1)])) rfl rfl (hb hby own_ds20T_29)
  refine own_s T3 (mkF m 32 #[rv a1, iv 0, iv 0, iv 0, iv 0, iv 1, u_] [(.ref hA), (.ref a1)]) st3 ?_
  refine own_s T3 (mkF m 34 #[rv a1, iv 0, iv 0, iv 0, iv 0, iv 1, u_] [(.int 1), (.ref hA), (.ref a1)]) (fun _ k => XS.iload X3.here hx rfl (hb hby own_ds20T_32) rfl  k) ?_
  obtain ⟨cl4, Ar4, q4, S4, Nn4, H4, G4⟩ := id u1_13
  have hin4 : ¬ ((1 : Int32) < 0 ∨ cl4.slots.size ≤ ((1 : Int32)).toNatClampNeg) := (inb_of S4 ⟨by decide, by decide⟩)
  refine own_s T3 (mkF m 36 #[rv a1, iv 0, iv 0, iv 0, iv 0, iv 1, u_] [(.ref a1), (.int 1), (.ref a1)]) (fun _ k => X3.iaload hx (j := (1 : Int32)) (v := (.int 1)) (own_at e3 Ar4.1) (State.isArrayOf_alike hZ.alike Ar4.2.1) Ar4.2.2 hin4 (Has.at H4 hin4 rfl) (g := (mkF m 34 #[rv a1, iv 0, iv 0, iv 0, iv 0, iv 1, u_] [(.int 1), (.ref hA), (.ref a1)])) rfl rfl (hb hby own_ds20T_34) _ (XS.aloadN X3.here hx rfl (hb hby own_ds20T_35) rfl rfl k)) ?_
  obtain ⟨T5, X5, e5, st5⟩ := getF X3 hx hZ hown (host := "") (Or.inl (own_h hw 20 rfl)) Via.refl e3 u1_5 (g := (mkF m 36 #[rv a1, iv 0, iv 0, iv 0, iv 0, iv 1, u_] [(.ref a1), (.int 1), (.ref a1)])) rfl rfl (hb hby own_ds20T_36)
  refine own_s T5 (mkF m 39 #[rv a1, iv 0, iv 0, iv 0, iv 0, iv 1, u_] [(.ref hA), (.int 1), (.ref a1)]) st5 ?_
  refine own_s T5 (mkF m 41 #[rv a1, iv 0, iv 0, iv 0, iv 0, iv 1, u_] [(.int 0), (.ref hA), (.int 1), (.ref a1)]) (fun _ k => XS.iload X5.here hx rfl (hb hby own_ds20T_39) rfl  k) ?_
  obtain ⟨cl6, Ar6, q6, S6, Nn6, H6, G6⟩ := id u1_13
  have hin6 : ¬ ((0 : Int32) < 0 ∨ cl6.slots.size ≤ ((0 : Int32)).toNatClampNeg) := (inb_of S6 ⟨by decide, by decide⟩)
  refine own_s T5 (mkF m 42 #[rv a1, iv 0, iv 0, iv 0, iv 0, iv 1, u_] [(.int 0), (.int 1), (.ref a1)]) (fun _ k => X5.iaload hx (j := (0 : Int32)) (v := (.int 0)) (own_at e5 Ar6.1) (State.isArrayOf_alike hZ.alike Ar6.2.1) Ar6.2.2 hin6 (Has.at H6 hin6 rfl) (g := (mkF m 41 #[rv a1, iv 0, iv 0, iv 0, iv 0, iv 1, u_] [(.int 0), (.ref hA), (.int 1), (.ref a1)])) rfl rfl (hb hby own_ds20T_41) _ k) ?_
  obtain ⟨v7, T7, L7, X7, hQ7, st7⟩ := own_callP X5 hx hZ (y := own_y0) (W := 0) (a := a1) hown (own_h hw 68 rfl) (own_h hw 69 rfl) (own_h hw 1 rfl) (own_h hw 70 rfl) (own_h hw 2 rfl) (own_h hw 71 rfl) (by decide) (own_rmld10 l Z a0 hw [] a1 wA bA sA hA kw kb ks kh reach w0 w1 b0 b1 s0 s1 (0 : Int32) (1 : Int32) fg rk bs (2 : Int32) h0 n0 Z0 ⟨u1_0, u1_1, u1_2, u1_3, u1_4, u1_5, u1_6, u1_7, u1_8, u1_9, u1_10, u1_11, u1_12, u1_13⟩ m_w0 m_w1 m_b0 m_b1 hb0 hb1 hw0 hw1) (by decide) (by decide) u1_0 (g := (mkF m 42 #[rv a1, iv 0, iv 0, iv 0, iv 0, iv 1, u_] [(.int 0), (.int 1), (.ref a1)])) rfl (by rw [hml]; rfl) (argsL := [(.int 1), (.int 0)]) (rest := []) rfl (lenOf own_pd0 rfl) rfl (by show 2 * 0 + _ ≤ _; exact Nat.le_of_eq rfl) (hb hby own_ds20T_42) e5 (by decide) (by decide)
  obtain ⟨rfl, Nq7, e7⟩ := hQ7
  have N7 := Fr.app N0 Nq7
  refine own_s T7 (mkF m 45 #[rv a1, iv 0, iv 0, iv 0, iv 0, iv 1, u_] [(.int (own_b (own_ld (b1 * w0) (b0 * w1) (1 : Int32) (0 : Int32))))]) st7 ?_
  refine own_s T7 (mkF m 55 #[rv a1, iv 0, iv 0, iv 0, iv 1, iv 1, u_] [(.int 1), (.int 1)]) (fun _ k => XS.ifNo X7.here hx rfl (hb hby own_ds20T_45) rfl ((if0 _ _).trans (feq (own_b1 (by simp [hld]))).1) (XS.iload X7.here hx rfl (hb hby own_ds20T_48) rfl  (XS.istore X7.here hx rfl (hb hby own_ds20T_50) rfl (l' := #[rv a1, iv 0, iv 0, iv 0, iv 1, iv 1, u_]) rfl (XS.iload X7.here hx rfl (hb hby own_ds20T_52) rfl  (XS.iconst X7.here hx rfl (hb hby own_ds20T_54) k))))) ?_
  refine own_s T7 (mkF m 57 #[rv a1, iv 0, iv 0, iv 0, iv 1, iv 1, u_] [(.ref a1), (.int 2)]) (fun _ k => XS.iadd X7.here hx rfl (hb hby own_ds20T_55) rfl (XS.aloadN X7.here hx rfl (hb hby own_ds20T_56) rfl rfl k)) ?_
  obtain ⟨T8, X8, e8, st8⟩ := getF X7 hx hZ hown (host := "") (Or.inl (own_h hw 38 rfl)) Via.refl e7 u1_9 (g := (mkF m 57 #[rv a1, iv 0, iv 0, iv 0, iv 1, iv 1, u_] [(.ref a1), (.int 2)])) rfl rfl (hb hby own_ds20T_57)
  refine own_s T8 (mkF m 60 #[rv a1, iv 0, iv 0, iv 0, iv 1, iv 1, u_] [(.int 2), (.int 2)]) st8 ?_
  refine own_s T8 (mkF m 103 #[rv a1, iv 0, iv 0, iv 0, iv 1, iv 1, u_] [(.int 0)]) (fun _ k => XS.icmpYes X8.here hx rfl (pc0 := 60) (pc' := 92) rfl (hb hby own_ds20T_60) rfl (flt (by decide : ¬ ((2 : Int32) < (2 : Int32)))).2.1 (by decide) (by decide) (XS.iload X8.here hx rfl (hb hby own_ds20T_92) rfl  (XS.iloadN X8.here hx rfl (hb hby own_ds20T_94) rfl  (XS.icmpYes X8.here hx rfl (pc0 := 95) (pc' := 102) rfl (hb hby own_ds20T_95) rfl (feq (by decide : ¬ ((1 : Int32) = (0 : Int32)))).2 (by decide) (by decide) (XS.iconst X8.here hx rfl (hb hby own_ds20T_102) k))))) ?_
  refine own_s T8 (mkF m 109 #[rv a1, iv 0, iv 0, iv 0, iv 1, iv 1, u_] [(.ref a1)]) (fun _ k => XS.istoreN X8.here hx rfl (hb hby own_ds20T_103) rfl (l' := #[rv a1, iv 0, iv 0, iv 0, iv 1, iv 1, u_]) rfl (XS.iloadN X8.here hx rfl (hb hby own_ds20T_104) rfl  (XS.ifNo X8.here hx rfl (hb hby own_ds20T_105) rfl ((if0 _ _).trans (teq (by decide : ((0 : Int32) = (0 : Int32)))).2) (XS.aloadN X8.here hx rfl (hb hby own_ds20T_108) rfl rfl k)))) ?_
  obtain ⟨T9, X9, e9, st9⟩ := getF X8 hx hZ hown (host := "") (Or.inl (own_h hw 20 rfl)) Via.refl e8 u1_5 (g := (mkF m 109 #[rv a1, iv 0, iv 0, iv 0, iv 1, iv 1, u_] [(.ref a1)])) rfl rfl (hb hby own_ds20T_109)
  refine own_s T9 (mkF m 112 #[rv a1, iv 0, iv 0, iv 0, iv 1, iv 1, u_] [(.ref hA)]) st9 ?_
  refine own_s T9 (mkF m 113 #[rv a1, iv 0, iv 0, iv 0, iv 1, iv 1, u_] [(.int 0), (.ref hA)]) (fun _ k => XS.iloadN X9.here hx rfl (hb hby own_ds20T_112) rfl  k) ?_
  obtain ⟨cl10, Ar10, q10, S10, Nn10, H10, G10⟩ := id u1_13
  have hin10 : ¬ ((0 : Int32) < 0 ∨ cl10.slots.size ≤ ((0 : Int32)).toNatClampNeg) := (inb_of S10 ⟨by decide, by decide⟩)
  refine own_s T9 (mkF m 117 #[rv a1, iv 0, iv 0, iv 0, iv 1, iv 1, iv 0] [(.ref a1)]) (fun _ k => X9.iaload hx (j := (0 : Int32)) (v := (.int 0)) (own_at e9 Ar10.1) (State.isArrayOf_alike hZ.alike Ar10.2.1) Ar10.2.2 hin10 (Has.at H10 hin10 rfl) (g := (mkF m 113 #[rv a1, iv 0, iv 0, iv 0, iv 1, iv 1, u_] [(.int 0), (.ref hA)])) rfl rfl (hb hby own_ds20T_113) _ (XS.istore X9.here hx rfl (hb hby own_ds20T_114) rfl (l' := #[rv a1, iv 0, iv 0, iv 0, iv 1, iv 1, iv 0]) rfl (XS.aloadN X9.here hx rfl (hb hby own_ds20T_116) rfl rfl k))) ?_
  obtain ⟨T11, X11, e11, st11⟩ := getF X9 hx hZ hown (host := "") (Or.inl (own_h hw 20 rfl)) Via.refl e9 u1_5 (g := (mkF m 117 #[rv a1, iv 0, iv 0, iv 0, iv 1, iv 1, iv 0] [(.ref a1)])) rfl rfl (hb hby own_ds20T_117)
  refine own_s T11 (mkF m 120 #[rv a1, iv 0, iv 0, iv 0, iv 1, iv 1, iv 0] [(.ref hA)]) st11 ?_
  refine own_s T11 (mkF m 122 #[rv a1, iv 0, iv 0, iv 0, iv 1, iv 1, iv 0] [(.ref a1), (.int 0), (.ref hA)]) (fun _ k => XS.iloadN X11.here hx rfl (hb hby own_ds20T_120) rfl  (XS.aloadN X11.here hx rfl (hb hby own_ds20T_121) rfl rfl k)) ?_
  obtain ⟨T12, X12, e12, st12⟩ := getF X11 hx hZ hown (host := "") (Or.inl (own_h hw 20 rfl)) Via.refl e11 u1_5 (g := (mkF m 122 #[rv a1, iv 0, iv 0, iv 0, iv 1, iv 1, iv 0] [(.ref a1), (.int 0), (.ref hA)])) rfl rfl (hb hby own_ds20T_122)
  refine own_s T12 (mkF m 125 #[rv a1, iv 0, iv 0, iv 0, iv 1, iv 1, iv 0] [(.ref hA), (.int 0), (.ref hA)]) st12 ?_
  refine own_s T12 (mkF m 127 #[rv a1, iv 0, iv 0, iv 0, iv 1, iv 1, iv 0] [(.int 1), (.ref hA), (.int 0), (.ref hA)]) (fun _ k => XS.iload X12.here hx rfl (hb hby own_ds20T_125) rfl  k) ?_
  obtain ⟨cl13, Ar13, q13, S13, Nn13, H13, G13⟩ := id u1_13
  have hin13 : ¬ ((1 : Int32) < 0 ∨ cl13.slots.size ≤ ((1 : Int32)).toNatClampNeg) := (inb_of S13 ⟨by decide, by decide⟩)
  refine own_s T12 (mkF m 128 #[rv a1, iv 0, iv 0, iv 0, iv 1, iv 1, iv 0] [(.int 1), (.int 0), (.ref hA)]) (fun _ k => X12.iaload hx (j := (1 : Int32)) (v := (.int 1)) (own_at e12 Ar13.1) (State.isArrayOf_alike hZ.alike Ar13.2.1) Ar13.2.2 hin13 (Has.at H13 hin13 rfl) (g := (mkF m 127 #[rv a1, iv 0, iv 0, iv 0, iv 1, iv 1, iv 0] [(.int 1), (.ref hA), (.int 0), (.ref hA)])) rfl rfl (hb hby own_ds20T_127) _ k) ?_
  obtain ⟨cl14, Ar14, q14, S14, Nn14, H14, G14⟩ := id u1_13
  have hin14 : ¬ ((0 : Int32) < 0 ∨ cl14.slots.size ≤ ((0 : Int32)).toNatClampNeg) := (inb_of S14 ⟨by decide, by decide⟩)
  obtain ⟨T14, h14, X14, e14, W14, st14⟩ := stI X12 hx hZ e12 Ar14 (j := (0 : Int32)) hin14 (g := (mkF m 128 #[rv a1, iv 0, iv 0, iv 0, iv 1, iv 1, iv 0] [(.int 1), (.int 0), (.ref hA)])) rfl rfl (hb hby own_ds20T_128)
  have f14 : Arv Z h14 hA kh .int (2 : Int32) [(.int 1), (.int 1)] (.int 0) := Arv.set Ar14 q14 S14 Nn14 H14 G14 rfl W14 0 rfl (Nat.le_of_ble_eq_true rfl)
  have f15 := Exa.wr W14 u1_0
  have f16 := Fld.other W14 u1_1 (Or.inl ne_a1_hA)
  have f17 := Fld.other W14 u1_2 (Or.inl ne_a1_hA)
  have f18 := Fld.other W14 u1_3 (Or.inl ne_a1_hA)
  have f19 := Fld.other W14 u1_4 (Or.inl ne_a1_hA)
  have f20 := Fld.other W14 u1_5 (Or.inl ne_a1_hA)
  have f21 := Fld.other W14 u1_6 (Or.inl ne_a1_hA)
  have f22 := Fld.other W14 u1_7 (Or.inl ne_a1_hA)
  have f23 := Fld.other W14 u1_8 (Or.inl ne_a1_hA)
  have f24 := Fld.other W14 u1_9 (Or.inl ne_a1_hA)
  have f25 := u1_10.other W14 ne_wA_hA
  have f26 := u1_11.other W14 ne_bA_hA
  have f27 := u1_12.other W14 ne_sA_hA
  have K14 : Keep h0 h14 [a1, wA, bA, sA, hA] := (Keep.refl h0 [a1, wA, bA, sA, hA]).wr W14 (Or.inl (List.mem_of_getElem? (i := 4) rfl))
  have Z14 := Nat.le_trans Z0 (Nat.le_of_eq W14.size.symm)
  have N14 := Fr.snoc X14 N7 g_hA
  refine own_s T14 (mkF m 129 #[rv a1, iv 0, iv 0, iv 0, iv 1, iv 1, iv 0] []) st14 ?_
  refine own_s T14 (mkF m 130 #[rv a1, iv 0, iv 0, iv 0, iv 1, iv 1, iv 0] [(.ref a1)]) (fun _ k => XS.aloadN X14.here hx rfl (hb hby own_ds20T_129) rfl rfl k) ?_
  obtain ⟨T28, X28, e28, st28⟩ := getF X14 hx hZ hown (host := "") (Or.inl (own_h hw 20 rfl)) Via.refl e14 f20 (g := (mkF m 130 #[rv a1, iv 0, iv 0, iv 0, iv 1, iv 1, iv 0] [(.ref a1)])) rfl rfl (hb hby own_ds20T_130)
  refine own_s T28 (mkF m 133 #[rv a1, iv 0, iv 0, iv 0, iv 1, iv 1, iv 0] [(.ref hA)]) st28 ?_
  refine own_s T28 (mkF m 137 #[rv a1, iv 0, iv 0, iv 0, iv 1, iv 1, iv 0] [(.int 0), (.int 1), (.ref hA)]) (fun _ k => XS.iload X28.here hx rfl (hb hby own_ds20T_133) rfl  (XS.iload X28.here hx rfl (hb hby own_ds20T_135) rfl  k)) ?_
  obtain ⟨cl29, Ar29, q29, S29, Nn29, H29, G29⟩ := id f14
  have hin29 : ¬ ((1 : Int32) < 0 ∨ cl29.slots.size ≤ ((1 : Int32)).toNatClampNeg) := (inb_of S29 ⟨by decide, by decide⟩)
  obtain ⟨T29, h29, X29, e29, W29, st29⟩ := stI X28 hx hZ e28 Ar29 (j := (1 : Int32)) hin29 (g := (mkF m 137 #[rv a1, iv 0, iv 0, iv 0, iv 1, iv 1, iv 0] [(.int 0), (.int 1), (.ref hA)])) rfl rfl (hb hby own_ds20T_137)
  have f29 : Arv Z h29 hA kh .int (2 : Int32) [(.int 1), (.int 0)] (.int 0) := Arv.set Ar29 q29 S29 Nn29 H29 G29 rfl W29 1 rfl (Nat.le_of_ble_eq_true rfl)
  have f30 := Exa.wr W29 f15
  have f31 := Fld.other W29 f16 (Or.inl ne_a1_hA)
  have f32 := Fld.other W29 f17 (Or.inl ne_a1_hA)
  have f33 := Fld.other W29 f18 (Or.inl ne_a1_hA)
  have f34 := Fld.other W29 f19 (Or.inl ne_a1_hA)
  have f35 := Fld.other W29 f20 (Or.inl ne_a1_hA)
  have f36 := Fld.other W29 f21 (Or.inl ne_a1_hA)
  have f37 := Fld.other W29 f22 (Or.inl ne_a1_hA)
  have f38 := Fld.other W29 f23 (Or.inl ne_a1_hA)
  have f39 := Fld.other W29 f24 (Or.inl ne_a1_hA)
  have f40 := f25.other W29 ne_wA_hA
  have f41 := f26.other W29 ne_bA_hA
  have f42 := f27.other W29 ne_sA_hA
  have K29 : Keep h0 h29 [a1, wA, bA, sA, hA] := K14.wr W29 (Or.inl (List.mem_of_getElem? (i := 4) rfl))
  have Z29 := Nat.le_trans Z14 (Nat.le_of_eq W29.size.symm)
  have N29 := Fr.snoc X29 N14 g_hA
  refine own_s T29 (mkF m 138 #[rv a1, iv 0, iv 0, iv 0, iv 1, iv 1, iv 0] []) st29 ?_
  refine own_s T29 (mkF m 8 #[rv a1, iv 0, iv 1, iv 0, iv 1, iv 1, iv 0] []) (fun _ k => XS.iload X29.here hx rfl (hb hby own_ds20T_138) rfl  (XS.istoreN X29.here hx rfl (hb hby own_ds20T_140) rfl (l' := #[rv a1, iv 0, iv 1, iv 0, iv 1, iv 1, iv 0]) rfl (XS.goto X29.here hx rfl (pc0 := 141) (pc' := 4) rfl (hb hby own_ds20T_141) (by decide) (by decide) (XS.iloadN X29.here hx rfl (hb hby own_ds20T_4) rfl  (XS.ifNo X29.here hx rfl (hb hby own_ds20T_5) rfl ((if0 _ _).trans (teq (by decide : ((0 : Int32) = (0 : Int32)))).2) k))))) ?_
  refine own_s T29 (mkF m 14 #[rv a1, iv 0, iv 1, iv 0, iv 1, iv 1, iv 0] [(.int 2)]) (fun _ k => XS.iloadN X29.here hx rfl (hb hby own_ds20T_8) rfl  (XS.istore X29.here hx rfl (hb hby own_ds20T_9) rfl (l' := #[rv a1, iv 0, iv 1, iv 0, iv 1, iv 1, iv 0]) rfl (XS.iconst X29.here hx rfl (hb hby own_ds20T_11) (XS.iloadN X29.here hx rfl (hb hby own_ds20T_12) rfl  (XS.imul X29.here hx rfl (hb hby own_ds20T_13) rfl k))))) ?_
  refine own_s T29 (mkF m 21 #[rv a1, iv 0, iv 1, iv 0, iv 1, iv 3, iv 0] [(.ref a1), (.int 3)]) (fun _ k => XS.iconst X29.here hx rfl (hb hby own_ds20T_14) (XS.iadd X29.here hx rfl (hb hby own_ds20T_15) rfl (XS.istore X29.here hx rfl (hb hby own_ds20T_16) rfl (l' := #[rv a1, iv 0, iv 1, iv 0, iv 1, iv 3, iv 0]) rfl (XS.iload X29.here hx rfl (hb hby own_ds20T_18) rfl  (XS.aloadN X29.here hx rfl (hb hby own_ds20T_20) rfl rfl k))))) ?_
  obtain ⟨T43, X43, e43, st43⟩ := getF X29 hx hZ hown (host := "") (Or.inl (own_h hw 38 rfl)) Via.refl e29 f39 (g := (mkF m 21 #[rv a1, iv 0, iv 1, iv 0, iv 1, iv 3, iv 0] [(.ref a1), (.int 3)])) rfl rfl (hb hby own_ds20T_21)
  refine own_s T43 (mkF m 24 #[rv a1, iv 0, iv 1, iv 0, iv 1, iv 3, iv 0] [(.int 2), (.int 3)]) st43 ?_
  refine own_s T43 (mkF m 57 #[rv a1, iv 0, iv 1, iv 0, iv 1, iv 3, iv 0] [(.ref a1), (.int 4)]) (fun _ k => XS.icmpYes X43.here hx rfl (pc0 := 24) (pc' := 52) rfl (hb hby own_ds20T_24) rfl (flt (by decide : ¬ ((3 : Int32) < (2 : Int32)))).2.1 (by decide) (by decide) (XS.iload X43.here hx rfl (hb hby own_ds20T_52) rfl  (XS.iconst X43.here hx rfl (hb hby own_ds20T_54) (XS.iadd X43.here hx rfl (hb hby own_ds20T_55) rfl (XS.aloadN X43.here hx rfl (hb hby own_ds20T_56) rfl rfl k))))) ?_
  obtain ⟨T44, X44, e44, st44⟩ := getF X43 hx hZ hown (host := "") (Or.inl (own_h hw 38 rfl)) Via.refl e43 f39 (g := (mkF m 57 #[rv a1, iv 0, iv 1, iv 0, iv 1, iv 3, iv 0] [(.ref a1), (.int 4)])) rfl rfl (hb hby own_ds20T_57)
  refine own_s T44 (mkF m 60 #[rv a1, iv 0, iv 1, iv 0, iv 1, iv 3, iv 0] [(.int 2), (.int 4)]) st44 ?_
  refine own_s T44 (mkF m 99 #[rv a1, iv 0, iv 1, iv 0, iv 1, iv 3, iv 0] [(.int 1)]) (fun _ k => XS.icmpYes X44.here hx rfl (pc0 := 60) (pc' := 92) rfl (hb hby own_ds20T_60) rfl (flt (by decide : ¬ ((4 : Int32) < (2 : Int32)))).2.1 (by decide) (by decide) (XS.iload X44.here hx rfl (hb hby own_ds20T_92) rfl  (XS.iloadN X44.here hx rfl (hb hby own_ds20T_94) rfl  (XS.icmpNo X44.here hx rfl (hb hby own_ds20T_95) rfl (teq (by decide : ((1 : Int32) = (1 : Int32)))).2 (XS.iconst X44.here hx rfl (hb hby own_ds20T_98) k))))) ?_
  refine own_s T44 (mkF m 4 #[rv a1, iv 0, iv 1, iv 1, iv 1, iv 3, iv 0] []) (fun _ k => XS.goto X44.here hx rfl (pc0 := 99) (pc' := 103) rfl (hb hby own_ds20T_99) (by decide) (by decide) (XS.istoreN X44.here hx rfl (hb hby own_ds20T_103) rfl (l' := #[rv a1, iv 0, iv 1, iv 1, iv 1, iv 3, iv 0]) rfl (XS.iloadN X44.here hx rfl (hb hby own_ds20T_104) rfl  (XS.ifYes X44.here hx rfl (pc0 := 105) (pc' := 141) rfl (hb hby own_ds20T_105) rfl ((if0 _ _).trans (feq (by decide : ¬ ((1 : Int32) = (0 : Int32)))).2) (by decide) (by decide) (XS.goto X44.here hx rfl (pc0 := 141) (pc' := 4) rfl (hb hby own_ds20T_141) (by decide) (by decide) k))))) ?_
  refine own_s T44 (mkF m 144 #[rv a1, iv 0, iv 1, iv 1, iv 1, iv 3, iv 0] []) (fun _ k => XS.iloadN X44.here hx rfl (hb hby own_ds20T_4) rfl  (XS.ifYes X44.here hx rfl (pc0 := 5) (pc' := 144) rfl (hb hby own_ds20T_5) rfl ((if0 _ _).trans (feq (by decide : ¬ ((1 : Int32) = (0 : Int32)))).2) (by decide) (by decide) k)) ?_
  exact own_finV X44 hx hret (hb hby own_ds20T_144) (own_end (Qv := (own_Qs20T Z a1 wA bA sA hA kw kb ks kh reach w0 w1 b0 b1 s0 s1 fg rk bs h0 n0)) X44 (fun _ => rfl) hlk (by decide) (by decide) e44 ⟨rfl, N29, K29, ⟨f30, f31, f32, f33, f34, f35, f36, f37, f38, f39, f40, f41, f42, f29⟩⟩)
theorem own_ds20F_0 : decode prog_47_method_10_code 0 = .ok (.iload_n 1, 1) := by decide +kernel
theorem own_ds20F_1 : decode prog_47_method_10_code 1 = .ok (.istore_n 2, 1) := by decide +kernel
theorem own_ds20F_2 : decode prog_47_method_10_code 2 = .ok (.iconst 0, 1) := by decide +kernel
theorem own_ds20F_3 : decode prog_47_method_10_code 3 = .ok (.istore_n 3, 1) := by decide +kernel
theorem own_ds20F_4 : decode prog_47_method_10_code 4 = .ok (.iload_n 3, 1) := by decide +kernel
theorem own_ds20F_5 : decode prog_47_method_10_code 5 = .ok (.ifCond .ne 139, 3) := by decide +kernel
theorem own_ds20F_8 : decode prog_47_method_10_code 8 = .ok (.iload_n 2, 1) := by decide +kernel
theorem own_ds20F_9 : decode prog_47_method_10_code 9 = .ok (.istore 4, 2) := by decide +kernel
theorem own_ds20F_11 : decode prog_47_method_10_code 11 = .ok (.iconst 2, 1) := by decide +kernel
theorem own_ds20F_12 : decode prog_47_method_10_code 12 = .ok (.iload_n 2, 1) := by decide +kernel
theorem own_ds20F_13 : decode prog_47_method_10_code 13 = .ok (.imul, 1) := by decide +kernel
theorem own_ds20F_14 : decode prog_47_method_10_code 14 = .ok (.iconst 1, 1) := by decide +kernel
theorem own_ds20F_15 : decode prog_47_method_10_code 15 = .ok (.iadd, 1) := by decide +kernel
theorem own_ds20F_16 : decode prog_47_method_10_code 16 = .ok (.istore 5, 2) := by decide +kernel
theorem own_ds20F_18 : decode prog_47_method_10_code 18 = .ok (.iload 5, 2) := by decide +kernel
theorem own_ds20F_20 : decode prog_47_method_10_code 20 = .ok (.aload_n 0, 1) := by decide +kernel
theorem own_ds20F_21 : decode prog_47_method_10_code 21 = .ok (.getfield 31, 3) := by decide +kernel
theorem own_ds20F_24 : decode prog_47_method_10_code 24 = .ok (.if_icmp .ge 28, 3) := by decide +kernel
theorem own_ds20F_27 : decode prog_47_method_10_code 27 = .ok (.aload_n 0, 1) := by decide +kernel
theorem own_ds20F_28 : decode prog_47_method_10_code 28 = .ok (.aload_n 0, 1) := by decide +kernel
theorem own_ds20F_29 : decode prog_47_method_10_code 29 = .ok (.getfield 24, 3) := by decide +kernel
theorem own_ds20F_32 : decode prog_47_method_10_code 32 = .ok (.iload 5, 2) := by decide +kernel
theorem own_ds20F_34 : decode prog_47_method_10_code 34 = .ok (.iaload, 1) := by decide +kernel
theorem own_ds20F_35 : decode prog_47_method_10_code 35 = .ok (.aload_n 0, 1) := by decide +kernel
theorem own_ds20F_36 : decode prog_47_method_10_code 36 = .ok (.getfield 24, 3) := by decide +kernel
theorem own_ds20F_39 : decode prog_47_method_10_code 39 = .ok (.iload 4, 2) := by decide +kernel
theorem own_ds20F_41 : decode prog_47_method_10_code 41 = .ok (.iaload, 1) := by decide +kernel
theorem own_ds20F_42 : decode prog_47_method_10_code 42 = .ok (.invokevirtual 48, 3) := by decide +kernel
theorem own_ds20F_45 : decode prog_47_method_10_code 45 = .ok (.ifCond .eq 7, 3) := by decide +kernel
theorem own_ds20F_52 : decode prog_47_method_10_code 52 = .ok (.iload 5, 2) := by decide +kernel
theorem own_ds20F_54 : decode prog_47_method_10_code 54 = .ok (.iconst 1, 1) := by decide +kernel
theorem own_ds20F_55 : decode prog_47_method_10_code 55 = .ok (.iadd, 1) := by decide +kernel
theorem own_ds20F_56 : decode prog_47_method_10_code 56 = .ok (.aload_n 0, 1) := by decide +kernel
theorem own_ds20F_57 : decode prog_47_method_10_code 57 = .ok (.getfield 31, 3) := by decide +kernel
theorem own_ds20F_60 : decode prog_47_method_10_code 60 = .ok (.if_icmp .ge 32, 3) := by decide +kernel
theorem own_ds20F_92 : decode prog_47_method_10_code 92 = .ok (.iload 4, 2) := by decide +kernel
theorem own_ds20F_94 : decode prog_47_method_10_code 94 = .ok (.iload_n 2, 1) := by decide +kernel
theorem own_ds20F_95 : decode prog_47_method_10_code 95 = .ok (.if_icmp .ne 7, 3) := by decide +kernel
theorem own_ds20F_98 : decode prog_47_method_10_code 98 = .ok (.iconst 1, 1) := by decide +kernel
theorem own_ds20F_99 : decode prog_47_method_10_code 99 = .ok (.goto 4, 3) := by decide +kernel
theorem own_ds20F_103 : decode prog_47_method_10_code 103 = .ok (.istore_n 3, 1) := by decide +kernel
theorem own_ds20F_104 : decode prog_47_method_10_code 104 = .ok (.iload_n 3, 1) := by decide +kernel
theorem own_ds20F_105 : decode prog_47_method_10_code 105 = .ok (.ifCond .ne 36, 3) := by decide +kernel
theorem own_ds20F_141 : decode prog_47_method_10_code 141 = .ok (.goto (-137), 3) := by decide +kernel
theorem own_ds20F_144 : decode prog_47_method_10_code 144 = .ok (.return_, 1) := by decide +kernel
theorem own_efs20F (m : MethodId) (x0 : Addr) (x1 : Int32) : entryFrame m #[(.ref x0), (.int x1)] 7 = mkF m 0 #[rv x0, iv x1, u_, u_, u_, u_, u_] [] := by first | (simp [entryFrame, mkF, argsToLocals, Value.category]; done) | rfl
def own_Qs20F (Z : State) (a1 : Addr) (wA bA sA hA : Addr) (kw kb ks kh : ClassId) (reach : Int32) (w0 : Int64) (w1 : Int64) (b0 : Int64) (b1 : Int64) (s0 : Int64) (s1 : Int64) (fg : Int64) (rk : Int32) (bs : Int32) (h0 : Heap) (n0 : Nat) : Option Value → Heap → List Loc → Prop := fun v h L => v = none ∧ Fr n0 L ∧ Keep h0 h [a1, wA, bA, sA, hA] ∧ own_CQ Z h a1 wA bA sA hA kw kb ks kh reach w0 w1 b0 b1 s0 s1 (0 : Int32) (1 : Int32) fg rk bs (2 : Int32)
def own_Rs20F : Room := { frames := 1, cells := 0, slots := 0, locals := 18 }
set_option maxRecDepth 65536 in
set_option maxHeartbeats 40000000 in
theorem own_rms20F (l : Launch) (Z : State) (a0 : Array Value) (hw : ∀ d ∈ tables_1, d.before a0 Z = true) (ws : List Jvm.Cond) (a1 : Addr) (wA bA sA hA : Addr) (kw kb ks kh : ClassId) (reach : Int32) (w0 : Int64) (w1 : Int64) (b0 : Int64) (b1 : Int64) (s0 : Int64) (s1 : Int64) (fg : Int64) (rk : Int32) (bs : Int32) (h0 : Heap) (n0 : Nat) (Z0 : n0 ≤ h0.size) (hCQ : own_CQ Z h0 a1 wA bA sA hA kw kb ks kh reach w0 w1 b0 b1 s0 s1 (0 : Int32) (1 : Int32) fg rk bs (2 : Int32)) (hNE : own_NE a1 wA bA sA hA) (hGE : own_GE n0 a1 wA bA sA hA) (m_w0 : own_Mg 8 w0) (m_w1 : own_Mg 8 w1) (m_b0 : own_Mg 8 b0) (m_b1 : own_Mg 8 b1) (hb0 : (0 : Int64) < b0) (hb1 : (0 : Int64) < b1) (hw0 : ¬ w0 < (0 : Int64)) (hw1 : ¬ w1 < (0 : Int64)) (hld : (own_ld (b1 * w0) (b0 * w1) (1 : Int32) (0 : Int32)) = false) :
    own_Met l Z own_y2 prog_47_method_10_code 7 none ws own_Rs20F h0 #[(.ref a1), (.int 0)] (own_Qs20F Z a1 wA bA sA hA kw kb ks kh reach w0 w1 b0 b1 s0 s1 fg rk bs h0 n0) own_Rs20F.cells own_Rs20F.slots := by
  refine own_start (plainFor_of_name own_pn0) ?_
  intro p e s m below meth c s₁ X0 hx hZ hby hml hret hlk hown hnm e0
  have hown : s.vm.findClass "com/example/allotrope/allotrope/procure/CoverQueue" = some m.cls := hown
  have hml : c.maxLocals = 7 := hml
  have N0 := Fr.nil n0
  refine own_cast (own_efs20F m a1 (0 : Int32)) ?_
  obtain ⟨ne_a1_wA, ne_a1_bA, ne_a1_sA, ne_a1_hA, ne_wA_bA, ne_wA_sA, ne_wA_hA, ne_bA_sA, ne_bA_hA, ne_sA_hA⟩ := id hNE
  obtain ⟨g_a1, g_wA, g_bA, g_sA, g_hA⟩ := id hGE
  obtain ⟨u1_0, u1_1, u1_2, u1_3, u1_4, u1_5, u1_6, u1_7, u1_8, u1_9, u1_10, u1_11, u1_12, u1_13⟩ := id hCQ
  refine own_s s₁ (mkF m 5 #[rv a1, iv 0, iv 0, iv 0, u_, u_, u_] [(.int 0)]) (fun _ k => XS.iloadN X0.here hx rfl (hb hby own_ds20F_0) rfl  (XS.istoreN X0.here hx rfl (hb hby own_ds20F_1) rfl (l' := #[rv a1, iv 0, iv 0, u_, u_, u_, u_]) rfl (XS.iconst X0.here hx rfl (hb hby own_ds20F_2) (XS.istoreN X0.here hx rfl (hb hby own_ds20F_3) rfl (l' := #[rv a1, iv 0, iv 0, iv 0, u_, u_, u_]) rfl (XS.iloadN X0.here hx rfl (hb hby own_ds20F_4) rfl  k))))) ?_
  refine own_s s₁ (mkF m 13 #[rv a1, iv 0, iv 0, iv 0, iv 0, u_, u_] [(.int 0), (.int 2)]) (fun _ k => XS.ifNo X0.here hx rfl (hb hby own_ds20F_5) rfl ((if0 _ _).trans (teq (by decide : ((0 : Int32) = (0 : Int32)))).2) (XS.iloadN X0.here hx rfl (hb hby own_ds20F_8) rfl  (XS.istore X0.here hx rfl (hb hby own_ds20F_9) rfl (l' := #[rv a1, iv 0, iv 0, iv 0, iv 0, u_, u_]) rfl (XS.iconst X0.here hx rfl (hb hby own_ds20F_11) (XS.iloadN X0.here hx rfl (hb hby own_ds20F_12) rfl  k))))) ?_
  refine own_s s₁ (mkF m 20 #[rv a1, iv 0, iv 0, iv 0, iv 0, iv 1, u_] [(.int 1)]) (fun _ k => XS.imul X0.here hx rfl (hb hby own_ds20F_13) rfl (XS.iconst X0.here hx rfl (hb hby own_ds20F_14) (XS.iadd X0.here hx rfl (hb hby own_ds20F_15) rfl (XS.istore X0.here hx rfl (hb hby own_ds20F_16) rfl (l' := #[rv a1, iv 0, iv 0, iv 0, iv 0, iv 1, u_]) rfl (XS.iload X0.here hx rfl (hb hby own_ds20F_18) rfl  k))))) ?_
  refine own_s s₁ (mkF m 21 #[rv a1, iv 0, iv 0, iv 0, iv 0, iv 1, u_] [(.ref a1), (.int 1)]) (fun _ k => XS.aloadN X0.here hx rfl (hb hby own_ds20F_20) rfl rfl k) ?_
  obtain ⟨T2, X2, e2, st2⟩ := getF X0 hx hZ hown (host := "") (Or.inl (own_h hw 38 rfl)) Via.refl e0 u1_9 (g := (mkF m 21 #[rv a1, iv 0, iv 0, iv 0, iv 0, iv 1, u_] [(.ref a1), (.int 1)])) rfl rfl (hb hby own_ds20F_21)
  refine own_s T2 (mkF m 24 #[rv a1, iv 0, iv 0, iv 0, iv 0, iv 1, u_] [(.int 2), (.int 1)]) st2 ?_
  refine own_s T2 (mkF m 29 #[rv a1, iv 0, iv 0, iv 0, iv 0, iv 1, u_] [(.ref a1), (.ref a1)]) (fun _ k => XS.icmpNo X2.here hx rfl (hb hby own_ds20F_24) rfl (tlt (by decide : ((1 : Int32) < (2 : Int32)))).2.1 (XS.aloadN X2.here hx rfl (hb hby own_ds20F_27) rfl rfl (XS.aloadN X2.here hx rfl (hb hby own_ds20F_28) rfl rfl k))) ?_
  obtain ⟨T3, X3, e3, st3⟩ := getF X2 hx hZ hown (host := "") (Or.inl (own_h hw 20 rfl)) Via.refl e2 u1_5 (g := (mkF m 29 #[rv a1, iv 0, iv 0, iv 0, iv 0, iv 1, u_] [(.ref a1), (.ref a1)])) rfl rfl (hb hby own_ds20F_29)
  refine own_s T3 (mkF m 32 #[rv a1, iv 0, iv 0, iv 0, iv 0, iv 1, u_] [(.ref hA), (.ref a1)]) st3 ?_
  refine own_s T3 (mkF m 34 #[rv a1, iv 0, iv 0, iv 0, iv 0, iv 1, u_] [(.int 1), (.ref hA), (.ref a1)]) (fun _ k => XS.iload X3.here hx rfl (hb hby own_ds20F_32) rfl  k) ?_
  obtain ⟨cl4, Ar4, q4, S4, Nn4, H4, G4⟩ := id u1_13
  have hin4 : ¬ ((1 : Int32) < 0 ∨ cl4.slots.size ≤ ((1 : Int32)).toNatClampNeg) := (inb_of S4 ⟨by decide, by decide⟩)
  refine own_s T3 (mkF m 36 #[rv a1, iv 0, iv 0, iv 0, iv 0, iv 1, u_] [(.ref a1), (.int 1), (.ref a1)]) (fun _ k => X3.iaload hx (j := (1 : Int32)) (v := (.int 1)) (own_at e3 Ar4.1) (State.isArrayOf_alike hZ.alike Ar4.2.1) Ar4.2.2 hin4 (Has.at H4 hin4 rfl) (g := (mkF m 34 #[rv a1, iv 0, iv 0, iv 0, iv 0, iv 1, u_] [(.int 1), (.ref hA), (.ref a1)])) rfl rfl (hb hby own_ds20F_34) _ (XS.aloadN X3.here hx rfl (hb hby own_ds20F_35) rfl rfl k)) ?_
  obtain ⟨T5, X5, e5, st5⟩ := getF X3 hx hZ hown (host := "") (Or.inl (own_h hw 20 rfl)) Via.refl e3 u1_5 (g := (mkF m 36 #[rv a1, iv 0, iv 0, iv 0, iv 0, iv 1, u_] [(.ref a1), (.int 1), (.ref a1)])) rfl rfl (hb hby own_ds20F_36)
  refine own_s T5 (mkF m 39 #[rv a1, iv 0, iv 0, iv 0, iv 0, iv 1, u_] [(.ref hA), (.int 1), (.ref a1)]) st5 ?_
  refine own_s T5 (mkF m 41 #[rv a1, iv 0, iv 0, iv 0, iv 0, iv 1, u_] [(.int 0), (.ref hA), (.int 1), (.ref a1)]) (fun _ k => XS.iload X5.here hx rfl (hb hby own_ds20F_39) rfl  k) ?_
  obtain ⟨cl6, Ar6, q6, S6, Nn6, H6, G6⟩ := id u1_13
  have hin6 : ¬ ((0 : Int32) < 0 ∨ cl6.slots.size ≤ ((0 : Int32)).toNatClampNeg) := (inb_of S6 ⟨by decide, by decide⟩)
  refine own_s T5 (mkF m 42 #[rv a1, iv 0, iv 0, iv 0, iv 0, iv 1, u_] [(.int 0), (.int 1), (.ref a1)]) (fun _ k => X5.iaload hx (j := (0 : Int32)) (v := (.int 0)) (own_at e5 Ar6.1) (State.isArrayOf_alike hZ.alike Ar6.2.1) Ar6.2.2 hin6 (Has.at H6 hin6 rfl) (g := (mkF m 41 #[rv a1, iv 0, iv 0, iv 0, iv 0, iv 1, u_] [(.int 0), (.ref hA), (.int 1), (.ref a1)])) rfl rfl (hb hby own_ds20F_41) _ k) ?_
  obtain ⟨v7, T7, L7, X7, hQ7, st7⟩ := own_callP X5 hx hZ (y := own_y0) (W := 0) (a := a1) hown (own_h hw 68 rfl) (own_h hw 69 rfl) (own_h hw 1 rfl) (own_h hw 70 rfl) (own_h hw 2 rfl) (own_h hw 71 rfl) (by decide) (own_rmld10 l Z a0 hw [] a1 wA bA sA hA kw kb ks kh reach w0 w1 b0 b1 s0 s1 (0 : Int32) (1 : Int32) fg rk bs (2 : Int32) h0 n0 Z0 ⟨u1_0, u1_1, u1_2, u1_3, u1_4, u1_5, u1_6, u1_7, u1_8, u1_9, u1_10, u1_11, u1_12, u1_13⟩ m_w0 m_w1 m_b0 m_b1 hb0 hb1 hw0 hw1) (by decide) (by decide) u1_0 (g := (mkF m 42 #[rv a1, iv 0, iv 0, iv 0, iv 0, iv 1, u_] [(.int 0), (.int 1), (.ref a1)])) rfl (by rw [hml]; rfl) (argsL := [(.int 1), (.int 0)]) (rest := []) rfl (lenOf own_pd0 rfl) rfl (by show 2 * 0 + _ ≤ _; exact Nat.le_of_eq rfl) (hb hby own_ds20F_42) e5 (by decide) (by decide)
  obtain ⟨rfl, Nq7, e7⟩ := hQ7
  have N7 := Fr.app N0 Nq7
  refine own_s T7 (mkF m 45 #[rv a1, iv 0, iv 0, iv 0, iv 0, iv 1, u_] [(.int (own_b (own_ld (b1 * w0) (b0 * w1) (1 : Int32) (0 : Int32))))]) st7 ?_
  refine own_s T7 (mkF m 57 #[rv a1, iv 0, iv 0, iv 0, iv 0, iv 1, u_] [(.ref a1), (.int 2)]) (fun _ k => XS.ifYes X7.here hx rfl (pc0 := 45) (pc' := 52) rfl (hb hby own_ds20F_45) rfl ((if0 _ _).trans (teq (own_b0 hld)).1) (by decide) (by decide) (XS.iload X7.here hx rfl (hb hby own_ds20F_52) rfl  (XS.iconst X7.here hx rfl (hb hby own_ds20F_54) (XS.iadd X7.here hx rfl (hb hby own_ds20F_55) rfl (XS.aloadN X7.here hx rfl (hb hby own_ds20F_56) rfl rfl k))))) ?_
  obtain ⟨T8, X8, e8, st8⟩ := getF X7 hx hZ hown (host := "") (Or.inl (own_h hw 38 rfl)) Via.refl e7 u1_9 (g := (mkF m 57 #[rv a1, iv 0, iv 0, iv 0, iv 0, iv 1, u_] [(.ref a1), (.int 2)])) rfl rfl (hb hby own_ds20F_57)
  refine own_s T8 (mkF m 60 #[rv a1, iv 0, iv 0, iv 0, iv 0, iv 1, u_] [(.int 2), (.int 2)]) st8 ?_
  refine own_s T8 (mkF m 99 #[rv a1, iv 0, iv 0, iv 0, iv 0, iv 1, u_] [(.int 1)]) (fun _ k => XS.icmpYes X8.here hx rfl (pc0 := 60) (pc' := 92) rfl (hb hby own_ds20F_60) rfl (flt (by decide : ¬ ((2 : Int32) < (2 : Int32)))).2.1 (by decide) (by decide) (XS.iload X8.here hx rfl (hb hby own_ds20F_92) rfl  (XS.iloadN X8.here hx rfl (hb hby own_ds20F_94) rfl  (XS.icmpNo X8.here hx rfl (hb hby own_ds20F_95) rfl (teq (by decide : ((0 : Int32) = (0 : Int32)))).2 (XS.iconst X8.here hx rfl (hb hby own_ds20F_98) k))))) ?_
  refine own_s T8 (mkF m 4 #[rv a1, iv 0, iv 0, iv 1, iv 0, iv 1, u_] []) (fun _ k => XS.goto X8.here hx rfl (pc0 := 99) (pc' := 103) rfl (hb hby own_ds20F_99) (by decide) (by decide) (XS.istoreN X8.here hx rfl (hb hby own_ds20F_103) rfl (l' := #[rv a1, iv 0, iv 0, iv 1, iv 0, iv 1, u_]) rfl (XS.iloadN X8.here hx rfl (hb hby own_ds20F_104) rfl  (XS.ifYes X8.here hx rfl (pc0 := 105) (pc' := 141) rfl (hb hby own_ds20F_105) rfl ((if0 _ _).trans (feq (by decide : ¬ ((1 : Int32) = (0 : Int32)))).2) (by decide) (by decide) (XS.goto X8.here hx rfl (pc0 := 141) (pc' := 4) rfl (hb hby own_ds20F_141) (by decide) (by decide) k))))) ?_
  refine own_s T8 (mkF m 144 #[rv a1, iv 0, iv 0, iv 1, iv 0, iv 1, u_] []) (fun _ k => XS.iloadN X8.here hx rfl (hb hby own_ds20F_4) rfl  (XS.ifYes X8.here hx rfl (pc0 := 5) (pc' := 144) rfl (hb hby own_ds20F_5) rfl ((if0 _ _).trans (feq (by decide : ¬ ((1 : Int32) = (0 : Int32)))).2) (by decide) (by decide) k)) ?_
  exact own_finV X8 hx hret (hb hby own_ds20F_144) (own_end (Qv := (own_Qs20F Z a1 wA bA sA hA kw kb ks kh reach w0 w1 b0 b1 s0 s1 fg rk bs h0 n0)) X8 (fun _ => rfl) hlk (by decide) (by decide) e8 ⟨rfl, N7, (Keep.refl h0 [a1, wA, bA, sA, hA]), ⟨u1_0, u1_1, u1_2, u1_3, u1_4, u1_5, u1_6, u1_7, u1_8, u1_9, u1_10, u1_11, u1_12, u1_13⟩⟩)
theorem own_ds21T_0 : decode prog_47_method_10_code 0 = .ok (.iload_n 1, 1) := by decide +kernel
theorem own_ds21T_1 : decode prog_47_method_10_code 1 = .ok (.istore_n 2, 1) := by decide +kernel
theorem own_ds21T_2 : decode prog_47_method_10_code 2 = .ok (.iconst 0, 1) := by decide +kernel
theorem own_ds21T_3 : decode prog_47_method_10_code 3 = .ok (.istore_n 3, 1) := by decide +kernel
theorem own_ds21T_4 : decode prog_47_method_10_code 4 = .ok (.iload_n 3, 1) := by decide +kernel
theorem own_ds21T_5 : decode prog_47_method_10_code 5 = .ok (.ifCond .ne 139, 3) := by decide +kernel
theorem own_ds21T_8 : decode prog_47_method_10_code 8 = .ok (.iload_n 2, 1) := by decide +kernel
theorem own_ds21T_9 : decode prog_47_method_10_code 9 = .ok (.istore 4, 2) := by decide +kernel
theorem own_ds21T_11 : decode prog_47_method_10_code 11 = .ok (.iconst 2, 1) := by decide +kernel
theorem own_ds21T_12 : decode prog_47_method_10_code 12 = .ok (.iload_n 2, 1) := by decide +kernel
theorem own_ds21T_13 : decode prog_47_method_10_code 13 = .ok (.imul, 1) := by decide +kernel
theorem own_ds21T_14 : decode prog_47_method_10_code 14 = .ok (.iconst 1, 1) := by decide +kernel
theorem own_ds21T_15 : decode prog_47_method_10_code 15 = .ok (.iadd, 1) := by decide +kernel
theorem own_ds21T_16 : decode prog_47_method_10_code 16 = .ok (.istore 5, 2) := by decide +kernel
theorem own_ds21T_18 : decode prog_47_method_10_code 18 = .ok (.iload 5, 2) := by decide +kernel
theorem own_ds21T_20 : decode prog_47_method_10_code 20 = .ok (.aload_n 0, 1) := by decide +kernel
theorem own_ds21T_21 : decode prog_47_method_10_code 21 = .ok (.getfield 31, 3) := by decide +kernel
theorem own_ds21T_24 : decode prog_47_method_10_code 24 = .ok (.if_icmp .ge 28, 3) := by decide +kernel
theorem own_ds21T_27 : decode prog_47_method_10_code 27 = .ok (.aload_n 0, 1) := by decide +kernel
theorem own_ds21T_28 : decode prog_47_method_10_code 28 = .ok (.aload_n 0, 1) := by decide +kernel
theorem own_ds21T_29 : decode prog_47_method_10_code 29 = .ok (.getfield 24, 3) := by decide +kernel
theorem own_ds21T_32 : decode prog_47_method_10_code 32 = .ok (.iload 5, 2) := by decide +kernel
theorem own_ds21T_34 : decode prog_47_method_10_code 34 = .ok (.iaload, 1) := by decide +kernel
theorem own_ds21T_35 : decode prog_47_method_10_code 35 = .ok (.aload_n 0, 1) := by decide +kernel
theorem own_ds21T_36 : decode prog_47_method_10_code 36 = .ok (.getfield 24, 3) := by decide +kernel
theorem own_ds21T_39 : decode prog_47_method_10_code 39 = .ok (.iload 4, 2) := by decide +kernel
theorem own_ds21T_41 : decode prog_47_method_10_code 41 = .ok (.iaload, 1) := by decide +kernel
theorem own_ds21T_42 : decode prog_47_method_10_code 42 = .ok (.invokevirtual 48, 3) := by decide +kernel
theorem own_ds21T_45 : decode prog_47_method_10_code 45 = .ok (.ifCond .eq 7, 3) := by decide +kernel
theorem own_ds21T_48 : decode prog_47_method_10_code 48 = .ok (.iload 5, 2) := by decide +kernel
theorem own_ds21T_50 : decode prog_47_method_10_code 50 = .ok (.istore 4, 2) := by decide +kernel
theorem own_ds21T_52 : decode prog_47_method_10_code 52 = .ok (.iload 5, 2) := by decide +kernel
theorem own_ds21T_54 : decode prog_47_method_10_code 54 = .ok (.iconst 1, 1) := by decide +kernel
theorem own_ds21T_55 : decode prog_47_method_10_code 55 = .ok (.iadd, 1) := by decide +kernel
theorem own_ds21T_56 : decode prog_47_method_10_code 56 = .ok (.aload_n 0, 1) := by decide +kernel
theorem own_ds21T_57 : decode prog_47_method_10_code 57 = .ok (.getfield 31, 3) := by decide +kernel
theorem own_ds21T_60 : decode prog_47_method_10_code 60 = .ok (.if_icmp .ge 32, 3) := by decide +kernel
theorem own_ds21T_92 : decode prog_47_method_10_code 92 = .ok (.iload 4, 2) := by decide +kernel
theorem own_ds21T_94 : decode prog_47_method_10_code 94 = .ok (.iload_n 2, 1) := by decide +kernel
theorem own_ds21T_95 : decode prog_47_method_10_code 95 = .ok (.if_icmp .ne 7, 3) := by decide +kernel
theorem own_ds21T_98 : decode prog_47_method_10_code 98 = .ok (.iconst 1, 1) := by decide +kernel
theorem own_ds21T_99 : decode prog_47_method_10_code 99 = .ok (.goto 4, 3) := by decide +kernel
theorem own_ds21T_102 : decode prog_47_method_10_code 102 = .ok (.iconst 0, 1) := by decide +kernel
theorem own_ds21T_103 : decode prog_47_method_10_code 103 = .ok (.istore_n 3, 1) := by decide +kernel
theorem own_ds21T_104 : decode prog_47_method_10_code 104 = .ok (.iload_n 3, 1) := by decide +kernel
theorem own_ds21T_105 : decode prog_47_method_10_code 105 = .ok (.ifCond .ne 36, 3) := by decide +kernel
theorem own_ds21T_108 : decode prog_47_method_10_code 108 = .ok (.aload_n 0, 1) := by decide +kernel
theorem own_ds21T_109 : decode prog_47_method_10_code 109 = .ok (.getfield 24, 3) := by decide +kernel
theorem own_ds21T_112 : decode prog_47_method_10_code 112 = .ok (.iload_n 2, 1) := by decide +kernel
theorem own_ds21T_113 : decode prog_47_method_10_code 113 = .ok (.iaload, 1) := by decide +kernel
theorem own_ds21T_114 : decode prog_47_method_10_code 114 = .ok (.istore 6, 2) := by decide +kernel
theorem own_ds21T_116 : decode prog_47_method_10_code 116 = .ok (.aload_n 0, 1) := by decide +kernel
theorem own_ds21T_117 : decode prog_47_method_10_code 117 = .ok (.getfield 24, 3) := by decide +kernel
theorem own_ds21T_120 : decode prog_47_method_10_code 120 = .ok (.iload_n 2, 1) := by decide +kernel
theorem own_ds21T_121 : decode prog_47_method_10_code 121 = .ok (.aload_n 0, 1) := by decide +kernel
theorem own_ds21T_122 : decode prog_47_method_10_code 122 = .ok (.getfield 24, 3) := by decide +kernel
theorem own_ds21T_125 : decode prog_47_method_10_code 125 = .ok (.iload 4, 2) := by decide +kernel
theorem own_ds21T_127 : decode prog_47_method_10_code 127 = .ok (.iaload, 1) := by decide +kernel
theorem own_ds21T_128 : decode prog_47_method_10_code 128 = .ok (.iastore, 1) := by decide +kernel
theorem own_ds21T_129 : decode prog_47_method_10_code 129 = .ok (.aload_n 0, 1) := by decide +kernel
theorem own_ds21T_130 : decode prog_47_method_10_code 130 = .ok (.getfield 24, 3) := by decide +kernel
theorem own_ds21T_133 : decode prog_47_method_10_code 133 = .ok (.iload 4, 2) := by decide +kernel
theorem own_ds21T_135 : decode prog_47_method_10_code 135 = .ok (.iload 6, 2) := by decide +kernel
theorem own_ds21T_137 : decode prog_47_method_10_code 137 = .ok (.iastore, 1) := by decide +kernel
theorem own_ds21T_138 : decode prog_47_method_10_code 138 = .ok (.iload 4, 2) := by decide +kernel
theorem own_ds21T_140 : decode prog_47_method_10_code 140 = .ok (.istore_n 2, 1) := by decide +kernel
theorem own_ds21T_141 : decode prog_47_method_10_code 141 = .ok (.goto (-137), 3) := by decide +kernel
theorem own_ds21T_144 : decode prog_47_method_10_code 144 = .ok (.return_, 1) := by decide +kernel
theorem own_efs21T (m : MethodId) (x0 : Addr) (x1 : Int32) : entryFrame m #[(.ref x0), (.int x1)] 7 = mkF m 0 #[rv x0, iv x1, u_, u_, u_, u_, u_] [] := by first | (simp [entryFrame, mkF, argsToLocals, Value.category]; done) | rfl
def own_Qs21T (Z : State) (a1 : Addr) (wA bA sA hA : Addr) (kw kb ks kh : ClassId) (reach : Int32) (w0 : Int64) (w1 : Int64) (b0 : Int64) (b1 : Int64) (s0 : Int64) (s1 : Int64) (fg : Int64) (rk : Int32) (bs : Int32) (h0 : Heap) (n0 : Nat) : Option Value → Heap → List Loc → Prop := fun v h L => v = none ∧ Fr n0 L ∧ Keep h0 h [a1, wA, bA, sA, hA] ∧ own_CQ Z h a1 wA bA sA hA kw kb ks kh reach w0 w1 b0 b1 s0 s1 (0 : Int32) (1 : Int32) fg rk bs (2 : Int32)
def own_Rs21T : Room := { frames := 1, cells := 0, slots := 0, locals := 18 }
set_option maxRecDepth 65536 in
set_option maxHeartbeats 40000000 in
theorem own_rms21T (l : Launch) (Z : State) (a0 : Array Value) (hw : ∀ d ∈ tables_1, d.before a0 Z = true) (ws : List Jvm.Cond) (a1 : Addr) (wA bA sA hA : Addr) (kw kb ks kh : ClassId) (reach : Int32) (w0 : Int64) (w1 : Int64) (b0 : Int64) (b1 : Int64) (s0 : Int64) (s1 : Int64) (fg : Int64) (rk : Int32) (bs : Int32) (h0 : Heap) (n0 : Nat) (Z0 : n0 ≤ h0.size) (hCQ : own_CQ Z h0 a1 wA bA sA hA kw kb ks kh reach w0 w1 b0 b1 s0 s1 (1 : Int32) (0 : Int32) fg rk bs (2 : Int32)) (hNE : own_NE a1 wA bA sA hA) (hGE : own_GE n0 a1 wA bA sA hA) (m_w0 : own_Mg 8 w0) (m_w1 : own_Mg 8 w1) (m_b0 : own_Mg 8 b0) (m_b1 : own_Mg 8 b1) (hb0 : (0 : Int64) < b0) (hb1 : (0 : Int64) < b1) (hw0 : ¬ w0 < (0 : Int64)) (hw1 : ¬ w1 < (0 : Int64)) (hld : (own_ld (b0 * w1) (b1 * w0) (0 : Int32) (1 : Int32)) = true) :
    own_Met l Z own_y2 prog_47_method_10_code 7 none ws own_Rs21T h0 #[(.ref a1), (.int 0)] (own_Qs21T Z a1 wA bA sA hA kw kb ks kh reach w0 w1 b0 b1 s0 s1 fg rk bs h0 n0) own_Rs21T.cells own_Rs21T.slots := by
  refine own_start (plainFor_of_name own_pn0) ?_
  intro p e s m below meth c s₁ X0 hx hZ hby hml hret hlk hown hnm e0
  have hown : s.vm.findClass "com/example/allotrope/allotrope/procure/CoverQueue" = some m.cls := hown
  have hml : c.maxLocals = 7 := hml
  have N0 := Fr.nil n0
  refine own_cast (own_efs21T m a1 (0 : Int32)) ?_
  obtain ⟨ne_a1_wA, ne_a1_bA, ne_a1_sA, ne_a1_hA, ne_wA_bA, ne_wA_sA, ne_wA_hA, ne_bA_sA, ne_bA_hA, ne_sA_hA⟩ := id hNE
  obtain ⟨g_a1, g_wA, g_bA, g_sA, g_hA⟩ := id hGE
  obtain ⟨u1_0, u1_1, u1_2, u1_3, u1_4, u1_5, u1_6, u1_7, u1_8, u1_9, u1_10, u1_11, u1_12, u1_13⟩ := id hCQ
  refine own_s s₁ (mkF m 5 #[rv a1, iv 0, iv 0, iv 0, u_, u_, u_] [(.int 0)]) (fun _ k => XS.iloadN X0.here hx rfl (hb hby own_ds21T_0) rfl  (XS.istoreN X0.here hx rfl (hb hby own_ds21T_1) rfl (l' := #[rv a1, iv 0, iv 0, u_, u_, u_, u_]) rfl (XS.iconst X0.here hx rfl (hb hby own_ds21T_2) (XS.istoreN X0.here hx rfl (hb hby own_ds21T_3) rfl (l' := #[rv a1, iv 0, iv 0, iv 0, u_, u_, u_]) rfl (XS.iloadN X0.here hx rfl (hb hby own_ds21T_4) rfl  k))))) ?_
  refine own_s s₁ (mkF m 13 #[rv a1, iv 0, iv 0, iv 0, iv 0, u_, u_] [(.int 0), (.int 2)]) (fun _ k => XS.ifNo X0.here hx rfl (hb hby own_ds21T_5) rfl ((if0 _ _).trans (teq (by decide : ((0 : Int32) = (0 : Int32)))).2) (XS.iloadN X0.here hx rfl (hb hby own_ds21T_8) rfl  (XS.istore X0.here hx rfl (hb hby own_ds21T_9) rfl (l' := #[rv a1, iv 0, iv 0, iv 0, iv 0, u_, u_]) rfl (XS.iconst X0.here hx rfl (hb hby own_ds21T_11) (XS.iloadN X0.here hx rfl (hb hby own_ds21T_12) rfl  k))))) ?_
  refine own_s s₁ (mkF m 20 #[rv a1, iv 0, iv 0, iv 0, iv 0, iv 1, u_] [(.int 1)]) (fun _ k => XS.imul X0.here hx rfl (hb hby own_ds21T_13) rfl (XS.iconst X0.here hx rfl (hb hby own_ds21T_14) (XS.iadd X0.here hx rfl (hb hby own_ds21T_15) rfl (XS.istore X0.here hx rfl (hb hby own_ds21T_16) rfl (l' := #[rv a1, iv 0, iv 0, iv 0, iv 0, iv 1, u_]) rfl (XS.iload X0.here hx rfl (hb hby own_ds21T_18) rfl  k))))) ?_
  refine own_s s₁ (mkF m 21 #[rv a1, iv 0, iv 0, iv 0, iv 0, iv 1, u_] [(.ref a1), (.int 1)]) (fun _ k => XS.aloadN X0.here hx rfl (hb hby own_ds21T_20) rfl rfl k) ?_
  obtain ⟨T2, X2, e2, st2⟩ := getF X0 hx hZ hown (host := "") (Or.inl (own_h hw 38 rfl)) Via.refl e0 u1_9 (g := (mkF m 21 #[rv a1, iv 0, iv 0, iv 0, iv 0, iv 1, u_] [(.ref a1), (.int 1)])) rfl rfl (hb hby own_ds21T_21)
  refine own_s T2 (mkF m 24 #[rv a1, iv 0, iv 0, iv 0, iv 0, iv 1, u_] [(.int 2), (.int 1)]) st2 ?_
  refine own_s T2 (mkF m 29 #[rv a1, iv 0, iv 0, iv 0, iv 0, iv 1, u_] [(.ref a1), (.ref a1)]) (fun _ k => XS.icmpNo X2.here hx rfl (hb hby own_ds21T_24) rfl (tlt (by decide : ((1 : Int32) < (2 : Int32)))).2.1 (XS.aloadN X2.here hx rfl (hb hby own_ds21T_27) rfl rfl (XS.aloadN X2.here hx rfl (hb hby own_ds21T_28) rfl rfl k))) ?_
  obtain ⟨T3, X3, e3, st3⟩ := getF X2 hx hZ hown (host := "") (Or.inl (own_h hw 20 rfl)) Via.refl e2 u1_5 (g := (mkF m 29 #[rv a1, iv 0, iv 0, iv 0, iv 0, iv 1, u_] [(.ref a1), (.ref a1)])) rfl rfl (hb hby own_ds21T_29)
  refine own_s T3 (mkF m 32 #[rv a1, iv 0, iv 0, iv 0, iv 0, iv 1, u_] [(.ref hA), (.ref a1)]) st3 ?_
  refine own_s T3 (mkF m 34 #[rv a1, iv 0, iv 0, iv 0, iv 0, iv 1, u_] [(.int 1), (.ref hA), (.ref a1)]) (fun _ k => XS.iload X3.here hx rfl (hb hby own_ds21T_32) rfl  k) ?_
  obtain ⟨cl4, Ar4, q4, S4, Nn4, H4, G4⟩ := id u1_13
  have hin4 : ¬ ((1 : Int32) < 0 ∨ cl4.slots.size ≤ ((1 : Int32)).toNatClampNeg) := (inb_of S4 ⟨by decide, by decide⟩)
  refine own_s T3 (mkF m 36 #[rv a1, iv 0, iv 0, iv 0, iv 0, iv 1, u_] [(.ref a1), (.int 0), (.ref a1)]) (fun _ k => X3.iaload hx (j := (1 : Int32)) (v := (.int 0)) (own_at e3 Ar4.1) (State.isArrayOf_alike hZ.alike Ar4.2.1) Ar4.2.2 hin4 (Has.at H4 hin4 rfl) (g := (mkF m 34 #[rv a1, iv 0, iv 0, iv 0, iv 0, iv 1, u_] [(.int 1), (.ref hA), (.ref a1)])) rfl rfl (hb hby own_ds21T_34) _ (XS.aloadN X3.here hx rfl (hb hby own_ds21T_35) rfl rfl k)) ?_
  obtain ⟨T5, X5, e5, st5⟩ := getF X3 hx hZ hown (host := "") (Or.inl (own_h hw 20 rfl)) Via.refl e3 u1_5 (g := (mkF m 36 #[rv a1, iv 0, iv 0, iv 0, iv 0, iv 1, u_] [(.ref a1), (.int 0), (.ref a1)])) rfl rfl (hb hby own_ds21T_36)
  refine own_s T5 (mkF m 39 #[rv a1, iv 0, iv 0, iv 0, iv 0, iv 1, u_] [(.ref hA), (.int 0), (.ref a1)]) st5 ?_
  refine own_s T5 (mkF m 41 #[rv a1, iv 0, iv 0, iv 0, iv 0, iv 1, u_] [(.int 0), (.ref hA), (.int 0), (.ref a1)]) (fun _ k => XS.iload X5.here hx rfl (hb hby own_ds21T_39) rfl  k) ?_
  obtain ⟨cl6, Ar6, q6, S6, Nn6, H6, G6⟩ := id u1_13
  have hin6 : ¬ ((0 : Int32) < 0 ∨ cl6.slots.size ≤ ((0 : Int32)).toNatClampNeg) := (inb_of S6 ⟨by decide, by decide⟩)
  refine own_s T5 (mkF m 42 #[rv a1, iv 0, iv 0, iv 0, iv 0, iv 1, u_] [(.int 1), (.int 0), (.ref a1)]) (fun _ k => X5.iaload hx (j := (0 : Int32)) (v := (.int 1)) (own_at e5 Ar6.1) (State.isArrayOf_alike hZ.alike Ar6.2.1) Ar6.2.2 hin6 (Has.at H6 hin6 rfl) (g := (mkF m 41 #[rv a1, iv 0, iv 0, iv 0, iv 0, iv 1, u_] [(.int 0), (.ref hA), (.int 0), (.ref a1)])) rfl rfl (hb hby own_ds21T_41) _ k) ?_
  obtain ⟨v7, T7, L7, X7, hQ7, st7⟩ := own_callP X5 hx hZ (y := own_y0) (W := 0) (a := a1) hown (own_h hw 68 rfl) (own_h hw 69 rfl) (own_h hw 1 rfl) (own_h hw 70 rfl) (own_h hw 2 rfl) (own_h hw 71 rfl) (by decide) (own_rmld01 l Z a0 hw [] a1 wA bA sA hA kw kb ks kh reach w0 w1 b0 b1 s0 s1 (1 : Int32) (0 : Int32) fg rk bs (2 : Int32) h0 n0 Z0 ⟨u1_0, u1_1, u1_2, u1_3, u1_4, u1_5, u1_6, u1_7, u1_8, u1_9, u1_10, u1_11, u1_12, u1_13⟩ m_w0 m_w1 m_b0 m_b1 hb0 hb1 hw0 hw1) (by decide) (by decide) u1_0 (g := (mkF m 42 #[rv a1, iv 0, iv 0, iv 0, iv 0, iv 1, u_] [(.int 1), (.int 0), (.ref a1)])) rfl (by rw [hml]; rfl) (argsL := [(.int 0), (.int 1)]) (rest := []) rfl (lenOf own_pd0 rfl) rfl (by show 2 * 0 + _ ≤ _; exact Nat.le_of_eq rfl) (hb hby own_ds21T_42) e5 (by decide) (by decide)
  obtain ⟨rfl, Nq7, e7⟩ := hQ7
  have N7 := Fr.app N0 Nq7
  refine own_s T7 (mkF m 45 #[rv a1, iv 0, iv 0, iv 0, iv 0, iv 1, u_] [(.int (own_b (own_ld (b0 * w1) (b1 * w0) (0 : Int32) (1 : Int32))))]) st7 ?_
  refine own_s T7 (mkF m 55 #[rv a1, iv 0, iv 0, iv 0, iv 1, iv 1, u_] [(.int 1), (.int 1)]) (fun _ k => XS.ifNo X7.here hx rfl (hb hby own_ds21T_45) rfl ((if0 _ _).trans (feq (own_b1 (by simp [hld]))).1) (XS.iload X7.here hx rfl (hb hby own_ds21T_48) rfl  (XS.istore X7.here hx rfl (hb hby own_ds21T_50) rfl (l' := #[rv a1, iv 0, iv 0, iv 0, iv 1, iv 1, u_]) rfl (XS.iload X7.here hx rfl (hb hby own_ds21T_52) rfl  (XS.iconst X7.here hx rfl (hb hby own_ds21T_54) k))))) ?_
  refine own_s T7 (mkF m 57 #[rv a1, iv 0, iv 0, iv 0, iv 1, iv 1, u_] [(.ref a1), (.int 2)]) (fun _ k => XS.iadd X7.here hx rfl (hb hby own_ds21T_55) rfl (XS.aloadN X7.here hx rfl (hb hby own_ds21T_56) rfl rfl k)) ?_
  obtain ⟨T8, X8, e8, st8⟩ := getF X7 hx hZ hown (host := "") (Or.inl (own_h hw 38 rfl)) Via.refl e7 u1_9 (g := (mkF m 57 #[rv a1, iv 0, iv 0, iv 0, iv 1, iv 1, u_] [(.ref a1), (.int 2)])) rfl rfl (hb hby own_ds21T_57)
  refine own_s T8 (mkF m 60 #[rv a1, iv 0, iv 0, iv 0, iv 1, iv 1, u_] [(.int 2), (.int 2)]) st8 ?_
  refine own_s T8 (mkF m 103 #[rv a1, iv 0, iv 0, iv 0, iv 1, iv 1, u_] [(.int 0)]) (fun _ k => XS.icmpYes X8.here hx rfl (pc0 := 60) (pc' := 92) rfl (hb hby own_ds21T_60) rfl (flt (by decide : ¬ ((2 : Int32) < (2 : Int32)))).2.1 (by decide) (by decide) (XS.iload X8.here hx rfl (hb hby own_ds21T_92) rfl  (XS.iloadN X8.here hx rfl (hb hby own_ds21T_94) rfl  (XS.icmpYes X8.here hx rfl (pc0 := 95) (pc' := 102) rfl (hb hby own_ds21T_95) rfl (feq (by decide : ¬ ((1 : Int32) = (0 : Int32)))).2 (by decide) (by decide) (XS.iconst X8.here hx rfl (hb hby own_ds21T_102) k))))) ?_
  refine own_s T8 (mkF m 109 #[rv a1, iv 0, iv 0, iv 0, iv 1, iv 1, u_] [(.ref a1)]) (fun _ k => XS.istoreN X8.here hx rfl (hb hby own_ds21T_103) rfl (l' := #[rv a1, iv 0, iv 0, iv 0, iv 1, iv 1, u_]) rfl (XS.iloadN X8.here hx rfl (hb hby own_ds21T_104) rfl  (XS.ifNo X8.here hx rfl (hb hby own_ds21T_105) rfl ((if0 _ _).trans (teq (by decide : ((0 : Int32) = (0 : Int32)))).2) (XS.aloadN X8.here hx rfl (hb hby own_ds21T_108) rfl rfl k)))) ?_
  obtain ⟨T9, X9, e9, st9⟩ := getF X8 hx hZ hown (host := "") (Or.inl (own_h hw 20 rfl)) Via.refl e8 u1_5 (g := (mkF m 109 #[rv a1, iv 0, iv 0, iv 0, iv 1, iv 1, u_] [(.ref a1)])) rfl rfl (hb hby own_ds21T_109)
  refine own_s T9 (mkF m 112 #[rv a1, iv 0, iv 0, iv 0, iv 1, iv 1, u_] [(.ref hA)]) st9 ?_
  refine own_s T9 (mkF m 113 #[rv a1, iv 0, iv 0, iv 0, iv 1, iv 1, u_] [(.int 0), (.ref hA)]) (fun _ k => XS.iloadN X9.here hx rfl (hb hby own_ds21T_112) rfl  k) ?_
  obtain ⟨cl10, Ar10, q10, S10, Nn10, H10, G10⟩ := id u1_13
  have hin10 : ¬ ((0 : Int32) < 0 ∨ cl10.slots.size ≤ ((0 : Int32)).toNatClampNeg) := (inb_of S10 ⟨by decide, by decide⟩)
  refine own_s T9 (mkF m 117 #[rv a1, iv 0, iv 0, iv 0, iv 1, iv 1, iv 1] [(.ref a1)]) (fun _ k => X9.iaload hx (j := (0 : Int32)) (v := (.int 1)) (own_at e9 Ar10.1) (State.isArrayOf_alike hZ.alike Ar10.2.1) Ar10.2.2 hin10 (Has.at H10 hin10 rfl) (g := (mkF m 113 #[rv a1, iv 0, iv 0, iv 0, iv 1, iv 1, u_] [(.int 0), (.ref hA)])) rfl rfl (hb hby own_ds21T_113) _ (XS.istore X9.here hx rfl (hb hby own_ds21T_114) rfl (l' := #[rv a1, iv 0, iv 0, iv 0, iv 1, iv 1, iv 1]) rfl (XS.aloadN X9.here hx rfl (hb hby own_ds21T_116) rfl rfl k))) ?_
  obtain ⟨T11, X11, e11, st11⟩ := getF X9 hx hZ hown (host := "") (Or.inl (own_h hw 20 rfl)) Via.refl e9 u1_5 (g := (mkF m 117 #[rv a1, iv 0, iv 0, iv 0, iv 1, iv 1, iv 1] [(.ref a1)])) rfl rfl (hb hby own_ds21T_117)
  refine own_s T11 (mkF m 120 #[rv a1, iv 0, iv 0, iv 0, iv 1, iv 1, iv 1] [(.ref hA)]) st11 ?_
  refine own_s T11 (mkF m 122 #[rv a1, iv 0, iv 0, iv 0, iv 1, iv 1, iv 1] [(.ref a1), (.int 0), (.ref hA)]) (fun _ k => XS.iloadN X11.here hx rfl (hb hby own_ds21T_120) rfl  (XS.aloadN X11.here hx rfl (hb hby own_ds21T_121) rfl rfl k)) ?_
  obtain ⟨T12, X12, e12, st12⟩ := getF X11 hx hZ hown (host := "") (Or.inl (own_h hw 20 rfl)) Via.refl e11 u1_5 (g := (mkF m 122 #[rv a1, iv 0, iv 0, iv 0, iv 1, iv 1, iv 1] [(.ref a1), (.int 0), (.ref hA)])) rfl rfl (hb hby own_ds21T_122)
  refine own_s T12 (mkF m 125 #[rv a1, iv 0, iv 0, iv 0, iv 1, iv 1, iv 1] [(.ref hA), (.int 0), (.ref hA)]) st12 ?_
  refine own_s T12 (mkF m 127 #[rv a1, iv 0, iv 0, iv 0, iv 1, iv 1, iv 1] [(.int 1), (.ref hA), (.int 0), (.ref hA)]) (fun _ k => XS.iload X12.here hx rfl (hb hby own_ds21T_125) rfl  k) ?_
  obtain ⟨cl13, Ar13, q13, S13, Nn13, H13, G13⟩ := id u1_13
  have hin13 : ¬ ((1 : Int32) < 0 ∨ cl13.slots.size ≤ ((1 : Int32)).toNatClampNeg) := (inb_of S13 ⟨by decide, by decide⟩)
  refine own_s T12 (mkF m 128 #[rv a1, iv 0, iv 0, iv 0, iv 1, iv 1, iv 1] [(.int 0), (.int 0), (.ref hA)]) (fun _ k => X12.iaload hx (j := (1 : Int32)) (v := (.int 0)) (own_at e12 Ar13.1) (State.isArrayOf_alike hZ.alike Ar13.2.1) Ar13.2.2 hin13 (Has.at H13 hin13 rfl) (g := (mkF m 127 #[rv a1, iv 0, iv 0, iv 0, iv 1, iv 1, iv 1] [(.int 1), (.ref hA), (.int 0), (.ref hA)])) rfl rfl (hb hby own_ds21T_127) _ k) ?_
  obtain ⟨cl14, Ar14, q14, S14, Nn14, H14, G14⟩ := id u1_13
  have hin14 : ¬ ((0 : Int32) < 0 ∨ cl14.slots.size ≤ ((0 : Int32)).toNatClampNeg) := (inb_of S14 ⟨by decide, by decide⟩)
  obtain ⟨T14, h14, X14, e14, W14, st14⟩ := stI X12 hx hZ e12 Ar14 (j := (0 : Int32)) hin14 (g := (mkF m 128 #[rv a1, iv 0, iv 0, iv 0, iv 1, iv 1, iv 1] [(.int 0), (.int 0), (.ref hA)])) rfl rfl (hb hby own_ds21T_128)
  have f14 : Arv Z h14 hA kh .int (2 : Int32) [(.int 0), (.int 0)] (.int 0) := Arv.set Ar14 q14 S14 Nn14 H14 G14 rfl W14 0 rfl (Nat.le_of_ble_eq_true rfl)
  have f15 := Exa.wr W14 u1_0
  have f16 := Fld.other W14 u1_1 (Or.inl ne_a1_hA)
  have f17 := Fld.other W14 u1_2 (Or.inl ne_a1_hA)
  have f18 := Fld.other W14 u1_3 (Or.inl ne_a1_hA)
  have f19 := Fld.other W14 u1_4 (Or.inl ne_a1_hA)
  have f20 := Fld.other W14 u1_5 (Or.inl ne_a1_hA)
  have f21 := Fld.other W14 u1_6 (Or.inl ne_a1_hA)
  have f22 := Fld.other W14 u1_7 (Or.inl ne_a1_hA)
  have f23 := Fld.other W14 u1_8 (Or.inl ne_a1_hA)
  have f24 := Fld.other W14 u1_9 (Or.inl ne_a1_hA)
  have f25 := u1_10.other W14 ne_wA_hA
  have f26 := u1_11.other W14 ne_bA_hA
  have f27 := u1_12.other W14 ne_sA_hA
  have K14 : Keep h0 h14 [a1, wA, bA, sA, hA] := (Keep.refl h0 [a1, wA, bA, sA, hA]).wr W14 (Or.inl (List.mem_of_getElem? (i := 4) rfl))
  have Z14 := Nat.le_trans Z0 (Nat.le_of_eq W14.size.symm)
  have N14 := Fr.snoc X14 N7 g_hA
  refine own_s T14 (mkF m 129 #[rv a1, iv 0, iv 0, iv 0, iv 1, iv 1, iv 1] []) st14 ?_
  refine own_s T14 (mkF m 130 #[rv a1, iv 0, iv 0, iv 0, iv 1, iv 1, iv 1] [(.ref a1)]) (fun _ k => XS.aloadN X14.here hx rfl (hb hby own_ds21T_129) rfl rfl k) ?_
  obtain ⟨T28, X28, e28, st28⟩ := getF X14 hx hZ hown (host := "") (Or.inl (own_h hw 20 rfl)) Via.refl e14 f20 (g := (mkF m 130 #[rv a1, iv 0, iv 0, iv 0, iv 1, iv 1, iv 1] [(.ref a1)])) rfl rfl (hb hby own_ds21T_130)
  refine own_s T28 (mkF m 133 #[rv a1, iv 0, iv 0, iv 0, iv 1, iv 1, iv 1] [(.ref hA)]) st28 ?_
  refine own_s T28 (mkF m 137 #[rv a1, iv 0, iv 0, iv 0, iv 1, iv 1, iv 1] [(.int 1), (.int 1), (.ref hA)]) (fun _ k => XS.iload X28.here hx rfl (hb hby own_ds21T_133) rfl  (XS.iload X28.here hx rfl (hb hby own_ds21T_135) rfl  k)) ?_
  obtain ⟨cl29, Ar29, q29, S29, Nn29, H29, G29⟩ := id f14
  have hin29 : ¬ ((1 : Int32) < 0 ∨ cl29.slots.size ≤ ((1 : Int32)).toNatClampNeg) := (inb_of S29 ⟨by decide, by decide⟩)
  obtain ⟨T29, h29, X29, e29, W29, st29⟩ := stI X28 hx hZ e28 Ar29 (j := (1 : Int32)) hin29 (g := (mkF m 137 #[rv a1, iv 0, iv 0, iv 0, iv 1, iv 1, iv 1] [(.int 1), (.int 1), (.ref hA)])) rfl rfl (hb hby own_ds21T_137)
  have f29 : Arv Z h29 hA kh .int (2 : Int32) [(.int 0), (.int 1)] (.int 0) := Arv.set Ar29 q29 S29 Nn29 H29 G29 rfl W29 1 rfl (Nat.le_of_ble_eq_true rfl)
  have f30 := Exa.wr W29 f15
  have f31 := Fld.other W29 f16 (Or.inl ne_a1_hA)
  have f32 := Fld.other W29 f17 (Or.inl ne_a1_hA)
  have f33 := Fld.other W29 f18 (Or.inl ne_a1_hA)
  have f34 := Fld.other W29 f19 (Or.inl ne_a1_hA)
  have f35 := Fld.other W29 f20 (Or.inl ne_a1_hA)
  have f36 := Fld.other W29 f21 (Or.inl ne_a1_hA)
  have f37 := Fld.other W29 f22 (Or.inl ne_a1_hA)
  have f38 := Fld.other W29 f23 (Or.inl ne_a1_hA)
  have f39 := Fld.other W29 f24 (Or.inl ne_a1_hA)
  have f40 := f25.other W29 ne_wA_hA
  have f41 := f26.other W29 ne_bA_hA
  have f42 := f27.other W29 ne_sA_hA
  have K29 : Keep h0 h29 [a1, wA, bA, sA, hA] := K14.wr W29 (Or.inl (List.mem_of_getElem? (i := 4) rfl))
  have Z29 := Nat.le_trans Z14 (Nat.le_of_eq W29.size.symm)
  have N29 := Fr.snoc X29 N14 g_hA
  refine own_s T29 (mkF m 138 #[rv a1, iv 0, iv 0, iv 0, iv 1, iv 1, iv 1] []) st29 ?_
  refine own_s T29 (mkF m 8 #[rv a1, iv 0, iv 1, iv 0, iv 1, iv 1, iv 1] []) (fun _ k => XS.iload X29.here hx rfl (hb hby own_ds21T_138) rfl  (XS.istoreN X29.here hx rfl (hb hby own_ds21T_140) rfl (l' := #[rv a1, iv 0, iv 1, iv 0, iv 1, iv 1, iv 1]) rfl (XS.goto X29.here hx rfl (pc0 := 141) (pc' := 4) rfl (hb hby own_ds21T_141) (by decide) (by decide) (XS.iloadN X29.here hx rfl (hb hby own_ds21T_4) rfl  (XS.ifNo X29.here hx rfl (hb hby own_ds21T_5) rfl ((if0 _ _).trans (teq (by decide : ((0 : Int32) = (0 : Int32)))).2) k))))) ?_
  refine own_s T29 (mkF m 14 #[rv a1, iv 0, iv 1, iv 0, iv 1, iv 1, iv 1] [(.int 2)]) (fun _ k => XS.iloadN X29.here hx rfl (hb hby own_ds21T_8) rfl  (XS.istore X29.here hx rfl (hb hby own_ds21T_9) rfl (l' := #[rv a1, iv 0, iv 1, iv 0, iv 1, iv 1, iv 1]) rfl (XS.iconst X29.here hx rfl (hb hby own_ds21T_11) (XS.iloadN X29.here hx rfl (hb hby own_ds21T_12) rfl  (XS.imul X29.here hx rfl (hb hby own_ds21T_13) rfl k))))) ?_
  refine own_s T29 (mkF m 21 #[rv a1, iv 0, iv 1, iv 0, iv 1, iv 3, iv 1] [(.ref a1), (.int 3)]) (fun _ k => XS.iconst X29.here hx rfl (hb hby own_ds21T_14) (XS.iadd X29.here hx rfl (hb hby own_ds21T_15) rfl (XS.istore X29.here hx rfl (hb hby own_ds21T_16) rfl (l' := #[rv a1, iv 0, iv 1, iv 0, iv 1, iv 3, iv 1]) rfl (XS.iload X29.here hx rfl (hb hby own_ds21T_18) rfl  (XS.aloadN X29.here hx rfl (hb hby own_ds21T_20) rfl rfl k))))) ?_
  obtain ⟨T43, X43, e43, st43⟩ := getF X29 hx hZ hown (host := "") (Or.inl (own_h hw 38 rfl)) Via.refl e29 f39 (g := (mkF m 21 #[rv a1, iv 0, iv 1, iv 0, iv 1, iv 3, iv 1] [(.ref a1), (.int 3)])) rfl rfl (hb hby own_ds21T_21)
  refine own_s T43 (mkF m 24 #[rv a1, iv 0, iv 1, iv 0, iv 1, iv 3, iv 1] [(.int 2), (.int 3)]) st43 ?_
  refine own_s T43 (mkF m 57 #[rv a1, iv 0, iv 1, iv 0, iv 1, iv 3, iv 1] [(.ref a1), (.int 4)]) (fun _ k => XS.icmpYes X43.here hx rfl (pc0 := 24) (pc' := 52) rfl (hb hby own_ds21T_24) rfl (flt (by decide : ¬ ((3 : Int32) < (2 : Int32)))).2.1 (by decide) (by decide) (XS.iload X43.here hx rfl (hb hby own_ds21T_52) rfl  (XS.iconst X43.here hx rfl (hb hby own_ds21T_54) (XS.iadd X43.here hx rfl (hb hby own_ds21T_55) rfl (XS.aloadN X43.here hx rfl (hb hby own_ds21T_56) rfl rfl k))))) ?_
  obtain ⟨T44, X44, e44, st44⟩ := getF X43 hx hZ hown (host := "") (Or.inl (own_h hw 38 rfl)) Via.refl e43 f39 (g := (mkF m 57 #[rv a1, iv 0, iv 1, iv 0, iv 1, iv 3, iv 1] [(.ref a1), (.int 4)])) rfl rfl (hb hby own_ds21T_57)
  refine own_s T44 (mkF m 60 #[rv a1, iv 0, iv 1, iv 0, iv 1, iv 3, iv 1] [(.int 2), (.int 4)]) st44 ?_
  refine own_s T44 (mkF m 99 #[rv a1, iv 0, iv 1, iv 0, iv 1, iv 3, iv 1] [(.int 1)]) (fun _ k => XS.icmpYes X44.here hx rfl (pc0 := 60) (pc' := 92) rfl (hb hby own_ds21T_60) rfl (flt (by decide : ¬ ((4 : Int32) < (2 : Int32)))).2.1 (by decide) (by decide) (XS.iload X44.here hx rfl (hb hby own_ds21T_92) rfl  (XS.iloadN X44.here hx rfl (hb hby own_ds21T_94) rfl  (XS.icmpNo X44.here hx rfl (hb hby own_ds21T_95) rfl (teq (by decide : ((1 : Int32) = (1 : Int32)))).2 (XS.iconst X44.here hx rfl (hb hby own_ds21T_98) k))))) ?_
  refine own_s T44 (mkF m 4 #[rv a1, iv 0, iv 1, iv 1, iv 1, iv 3, iv 1] []) (fun _ k => XS.goto X44.here hx rfl (pc0 := 99) (pc' := 103) rfl (hb hby own_ds21T_99) (by decide) (by decide) (XS.istoreN X44.here hx rfl (hb hby own_ds21T_103) rfl (l' := #[rv a1, iv 0, iv 1, iv 1, iv 1, iv 3, iv 1]) rfl (XS.iloadN X44.here hx rfl (hb hby own_ds21T_104) rfl  (XS.ifYes X44.here hx rfl (pc0 := 105) (pc' := 141) rfl (hb hby own_ds21T_105) rfl ((if0 _ _).trans (feq (by decide : ¬ ((1 : Int32) = (0 : Int32)))).2) (by decide) (by decide) (XS.goto X44.here hx rfl (pc0 := 141) (pc' := 4) rfl (hb hby own_ds21T_141) (by decide) (by decide) k))))) ?_
  refine own_s T44 (mkF m 144 #[rv a1, iv 0, iv 1, iv 1, iv 1, iv 3, iv 1] []) (fun _ k => XS.iloadN X44.here hx rfl (hb hby own_ds21T_4) rfl  (XS.ifYes X44.here hx rfl (pc0 := 5) (pc' := 144) rfl (hb hby own_ds21T_5) rfl ((if0 _ _).trans (feq (by decide : ¬ ((1 : Int32) = (0 : Int32)))).2) (by decide) (by decide) k)) ?_
  exact own_finV X44 hx hret (hb hby own_ds21T_144) (own_end (Qv := (own_Qs21T Z a1 wA bA sA hA kw kb ks kh reach w0 w1 b0 b1 s0 s1 fg rk bs h0 n0)) X44 (fun _ => rfl) hlk (by decide) (by decide) e44 ⟨rfl, N29, K29, ⟨f30, f31, f32, f33, f34, f35, f36, f37, f38, f39, f40, f41, f42, f29⟩⟩)
theorem own_ds21F_0 : decode prog_47_method_10_code 0 = .ok (.iload_n 1, 1) := by decide +kernel
theorem own_ds21F_1 : decode prog_47_method_10_code 1 = .ok (.istore_n 2, 1) := by decide +kernel
theorem own_ds21F_2 : decode prog_47_method_10_code 2 = .ok (.iconst 0, 1) := by decide +kernel
theorem own_ds21F_3 : decode prog_47_method_10_code 3 = .ok (.istore_n 3, 1) := by decide +kernel
theorem own_ds21F_4 : decode prog_47_method_10_code 4 = .ok (.iload_n 3, 1) := by decide +kernel
theorem own_ds21F_5 : decode prog_47_method_10_code 5 = .ok (.ifCond .ne 139, 3) := by decide +kernel
theorem own_ds21F_8 : decode prog_47_method_10_code 8 = .ok (.iload_n 2, 1) := by decide +kernel
theorem own_ds21F_9 : decode prog_47_method_10_code 9 = .ok (.istore 4, 2) := by decide +kernel
theorem own_ds21F_11 : decode prog_47_method_10_code 11 = .ok (.iconst 2, 1) := by decide +kernel
theorem own_ds21F_12 : decode prog_47_method_10_code 12 = .ok (.iload_n 2, 1) := by decide +kernel
theorem own_ds21F_13 : decode prog_47_method_10_code 13 = .ok (.imul, 1) := by decide +kernel
theorem own_ds21F_14 : decode prog_47_method_10_code 14 = .ok (.iconst 1, 1) := by decide +kernel
theorem own_ds21F_15 : decode prog_47_method_10_code 15 = .ok (.iadd, 1) := by decide +kernel
theorem own_ds21F_16 : decode prog_47_method_10_code 16 = .ok (.istore 5, 2) := by decide +kernel
theorem own_ds21F_18 : decode prog_47_method_10_code 18 = .ok (.iload 5, 2) := by decide +kernel
theorem own_ds21F_20 : decode prog_47_method_10_code 20 = .ok (.aload_n 0, 1) := by decide +kernel
theorem own_ds21F_21 : decode prog_47_method_10_code 21 = .ok (.getfield 31, 3) := by decide +kernel
theorem own_ds21F_24 : decode prog_47_method_10_code 24 = .ok (.if_icmp .ge 28, 3) := by decide +kernel
theorem own_ds21F_27 : decode prog_47_method_10_code 27 = .ok (.aload_n 0, 1) := by decide +kernel
theorem own_ds21F_28 : decode prog_47_method_10_code 28 = .ok (.aload_n 0, 1) := by decide +kernel
theorem own_ds21F_29 : decode prog_47_method_10_code 29 = .ok (.getfield 24, 3) := by decide +kernel
theorem own_ds21F_32 : decode prog_47_method_10_code 32 = .ok (.iload 5, 2) := by decide +kernel
theorem own_ds21F_34 : decode prog_47_method_10_code 34 = .ok (.iaload, 1) := by decide +kernel
theorem own_ds21F_35 : decode prog_47_method_10_code 35 = .ok (.aload_n 0, 1) := by decide +kernel
theorem own_ds21F_36 : decode prog_47_method_10_code 36 = .ok (.getfield 24, 3) := by decide +kernel
theorem own_ds21F_39 : decode prog_47_method_10_code 39 = .ok (.iload 4, 2) := by decide +kernel
theorem own_ds21F_41 : decode prog_47_method_10_code 41 = .ok (.iaload, 1) := by decide +kernel
theorem own_ds21F_42 : decode prog_47_method_10_code 42 = .ok (.invokevirtual 48, 3) := by decide +kernel
theorem own_ds21F_45 : decode prog_47_method_10_code 45 = .ok (.ifCond .eq 7, 3) := by decide +kernel
theorem own_ds21F_52 : decode prog_47_method_10_code 52 = .ok (.iload 5, 2) := by decide +kernel
theorem own_ds21F_54 : decode prog_47_method_10_code 54 = .ok (.iconst 1, 1) := by decide +kernel
theorem own_ds21F_55 : decode prog_47_method_10_code 55 = .ok (.iadd, 1) := by decide +kernel
theorem own_ds21F_56 : decode prog_47_method_10_code 56 = .ok (.aload_n 0, 1) := by decide +kernel
theorem own_ds21F_57 : decode prog_47_method_10_code 57 = .ok (.getfield 31, 3) := by decide +kernel
theorem own_ds21F_60 : decode prog_47_method_10_code 60 = .ok (.if_icmp .ge 32, 3) := by decide +kernel
theorem own_ds21F_92 : decode prog_47_method_10_code 92 = .ok (.iload 4, 2) := by decide +kernel
theorem own_ds21F_94 : decode prog_47_method_10_code 94 = .ok (.iload_n 2, 1) := by decide +kernel
theorem own_ds21F_95 : decode prog_47_method_10_code 95 = .ok (.if_icmp .ne 7, 3) := by decide +kernel
theorem own_ds21F_98 : decode prog_47_method_10_code 98 = .ok (.iconst 1, 1) := by decide +kernel
theorem own_ds21F_99 : decode prog_47_method_10_code 99 = .ok (.goto 4, 3) := by decide +kernel
theorem own_ds21F_103 : decode prog_47_method_10_code 103 = .ok (.istore_n 3, 1) := by decide +kernel
theorem own_ds21F_104 : decode prog_47_method_10_code 104 = .ok (.iload_n 3, 1) := by decide +kernel
theorem own_ds21F_105 : decode prog_47_method_10_code 105 = .ok (.ifCond .ne 36, 3) := by decide +kernel
theorem own_ds21F_141 : decode prog_47_method_10_code 141 = .ok (.goto (-137), 3) := by decide +kernel
theorem own_ds21F_144 : decode prog_47_method_10_code 144 = .ok (.return_, 1) := by decide +kernel
theorem own_efs21F (m : MethodId) (x0 : Addr) (x1 : Int32) : entryFrame m #[(.ref x0), (.int x1)] 7 = mkF m 0 #[rv x0, iv x1, u_, u_, u_, u_, u_] [] := by first | (simp [entryFrame, mkF, argsToLocals, Value.category]; done) | rfl
def own_Qs21F (Z : State) (a1 : Addr) (wA bA sA hA : Addr) (kw kb ks kh : ClassId) (reach : Int32) (w0 : Int64) (w1 : Int64) (b0 : Int64) (b1 : Int64) (s0 : Int64) (s1 : Int64) (fg : Int64) (rk : Int32) (bs : Int32) (h0 : Heap) (n0 : Nat) : Option Value → Heap → List Loc → Prop := fun v h L => v = none ∧ Fr n0 L ∧ Keep h0 h [a1, wA, bA, sA, hA] ∧ own_CQ Z h a1 wA bA sA hA kw kb ks kh reach w0 w1 b0 b1 s0 s1 (1 : Int32) (0 : Int32) fg rk bs (2 : Int32)
def own_Rs21F : Room := { frames := 1, cells := 0, slots := 0, locals := 18 }
set_option maxRecDepth 65536 in
set_option maxHeartbeats 40000000 in
theorem own_rms21F (l : Launch) (Z : State) (a0 : Array Value) (hw : ∀ d ∈ tables_1, d.before a0 Z = true) (ws : List Jvm.Cond) (a1 : Addr) (wA bA sA hA : Addr) (kw kb ks kh : ClassId) (reach : Int32) (w0 : Int64) (w1 : Int64) (b0 : Int64) (b1 : Int64) (s0 : Int64) (s1 : Int64) (fg : Int64) (rk : Int32) (bs : Int32) (h0 : Heap) (n0 : Nat) (Z0 : n0 ≤ h0.size) (hCQ : own_CQ Z h0 a1 wA bA sA hA kw kb ks kh reach w0 w1 b0 b1 s0 s1 (1 : Int32) (0 : Int32) fg rk bs (2 : Int32)) (hNE : own_NE a1 wA bA sA hA) (hGE : own_GE n0 a1 wA bA sA hA) (m_w0 : own_Mg 8 w0) (m_w1 : own_Mg 8 w1) (m_b0 : own_Mg 8 b0) (m_b1 : own_Mg 8 b1) (hb0 : (0 : Int64) < b0) (hb1 : (0 : Int64) < b1) (hw0 : ¬ w0 < (0 : Int64)) (hw1 : ¬ w1 < (0 : Int64)) (hld : (own_ld (b0 * w1) (b1 * w0) (0 : Int32) (1 : Int32)) = false) :
    own_Met l Z own_y2 prog_47_method_10_code 7 none ws own_Rs21F h0 #[(.ref a1), (.int 0)] (own_Qs21F Z a1 wA bA sA hA kw kb ks kh reach w0 w1 b0 b1 s0 s1 fg rk bs h0 n0) own_Rs21F.cells own_Rs21F.slots := by
  refine own_start (plainFor_of_name own_pn0) ?_
  intro p e s m below meth c s₁ X0 hx hZ hby hml hret hlk hown hnm e0
  have hown : s.vm.findClass "com/example/allotrope/allotrope/procure/CoverQueue" = some m.cls := hown
  have hml : c.maxLocals = 7 := hml
  have N0 := Fr.nil n0
  refine own_cast (own_efs21F m a1 (0 : Int32)) ?_
  obtain ⟨ne_a1_wA, ne_a1_bA, ne_a1_sA, ne_a1_hA, ne_wA_bA, ne_wA_sA, ne_wA_hA, ne_bA_sA, ne_bA_hA, ne_sA_hA⟩ := id hNE
  obtain ⟨g_a1, g_wA, g_bA, g_sA, g_hA⟩ := id hGE
  obtain ⟨u1_0, u1_1, u1_2, u1_3, u1_4, u1_5, u1_6, u1_7, u1_8, u1_9, u1_10, u1_11, u1_12, u1_13⟩ := id hCQ
  refine own_s s₁ (mkF m 5 #[rv a1, iv 0, iv 0, iv 0, u_, u_, u_] [(.int 0)]) (fun _ k => XS.iloadN X0.here hx rfl (hb hby own_ds21F_0) rfl  (XS.istoreN X0.here hx rfl (hb hby own_ds21F_1) rfl (l' := #[rv a1, iv 0, iv 0, u_, u_, u_, u_]) rfl (XS.iconst X0.here hx rfl (hb hby own_ds21F_2) (XS.istoreN X0.here hx rfl (hb hby own_ds21F_3) rfl (l' := #[rv a1, iv 0, iv 0, iv 0, u_, u_, u_]) rfl (XS.iloadN X0.here hx rfl (hb hby own_ds21F_4) rfl  k))))) ?_
  refine own_s s₁ (mkF m 13 #[rv a1, iv 0, iv 0, iv 0, iv 0, u_, u_] [(.int 0), (.int 2)]) (fun _ k => XS.ifNo X0.here hx rfl (hb hby own_ds21F_5) rfl ((if0 _ _).trans (teq (by decide : ((0 : Int32) = (0 : Int32)))).2) (XS.iloadN X0.here hx rfl (hb hby own_ds21F_8) rfl  (XS.istore X0.here hx rfl (hb hby own_ds21F_9) rfl (l' := #[rv a1, iv 0, iv 0, iv 0, iv 0, u_, u_]) rfl (XS.iconst X0.here hx rfl (hb hby own_ds21F_11) (XS.iloadN X0.here hx rfl (hb hby own_ds21F_12) rfl  k))))) ?_
  refine own_s s₁ (mkF m 20 #[rv a1, iv 0, iv 0, iv 0, iv 0, iv 1, u_] [(.int 1)]) (fun _ k => XS.imul X0.here hx rfl (hb hby own_ds21F_13) rfl (XS.iconst X0.here hx rfl (hb hby own_ds21F_14) (XS.iadd X0.here hx rfl (hb hby own_ds21F_15) rfl (XS.istore X0.here hx rfl (hb hby own_ds21F_16) rfl (l' := #[rv a1, iv 0, iv 0, iv 0, iv 0, iv 1, u_]) rfl (XS.iload X0.here hx rfl (hb hby own_ds21F_18) rfl  k))))) ?_
  refine own_s s₁ (mkF m 21 #[rv a1, iv 0, iv 0, iv 0, iv 0, iv 1, u_] [(.ref a1), (.int 1)]) (fun _ k => XS.aloadN X0.here hx rfl (hb hby own_ds21F_20) rfl rfl k) ?_
  obtain ⟨T2, X2, e2, st2⟩ := getF X0 hx hZ hown (host := "") (Or.inl (own_h hw 38 rfl)) Via.refl e0 u1_9 (g := (mkF m 21 #[rv a1, iv 0, iv 0, iv 0, iv 0, iv 1, u_] [(.ref a1), (.int 1)])) rfl rfl (hb hby own_ds21F_21)
  refine own_s T2 (mkF m 24 #[rv a1, iv 0, iv 0, iv 0, iv 0, iv 1, u_] [(.int 2), (.int 1)]) st2 ?_
  refine own_s T2 (mkF m 29 #[rv a1, iv 0, iv 0, iv 0, iv 0, iv 1, u_] [(.ref a1), (.ref a1)]) (fun _ k => XS.icmpNo X2.here hx rfl (hb hby own_ds21F_24) rfl (tlt (by decide : ((1 : Int32) < (2 : Int32)))).2.1 (XS.aloadN X2.here hx rfl (hb hby own_ds21F_27) rfl rfl (XS.aloadN X2.here hx rfl (hb hby own_ds21F_28) rfl rfl k))) ?_
  obtain ⟨T3, X3, e3, st3⟩ := getF X2 hx hZ hown (host := "") (Or.inl (own_h hw 20 rfl)) Via.refl e2 u1_5 (g := (mkF m 29 #[rv a1, iv 0, iv 0, iv 0, iv 0, iv 1, u_] [(.ref a1), (.ref a1)])) rfl rfl (hb hby own_ds21F_29)
  refine own_s T3 (mkF m 32 #[rv a1, iv 0, iv 0, iv 0, iv 0, iv 1, u_] [(.ref hA), (.ref a1)]) st3 ?_
  refine own_s T3 (mkF m 34 #[rv a1, iv 0, iv 0, iv 0, iv 0, iv 1, u_] [(.int 1), (.ref hA), (.ref a1)]) (fun _ k => XS.iload X3.here hx rfl (hb hby own_ds21F_32) rfl  k) ?_
  obtain ⟨cl4, Ar4, q4, S4, Nn4, H4, G4⟩ := id u1_13
  have hin4 : ¬ ((1 : Int32) < 0 ∨ cl4.slots.size ≤ ((1 : Int32)).toNatClampNeg) := (inb_of S4 ⟨by decide, by decide⟩)
  refine own_s T3 (mkF m 36 #[rv a1, iv 0, iv 0, iv 0, iv 0, iv 1, u_] [(.ref a1), (.int 0), (.ref a1)]) (fun _ k => X3.iaload hx (j := (1 : Int32)) (v := (.int 0)) (own_at e3 Ar4.1) (State.isArrayOf_alike hZ.alike Ar4.2.1) Ar4.2.2 hin4 (Has.at H4 hin4 rfl) (g := (mkF m 34 #[rv a1, iv 0, iv 0, iv 0, iv 0, iv 1, u_] [(.int 1), (.ref hA), (.ref a1)])) rfl rfl (hb hby own_ds21F_34) _ (XS.aloadN X3.here hx rfl (hb hby own_ds21F_35) rfl rfl k)) ?_
  obtain ⟨T5, X5, e5, st5⟩ := getF X3 hx hZ hown (host := "") (Or.inl (own_h hw 20 rfl)) Via.refl e3 u1_5 (g := (mkF m 36 #[rv a1, iv 0, iv 0, iv 0, iv 0, iv 1, u_] [(.ref a1), (.int 0), (.ref a1)])) rfl rfl (hb hby own_ds21F_36)
  refine own_s T5 (mkF m 39 #[rv a1, iv 0, iv 0, iv 0, iv 0, iv 1, u_] [(.ref hA), (.int 0), (.ref a1)]) st5 ?_
  refine own_s T5 (mkF m 41 #[rv a1, iv 0, iv 0, iv 0, iv 0, iv 1, u_] [(.int 0), (.ref hA), (.int 0), (.ref a1)]) (fun _ k => XS.iload X5.here hx rfl (hb hby own_ds21F_39) rfl  k) ?_
  obtain ⟨cl6, Ar6, q6, S6, Nn6, H6, G6⟩ := id u1_13
  have hin6 : ¬ ((0 : Int32) < 0 ∨ cl6.slots.size ≤ ((0 : Int32)).toNatClampNeg) := (inb_of S6 ⟨by decide, by decide⟩)
  refine own_s T5 (mkF m 42 #[rv a1, iv 0, iv 0, iv 0, iv 0, iv 1, u_] [(.int 1), (.int 0), (.ref a1)]) (fun _ k => X5.iaload hx (j := (0 : Int32)) (v := (.int 1)) (own_at e5 Ar6.1) (State.isArrayOf_alike hZ.alike Ar6.2.1) Ar6.2.2 hin6 (Has.at H6 hin6 rfl) (g := (mkF m 41 #[rv a1, iv 0, iv 0, iv 0, iv 0, iv 1, u_] [(.int 0), (.ref hA), (.int 0), (.ref a1)])) rfl rfl (hb hby own_ds21F_41) _ k) ?_
  obtain ⟨v7, T7, L7, X7, hQ7, st7⟩ := own_callP X5 hx hZ (y := own_y0) (W := 0) (a := a1) hown (own_h hw 68 rfl) (own_h hw 69 rfl) (own_h hw 1 rfl) (own_h hw 70 rfl) (own_h hw 2 rfl) (own_h hw 71 rfl) (by decide) (own_rmld01 l Z a0 hw [] a1 wA bA sA hA kw kb ks kh reach w0 w1 b0 b1 s0 s1 (1 : Int32) (0 : Int32) fg rk bs (2 : Int32) h0 n0 Z0 ⟨u1_0, u1_1, u1_2, u1_3, u1_4, u1_5, u1_6, u1_7, u1_8, u1_9, u1_10, u1_11, u1_12, u1_13⟩ m_w0 m_w1 m_b0 m_b1 hb0 hb1 hw0 hw1) (by decide) (by decide) u1_0 (g := (mkF m 42 #[rv a1, iv 0, iv 0, iv 0, iv 0, iv 1, u_] [(.int 1), (.int 0), (.ref a1)])) rfl (by rw [hml]; rfl) (argsL := [(.int 0), (.int 1)]) (rest := []) rfl (lenOf own_pd0 rfl) rfl (by show 2 * 0 + _ ≤ _; exact Nat.le_of_eq rfl) (hb hby own_ds21F_42) e5 (by decide) (by decide)
  obtain ⟨rfl, Nq7, e7⟩ := hQ7
  have N7 := Fr.app N0 Nq7
  refine own_s T7 (mkF m 45 #[rv a1, iv 0, iv 0, iv 0, iv 0, iv 1, u_] [(.int (own_b (own_ld (b0 * w1) (b1 * w0) (0 : Int32) (1 : Int32))))]) st7 ?_
  refine own_s T7 (mkF m 57 #[rv a1, iv 0, iv 0, iv 0, iv 0, iv 1, u_] [(.ref a1), (.int 2)]) (fun _ k => XS.ifYes X7.here hx rfl (pc0 := 45) (pc' := 52) rfl (hb hby own_ds21F_45) rfl ((if0 _ _).trans (teq (own_b0 hld)).1) (by decide) (by decide) (XS.iload X7.here hx rfl (hb hby own_ds21F_52) rfl  (XS.iconst X7.here hx rfl (hb hby own_ds21F_54) (XS.iadd X7.here hx rfl (hb hby own_ds21F_55) rfl (XS.aloadN X7.here hx rfl (hb hby own_ds21F_56) rfl rfl k))))) ?_
  obtain ⟨T8, X8, e8, st8⟩ := getF X7 hx hZ hown (host := "") (Or.inl (own_h hw 38 rfl)) Via.refl e7 u1_9 (g := (mkF m 57 #[rv a1, iv 0, iv 0, iv 0, iv 0, iv 1, u_] [(.ref a1), (.int 2)])) rfl rfl (hb hby own_ds21F_57)
  refine own_s T8 (mkF m 60 #[rv a1, iv 0, iv 0, iv 0, iv 0, iv 1, u_] [(.int 2), (.int 2)]) st8 ?_
  refine own_s T8 (mkF m 99 #[rv a1, iv 0, iv 0, iv 0, iv 0, iv 1, u_] [(.int 1)]) (fun _ k => XS.icmpYes X8.here hx rfl (pc0 := 60) (pc' := 92) rfl (hb hby own_ds21F_60) rfl (flt (by decide : ¬ ((2 : Int32) < (2 : Int32)))).2.1 (by decide) (by decide) (XS.iload X8.here hx rfl (hb hby own_ds21F_92) rfl  (XS.iloadN X8.here hx rfl (hb hby own_ds21F_94) rfl  (XS.icmpNo X8.here hx rfl (hb hby own_ds21F_95) rfl (teq (by decide : ((0 : Int32) = (0 : Int32)))).2 (XS.iconst X8.here hx rfl (hb hby own_ds21F_98) k))))) ?_
  refine own_s T8 (mkF m 4 #[rv a1, iv 0, iv 0, iv 1, iv 0, iv 1, u_] []) (fun _ k => XS.goto X8.here hx rfl (pc0 := 99) (pc' := 103) rfl (hb hby own_ds21F_99) (by decide) (by decide) (XS.istoreN X8.here hx rfl (hb hby own_ds21F_103) rfl (l' := #[rv a1, iv 0, iv 0, iv 1, iv 0, iv 1, u_]) rfl (XS.iloadN X8.here hx rfl (hb hby own_ds21F_104) rfl  (XS.ifYes X8.here hx rfl (pc0 := 105) (pc' := 141) rfl (hb hby own_ds21F_105) rfl ((if0 _ _).trans (feq (by decide : ¬ ((1 : Int32) = (0 : Int32)))).2) (by decide) (by decide) (XS.goto X8.here hx rfl (pc0 := 141) (pc' := 4) rfl (hb hby own_ds21F_141) (by decide) (by decide) k))))) ?_
  refine own_s T8 (mkF m 144 #[rv a1, iv 0, iv 0, iv 1, iv 0, iv 1, u_] []) (fun _ k => XS.iloadN X8.here hx rfl (hb hby own_ds21F_4) rfl  (XS.ifYes X8.here hx rfl (pc0 := 5) (pc' := 144) rfl (hb hby own_ds21F_5) rfl ((if0 _ _).trans (feq (by decide : ¬ ((1 : Int32) = (0 : Int32)))).2) (by decide) (by decide) k)) ?_
  exact own_finV X8 hx hret (hb hby own_ds21F_144) (own_end (Qv := (own_Qs21F Z a1 wA bA sA hA kw kb ks kh reach w0 w1 b0 b1 s0 s1 fg rk bs h0 n0)) X8 (fun _ => rfl) hlk (by decide) (by decide) e8 ⟨rfl, N7, (Keep.refl h0 [a1, wA, bA, sA, hA]), ⟨u1_0, u1_1, u1_2, u1_3, u1_4, u1_5, u1_6, u1_7, u1_8, u1_9, u1_10, u1_11, u1_12, u1_13⟩⟩)
abbrev own_y3 : MethodName := ⟨"com/example/allotrope/allotrope/procure/CoverQueue", "forget", "()V"⟩
theorem own_dfo_0 : decode prog_47_method_8_code 0 = .ok (.aload_n 0, 1) := by decide +kernel
theorem own_dfo_1 : decode prog_47_method_8_code 1 = .ok (.dup, 1) := by decide +kernel
theorem own_dfo_2 : decode prog_47_method_8_code 2 = .ok (.getfield 34, 3) := by decide +kernel
theorem own_dfo_5 : decode prog_47_method_8_code 5 = .ok (.lconst 1, 1) := by decide +kernel
theorem own_dfo_6 : decode prog_47_method_8_code 6 = .ok (.ladd, 1) := by decide +kernel
theorem own_dfo_7 : decode prog_47_method_8_code 7 = .ok (.putfield 34, 3) := by decide +kernel
theorem own_dfo_10 : decode prog_47_method_8_code 10 = .ok (.aload_n 0, 1) := by decide +kernel
theorem own_dfo_11 : decode prog_47_method_8_code 11 = .ok (.iconst 0, 1) := by decide +kernel
theorem own_dfo_12 : decode prog_47_method_8_code 12 = .ok (.putfield 42, 3) := by decide +kernel
theorem own_dfo_15 : decode prog_47_method_8_code 15 = .ok (.aload_n 0, 1) := by decide +kernel
theorem own_dfo_16 : decode prog_47_method_8_code 16 = .ok (.iconst (-1), 1) := by decide +kernel
theorem own_dfo_17 : decode prog_47_method_8_code 17 = .ok (.putfield 45, 3) := by decide +kernel
theorem own_dfo_20 : decode prog_47_method_8_code 20 = .ok (.return_, 1) := by decide +kernel
theorem own_effo (m : MethodId) (x0 : Addr) : entryFrame m #[(.ref x0)] 1 = mkF m 0 #[rv x0] [] := by first | (simp [entryFrame, mkF, argsToLocals, Value.category]; done) | rfl
def own_Qfo (Z : State) (a1 : Addr) (wA bA sA hA : Addr) (kw kb ks kh : ClassId) (reach : Int32) (w0 : Int64) (w1 : Int64) (b0 : Int64) (b1 : Int64) (s0 : Int64) (s1 : Int64) (t0 : Int32) (t1 : Int32) (fg : Int64) (rk : Int32) (bs : Int32) (sz : Int32) (h0 : Heap) (n0 : Nat) : Option Value → Heap → List Loc → Prop := fun v h L => v = none ∧ Fr n0 L ∧ Keep h0 h [a1, wA, bA, sA, hA] ∧ own_CQ Z h a1 wA bA sA hA kw kb ks kh reach w0 w1 b0 b1 s0 s1 t0 t1 (fg + (1 : Int64)) (0 : Int32) (-1 : Int32) sz
def own_Rfo : Room := { frames := 0, cells := 0, slots := 0, locals := 0 }
set_option maxRecDepth 65536 in
set_option maxHeartbeats 40000000 in
theorem own_rmfo (l : Launch) (Z : State) (a0 : Array Value) (hw : ∀ d ∈ tables_1, d.before a0 Z = true) (ws : List Jvm.Cond) (a1 : Addr) (wA bA sA hA : Addr) (kw kb ks kh : ClassId) (reach : Int32) (w0 : Int64) (w1 : Int64) (b0 : Int64) (b1 : Int64) (s0 : Int64) (s1 : Int64) (t0 : Int32) (t1 : Int32) (fg : Int64) (rk : Int32) (bs : Int32) (sz : Int32) (h0 : Heap) (n0 : Nat) (Z0 : n0 ≤ h0.size) (hCQ : own_CQ Z h0 a1 wA bA sA hA kw kb ks kh reach w0 w1 b0 b1 s0 s1 t0 t1 fg rk bs sz) (hNE : own_NE a1 wA bA sA hA) (hGE : own_GE n0 a1 wA bA sA hA) (m_w0 : own_Mg 8 w0) (m_w1 : own_Mg 8 w1) (m_b0 : own_Mg 8 b0) (m_b1 : own_Mg 8 b1) :
    own_Met l Z own_y3 prog_47_method_8_code 1 none ws own_Rfo h0 #[(.ref a1)] (own_Qfo Z a1 wA bA sA hA kw kb ks kh reach w0 w1 b0 b1 s0 s1 t0 t1 fg rk bs sz h0 n0) own_Rfo.cells own_Rfo.slots := by
  refine own_start (plainFor_of_name own_pn0) ?_
  intro p e s m below meth c s₁ X0 hx hZ hby hml hret hlk hown hnm e0
  have hown : s.vm.findClass "com/example/allotrope/allotrope/procure/CoverQueue" = some m.cls := hown
  have hml : c.maxLocals = 1 := hml
  have N0 := Fr.nil n0
  refine own_cast (own_effo m a1) ?_
  obtain ⟨ne_a1_wA, ne_a1_bA, ne_a1_sA, ne_a1_hA, ne_wA_bA, ne_wA_sA, ne_wA_hA, ne_bA_sA, ne_bA_hA, ne_sA_hA⟩ := id hNE
  obtain ⟨g_a1, g_wA, g_bA, g_sA, g_hA⟩ := id hGE
  obtain ⟨u1_0, u1_1, u1_2, u1_3, u1_4, u1_5, u1_6, u1_7, u1_8, u1_9, u1_10, u1_11, u1_12, u1_13⟩ := id hCQ
  refine own_s s₁ (mkF m 2 #[rv a1] [(.ref a1), (.ref a1)]) (fun _ k => XS.aloadN X0.here hx rfl (hb hby own_dfo_0) rfl rfl (XS.dup X0.here hx rfl (hb hby own_dfo_1) rfl rfl k)) ?_
  obtain ⟨T2, X2, e2, st2⟩ := getF X0 hx hZ hown (host := "") (Or.inl (own_h hw 32 rfl)) Via.refl e0 u1_6 (g := (mkF m 2 #[rv a1] [(.ref a1), (.ref a1)])) rfl rfl (hb hby own_dfo_2)
  refine own_s T2 (mkF m 5 #[rv a1] [(.long fg), (.ref a1)]) st2 ?_
  refine own_s T2 (mkF m 7 #[rv a1] [(.long (fg + (1 : Int64))), (.ref a1)]) (fun _ k => XS.lconst X2.here hx rfl (hb hby own_dfo_5) (XS.ladd X2.here hx rfl (hb hby own_dfo_6) rfl k)) ?_
  obtain ⟨T3, h3, X3, e3, W3, st3⟩ := putF X2 hx hZ hown (host := "") (Or.inl (own_h hw 32 rfl)) Via.refl e2 u1_6 u1_0 (Or.inl (own_h hw 33 rfl)) (own_h hw 1 rfl) (ty := .long) (by decide) rfl rfl (g := (mkF m 7 #[rv a1] [(.long (fg + (1 : Int64))), (.ref a1)])) rfl rfl (hb hby own_dfo_7)
  have Fw3 := Fld.same W3 u1_6
  have f4 := Exa.wr W3 u1_0
  have f5 := Fld.other W3 u1_1 (Or.inr (slot_ne (Or.inr (own_h hw 10 rfl)) (Or.inl (own_h hw 33 rfl)) (by decide) (t := .int) (t' := .long) (by decide) (by decide)))
  have f6 := Fld.other W3 u1_2 (Or.inr (slot_ne (Or.inr (own_h hw 13 rfl)) (Or.inl (own_h hw 33 rfl)) (by decide) (t := (.array .double)) (t' := .long) (by decide) (by decide)))
  have f7 := Fld.other W3 u1_3 (Or.inr (slot_ne (Or.inr (own_h hw 15 rfl)) (Or.inl (own_h hw 33 rfl)) (by decide) (t := (.array .double)) (t' := .long) (by decide) (by decide)))
  have f8 := Fld.other W3 u1_4 (Or.inr (slot_ne (Or.inr (own_h hw 18 rfl)) (Or.inl (own_h hw 33 rfl)) (by decide) (t := (.array .long)) (t' := .long) (by decide) (by decide)))
  have f9 := Fld.other W3 u1_5 (Or.inr (slot_ne (Or.inr (own_h hw 21 rfl)) (Or.inl (own_h hw 33 rfl)) (by decide) (t := (.array .int)) (t' := .long) (by decide) (by decide)))
  have f10 := Fld.other W3 u1_7 (Or.inr (slot_ne (Or.inl (own_h hw 35 rfl)) (Or.inl (own_h hw 33 rfl)) (by decide) (t := .int) (t' := .long) (by decide) (by decide)))
  have f11 := Fld.other W3 u1_8 (Or.inr (slot_ne (Or.inl (own_h hw 37 rfl)) (Or.inl (own_h hw 33 rfl)) (by decide) (t := .int) (t' := .long) (by decide) (by decide)))
  have f12 := Fld.other W3 u1_9 (Or.inr (slot_ne (Or.inl (own_h hw 39 rfl)) (Or.inl (own_h hw 33 rfl)) (by decide) (t := .int) (t' := .long) (by decide) (by decide)))
  have f13 := u1_10.other W3 (Ne.symm ne_a1_wA)
  have f14 := u1_11.other W3 (Ne.symm ne_a1_bA)
  have f15 := u1_12.other W3 (Ne.symm ne_a1_sA)
  have f16 := u1_13.other W3 (Ne.symm ne_a1_hA)
  have K3 : Keep h0 h3 [a1, wA, bA, sA, hA] := (Keep.refl h0 [a1, wA, bA, sA, hA]).wr W3 (Or.inl (List.mem_of_getElem? (i := 0) rfl))
  have Z3 := Nat.le_trans Z0 (Nat.le_of_eq W3.size.symm)
  have N3 := Fr.snoc X3 N0 g_a1
  refine own_s T3 (mkF m 10 #[rv a1] []) st3 ?_
  refine own_s T3 (mkF m 12 #[rv a1] [(.int 0), (.ref a1)]) (fun _ k => XS.aloadN X3.here hx rfl (hb hby own_dfo_10) rfl rfl (XS.iconst X3.here hx rfl (hb hby own_dfo_11) k)) ?_
  obtain ⟨T17, h17, X17, e17, W17, st17⟩ := putF X3 hx hZ hown (host := "") (Or.inl (own_h hw 34 rfl)) Via.refl e3 f10 f4 (Or.inl (own_h hw 35 rfl)) (own_h hw 1 rfl) (ty := .int) (by decide) rfl rfl (g := (mkF m 12 #[rv a1] [(.int 0), (.ref a1)])) rfl rfl (hb hby own_dfo_12)
  have Fw17 := Fld.same W17 f10
  have f18 := Exa.wr W17 f4
  have f19 := Fld.other W17 f5 (Or.inr (slot_ne (Or.inr (own_h hw 10 rfl)) (Or.inl (own_h hw 35 rfl)) (by decide) (t := .int) (t' := .int) (by decide) (by decide)))
  have f20 := Fld.other W17 f6 (Or.inr (slot_ne (Or.inr (own_h hw 13 rfl)) (Or.inl (own_h hw 35 rfl)) (by decide) (t := (.array .double)) (t' := .int) (by decide) (by decide)))
  have f21 := Fld.other W17 f7 (Or.inr (slot_ne (Or.inr (own_h hw 15 rfl)) (Or.inl (own_h hw 35 rfl)) (by decide) (t := (.array .double)) (t' := .int) (by decide) (by decide)))
  have f22 := Fld.other W17 f8 (Or.inr (slot_ne (Or.inr (own_h hw 18 rfl)) (Or.inl (own_h hw 35 rfl)) (by decide) (t := (.array .long)) (t' := .int) (by decide) (by decide)))
  have f23 := Fld.other W17 f9 (Or.inr (slot_ne (Or.inr (own_h hw 21 rfl)) (Or.inl (own_h hw 35 rfl)) (by decide) (t := (.array .int)) (t' := .int) (by decide) (by decide)))
  have f24 := Fld.other W17 Fw3 (Or.inr (slot_ne (Or.inl (own_h hw 33 rfl)) (Or.inl (own_h hw 35 rfl)) (by decide) (t := .long) (t' := .int) (by decide) (by decide)))
  have f25 := Fld.other W17 f11 (Or.inr (slot_ne (Or.inl (own_h hw 37 rfl)) (Or.inl (own_h hw 35 rfl)) (by decide) (t := .int) (t' := .int) (by decide) (by decide)))
  have f26 := Fld.other W17 f12 (Or.inr (slot_ne (Or.inl (own_h hw 39 rfl)) (Or.inl (own_h hw 35 rfl)) (by decide) (t := .int) (t' := .int) (by decide) (by decide)))
  have f27 := f13.other W17 (Ne.symm ne_a1_wA)
  have f28 := f14.other W17 (Ne.symm ne_a1_bA)
  have f29 := f15.other W17 (Ne.symm ne_a1_sA)
  have f30 := f16.other W17 (Ne.symm ne_a1_hA)
  have K17 : Keep h0 h17 [a1, wA, bA, sA, hA] := K3.wr W17 (Or.inl (List.mem_of_getElem? (i := 0) rfl))
  have Z17 := Nat.le_trans Z3 (Nat.le_of_eq W17.size.symm)
  have N17 := Fr.snoc X17 N3 g_a1
  refine own_s T17 (mkF m 15 #[rv a1] []) st17 ?_
  refine own_s T17 (mkF m 17 #[rv a1] [(.int (-1)), (.ref a1)]) (fun _ k => XS.aloadN X17.here hx rfl (hb hby own_dfo_15) rfl rfl (XS.iconst X17.here hx rfl (hb hby own_dfo_16) k)) ?_
  obtain ⟨T31, h31, X31, e31, W31, st31⟩ := putF X17 hx hZ hown (host := "") (Or.inl (own_h hw 36 rfl)) Via.refl e17 f25 f18 (Or.inl (own_h hw 37 rfl)) (own_h hw 1 rfl) (ty := .int) (by decide) rfl rfl (g := (mkF m 17 #[rv a1] [(.int (-1)), (.ref a1)])) rfl rfl (hb hby own_dfo_17)
  have Fw31 := Fld.same W31 f25
  have f32 := Exa.wr W31 f18
  have f33 := Fld.other W31 f19 (Or.inr (slot_ne (Or.inr (own_h hw 10 rfl)) (Or.inl (own_h hw 37 rfl)) (by decide) (t := .int) (t' := .int) (by decide) (by decide)))
  have f34 := Fld.other W31 f20 (Or.inr (slot_ne (Or.inr (own_h hw 13 rfl)) (Or.inl (own_h hw 37 rfl)) (by decide) (t := (.array .double)) (t' := .int) (by decide) (by decide)))
  have f35 := Fld.other W31 f21 (Or.inr (slot_ne (Or.inr (own_h hw 15 rfl)) (Or.inl (own_h hw 37 rfl)) (by decide) (t := (.array .double)) (t' := .int) (by decide) (by decide)))
  have f36 := Fld.other W31 f22 (Or.inr (slot_ne (Or.inr (own_h hw 18 rfl)) (Or.inl (own_h hw 37 rfl)) (by decide) (t := (.array .long)) (t' := .int) (by decide) (by decide)))
  have f37 := Fld.other W31 f23 (Or.inr (slot_ne (Or.inr (own_h hw 21 rfl)) (Or.inl (own_h hw 37 rfl)) (by decide) (t := (.array .int)) (t' := .int) (by decide) (by decide)))
  have f38 := Fld.other W31 f24 (Or.inr (slot_ne (Or.inl (own_h hw 33 rfl)) (Or.inl (own_h hw 37 rfl)) (by decide) (t := .long) (t' := .int) (by decide) (by decide)))
  have f39 := Fld.other W31 Fw17 (Or.inr (slot_ne (Or.inl (own_h hw 35 rfl)) (Or.inl (own_h hw 37 rfl)) (by decide) (t := .int) (t' := .int) (by decide) (by decide)))
  have f40 := Fld.other W31 f26 (Or.inr (slot_ne (Or.inl (own_h hw 39 rfl)) (Or.inl (own_h hw 37 rfl)) (by decide) (t := .int) (t' := .int) (by decide) (by decide)))
  have f41 := f27.other W31 (Ne.symm ne_a1_wA)
  have f42 := f28.other W31 (Ne.symm ne_a1_bA)
  have f43 := f29.other W31 (Ne.symm ne_a1_sA)
  have f44 := f30.other W31 (Ne.symm ne_a1_hA)
  have K31 : Keep h0 h31 [a1, wA, bA, sA, hA] := K17.wr W31 (Or.inl (List.mem_of_getElem? (i := 0) rfl))
  have Z31 := Nat.le_trans Z17 (Nat.le_of_eq W31.size.symm)
  have N31 := Fr.snoc X31 N17 g_a1
  refine own_s T31 (mkF m 20 #[rv a1] []) st31 ?_
  exact own_finV X31 hx hret (hb hby own_dfo_20) (own_end (Qv := (own_Qfo Z a1 wA bA sA hA kw kb ks kh reach w0 w1 b0 b1 s0 s1 t0 t1 fg rk bs sz h0 n0)) X31 (fun _ => rfl) hlk (by decide) (by decide) e31 ⟨rfl, N31, K31, ⟨f32, f33, f34, f35, f36, f37, f38, f39, Fw31, f40, f41, f42, f43, f44⟩⟩)
theorem own_pd1 : parseMethodDescriptor "()V" = some ⟨[], none⟩ := by decide +kernel
abbrev own_y4 : MethodName := ⟨"com/example/allotrope/allotrope/procure/CoverQueue", "start", "()V"⟩
theorem own_dsta_0 : decode prog_47_method_2_code 0 = .ok (.aload_n 0, 1) := by decide +kernel
theorem own_dsta_1 : decode prog_47_method_2_code 1 = .ok (.invokevirtual 28, 3) := by decide +kernel
theorem own_dsta_4 : decode prog_47_method_2_code 4 = .ok (.aload_n 0, 1) := by decide +kernel
theorem own_dsta_5 : decode prog_47_method_2_code 5 = .ok (.iconst 0, 1) := by decide +kernel
theorem own_dsta_6 : decode prog_47_method_2_code 6 = .ok (.putfield 31, 3) := by decide +kernel
theorem own_dsta_9 : decode prog_47_method_2_code 9 = .ok (.return_, 1) := by decide +kernel
theorem own_efsta (m : MethodId) (x0 : Addr) : entryFrame m #[(.ref x0)] 1 = mkF m 0 #[rv x0] [] := by first | (simp [entryFrame, mkF, argsToLocals, Value.category]; done) | rfl
def own_Qsta (Z : State) (a1 : Addr) (wA bA sA hA : Addr) (kw kb ks kh : ClassId) (reach : Int32) (w0 : Int64) (w1 : Int64) (b0 : Int64) (b1 : Int64) (s0 : Int64) (s1 : Int64) (t0 : Int32) (t1 : Int32) (fg : Int64) (rk : Int32) (bs : Int32) (sz : Int32) (h0 : Heap) (n0 : Nat) : Option Value → Heap → List Loc → Prop := fun v h L => v = none ∧ Fr n0 L ∧ Keep h0 h [a1, wA, bA, sA, hA] ∧ own_CQ Z h a1 wA bA sA hA kw kb ks kh reach w0 w1 b0 b1 s0 s1 t0 t1 (fg + (1 : Int64)) (0 : Int32) (-1 : Int32) (0 : Int32)
def own_Rsta : Room := { frames := 1, cells := 0, slots := 0, locals := 12 }
set_option maxRecDepth 65536 in
set_option maxHeartbeats 40000000 in
theorem own_rmsta (l : Launch) (Z : State) (a0 : Array Value) (hw : ∀ d ∈ tables_1, d.before a0 Z = true) (ws : List Jvm.Cond) (a1 : Addr) (wA bA sA hA : Addr) (kw kb ks kh : ClassId) (reach : Int32) (w0 : Int64) (w1 : Int64) (b0 : Int64) (b1 : Int64) (s0 : Int64) (s1 : Int64) (t0 : Int32) (t1 : Int32) (fg : Int64) (rk : Int32) (bs : Int32) (sz : Int32) (h0 : Heap) (n0 : Nat) (Z0 : n0 ≤ h0.size) (hCQ : own_CQ Z h0 a1 wA bA sA hA kw kb ks kh reach w0 w1 b0 b1 s0 s1 t0 t1 fg rk bs sz) (hNE : own_NE a1 wA bA sA hA) (hGE : own_GE n0 a1 wA bA sA hA) (m_w0 : own_Mg 8 w0) (m_w1 : own_Mg 8 w1) (m_b0 : own_Mg 8 b0) (m_b1 : own_Mg 8 b1) :
    own_Met l Z own_y4 prog_47_method_2_code 1 none ws own_Rsta h0 #[(.ref a1)] (own_Qsta Z a1 wA bA sA hA kw kb ks kh reach w0 w1 b0 b1 s0 s1 t0 t1 fg rk bs sz h0 n0) own_Rsta.cells own_Rsta.slots := by
  refine own_start (plainFor_of_name own_pn0) ?_
  intro p e s m below meth c s₁ X0 hx hZ hby hml hret hlk hown hnm e0
  have hown : s.vm.findClass "com/example/allotrope/allotrope/procure/CoverQueue" = some m.cls := hown
  have hml : c.maxLocals = 1 := hml
  have N0 := Fr.nil n0
  refine own_cast (own_efsta m a1) ?_
  obtain ⟨ne_a1_wA, ne_a1_bA, ne_a1_sA, ne_a1_hA, ne_wA_bA, ne_wA_sA, ne_wA_hA, ne_bA_sA, ne_bA_hA, ne_sA_hA⟩ := id hNE
  obtain ⟨g_a1, g_wA, g_bA, g_sA, g_hA⟩ := id hGE
  obtain ⟨u1_0, u1_1, u1_2, u1_3, u1_4, u1_5, u1_6, u1_7, u1_8, u1_9, u1_10, u1_11, u1_12, u1_13⟩ := id hCQ
  refine own_s s₁ (mkF m 1 #[rv a1] [(.ref a1)]) (fun _ k => XS.aloadN X0.here hx rfl (hb hby own_dsta_0) rfl rfl k) ?_
  obtain ⟨v2, T2, L2, X2, hQ2, st2⟩ := own_callV X0 hx hZ (y := own_y3) (z := own_y3) (W := 0) (a := a1) hown (own_h hw 27 rfl) (own_h hw 28 rfl) (notFace_of_selects (args := #[]) (mvT hZ (own_h hw 30 rfl))) (own_h hw 30 rfl) (own_h hw 29 rfl) (own_h hw 2 rfl) (own_h hw 31 rfl) (by decide) (own_rmfo l Z a0 hw [] a1 wA bA sA hA kw kb ks kh reach w0 w1 b0 b1 s0 s1 t0 t1 fg rk bs sz h0 n0 Z0 ⟨u1_0, u1_1, u1_2, u1_3, u1_4, u1_5, u1_6, u1_7, u1_8, u1_9, u1_10, u1_11, u1_12, u1_13⟩ hNE hGE m_w0 m_w1 m_b0 m_b1) (by decide) (by decide) u1_0 (g := (mkF m 1 #[rv a1] [(.ref a1)])) rfl (by rw [hml]; rfl) (argsL := []) (rest := []) rfl (lenOf own_pd1 rfl) rfl (by show 2 * 0 + _ ≤ _; exact Nat.le_of_eq rfl) (hb hby own_dsta_1) e0 (by decide) (by decide)
  obtain ⟨rfl, Nq2, Kq2, hq2⟩ := hQ2
  have N2 := Fr.app N0 Nq2
  have K2 : Keep h0 T2.heap [a1, wA, bA, sA, hA] := (Keep.refl h0 [a1, wA, bA, sA, hA]).trans Kq2 (allS (Or.inl (List.mem_of_getElem? (i := 0) rfl)) (allS (Or.inl (List.mem_of_getElem? (i := 1) rfl)) (allS (Or.inl (List.mem_of_getElem? (i := 2) rfl)) (allS (Or.inl (List.mem_of_getElem? (i := 3) rfl)) (allS (Or.inl (List.mem_of_getElem? (i := 4) rfl)) all0)))))
  have Z2 := Nat.le_trans Z0 Kq2.1
  obtain ⟨u3_0, u3_1, u3_2, u3_3, u3_4, u3_5, u3_6, u3_7, u3_8, u3_9, u3_10, u3_11, u3_12, u3_13⟩ := id hq2
  refine own_s T2 (mkF m 4 #[rv a1] []) st2 ?_
  refine own_s T2 (mkF m 6 #[rv a1] [(.int 0), (.ref a1)]) (fun _ k => XS.aloadN X2.here hx rfl (hb hby own_dsta_4) rfl rfl (XS.iconst X2.here hx rfl (hb hby own_dsta_5) k)) ?_
  obtain ⟨T4, h4, X4, e4, W4, st4⟩ := putF X2 hx hZ hown (host := "") (Or.inl (own_h hw 38 rfl)) Via.refl rfl u3_9 u3_0 (Or.inl (own_h hw 39 rfl)) (own_h hw 1 rfl) (ty := .int) (by decide) rfl rfl (g := (mkF m 6 #[rv a1] [(.int 0), (.ref a1)])) rfl rfl (hb hby own_dsta_6)
  have Fw4 := Fld.same W4 u3_9
  have f5 := Exa.wr W4 u3_0
  have f6 := Fld.other W4 u3_1 (Or.inr (slot_ne (Or.inr (own_h hw 10 rfl)) (Or.inl (own_h hw 39 rfl)) (by decide) (t := .int) (t' := .int) (by decide) (by decide)))
  have f7 := Fld.other W4 u3_2 (Or.inr (slot_ne (Or.inr (own_h hw 13 rfl)) (Or.inl (own_h hw 39 rfl)) (by decide) (t := (.array .double)) (t' := .int) (by decide) (by decide)))
  have f8 := Fld.other W4 u3_3 (Or.inr (slot_ne (Or.inr (own_h hw 15 rfl)) (Or.inl (own_h hw 39 rfl)) (by decide) (t := (.array .double)) (t' := .int) (by decide) (by decide)))
  have f9 := Fld.other W4 u3_4 (Or.inr (slot_ne (Or.inr (own_h hw 18 rfl)) (Or.inl (own_h hw 39 rfl)) (by decide) (t := (.array .long)) (t' := .int) (by decide) (by decide)))
  have f10 := Fld.other W4 u3_5 (Or.inr (slot_ne (Or.inr (own_h hw 21 rfl)) (Or.inl (own_h hw 39 rfl)) (by decide) (t := (.array .int)) (t' := .int) (by decide) (by decide)))
  have f11 := Fld.other W4 u3_6 (Or.inr (slot_ne (Or.inl (own_h hw 33 rfl)) (Or.inl (own_h hw 39 rfl)) (by decide) (t := .long) (t' := .int) (by decide) (by decide)))
  have f12 := Fld.other W4 u3_7 (Or.inr (slot_ne (Or.inl (own_h hw 35 rfl)) (Or.inl (own_h hw 39 rfl)) (by decide) (t := .int) (t' := .int) (by decide) (by decide)))
  have f13 := Fld.other W4 u3_8 (Or.inr (slot_ne (Or.inl (own_h hw 37 rfl)) (Or.inl (own_h hw 39 rfl)) (by decide) (t := .int) (t' := .int) (by decide) (by decide)))
  have f14 := u3_10.other W4 (Ne.symm ne_a1_wA)
  have f15 := u3_11.other W4 (Ne.symm ne_a1_bA)
  have f16 := u3_12.other W4 (Ne.symm ne_a1_sA)
  have f17 := u3_13.other W4 (Ne.symm ne_a1_hA)
  have K4 : Keep h0 h4 [a1, wA, bA, sA, hA] := K2.wr W4 (Or.inl (List.mem_of_getElem? (i := 0) rfl))
  have Z4 := Nat.le_trans Z2 (Nat.le_of_eq W4.size.symm)
  have N4 := Fr.snoc X4 N2 g_a1
  refine own_s T4 (mkF m 9 #[rv a1] []) st4 ?_
  exact own_finV X4 hx hret (hb hby own_dsta_9) (own_end (Qv := (own_Qsta Z a1 wA bA sA hA kw kb ks kh reach w0 w1 b0 b1 s0 s1 t0 t1 fg rk bs sz h0 n0)) X4 (fun _ => rfl) hlk (by decide) (by decide) e4 ⟨rfl, N4, K4, ⟨f5, f6, f7, f8, f9, f10, f11, f12, f13, Fw4, f14, f15, f16, f17⟩⟩)
theorem own_pd2 : parseMethodDescriptor "(I)V" = some ⟨[.int], none⟩ := by decide +kernel
abbrev own_y5 : MethodName := ⟨"com/example/allotrope/allotrope/procure/CoverQueue", "add", "(IDD)V"⟩
theorem own_da0T_0 : decode prog_47_method_3_code 0 = .ok (.aload_n 0, 1) := by decide +kernel
theorem own_da0T_1 : decode prog_47_method_3_code 1 = .ok (.getfield 13, 3) := by decide +kernel
theorem own_da0T_4 : decode prog_47_method_3_code 4 = .ok (.iload_n 1, 1) := by decide +kernel
theorem own_da0T_5 : decode prog_47_method_3_code 5 = .ok (.dload_n 2, 1) := by decide +kernel
theorem own_da0T_6 : decode prog_47_method_3_code 6 = .ok (.dastore, 1) := by decide +kernel
theorem own_da0T_7 : decode prog_47_method_3_code 7 = .ok (.aload_n 0, 1) := by decide +kernel
theorem own_da0T_8 : decode prog_47_method_3_code 8 = .ok (.getfield 17, 3) := by decide +kernel
theorem own_da0T_11 : decode prog_47_method_3_code 11 = .ok (.iload_n 1, 1) := by decide +kernel
theorem own_da0T_12 : decode prog_47_method_3_code 12 = .ok (.dload 4, 2) := by decide +kernel
theorem own_da0T_14 : decode prog_47_method_3_code 14 = .ok (.dastore, 1) := by decide +kernel
theorem own_da0T_15 : decode prog_47_method_3_code 15 = .ok (.aload_n 0, 1) := by decide +kernel
theorem own_da0T_16 : decode prog_47_method_3_code 16 = .ok (.getfield 20, 3) := by decide +kernel
theorem own_da0T_19 : decode prog_47_method_3_code 19 = .ok (.iload_n 1, 1) := by decide +kernel
theorem own_da0T_20 : decode prog_47_method_3_code 20 = .ok (.aload_n 0, 1) := by decide +kernel
theorem own_da0T_21 : decode prog_47_method_3_code 21 = .ok (.getfield 34, 3) := by decide +kernel
theorem own_da0T_24 : decode prog_47_method_3_code 24 = .ok (.lconst 1, 1) := by decide +kernel
theorem own_da0T_25 : decode prog_47_method_3_code 25 = .ok (.lsub, 1) := by decide +kernel
theorem own_da0T_26 : decode prog_47_method_3_code 26 = .ok (.lastore, 1) := by decide +kernel
theorem own_da0T_27 : decode prog_47_method_3_code 27 = .ok (.dload 4, 2) := by decide +kernel
theorem own_da0T_29 : decode prog_47_method_3_code 29 = .ok (.dconst 0, 1) := by decide +kernel
theorem own_da0T_30 : decode prog_47_method_3_code 30 = .ok (.dcmp .l, 1) := by decide +kernel
theorem own_da0T_31 : decode prog_47_method_3_code 31 = .ok (.ifCond .le 28, 3) := by decide +kernel
theorem own_da0T_34 : decode prog_47_method_3_code 34 = .ok (.aload_n 0, 1) := by decide +kernel
theorem own_da0T_35 : decode prog_47_method_3_code 35 = .ok (.getfield 24, 3) := by decide +kernel
theorem own_da0T_38 : decode prog_47_method_3_code 38 = .ok (.aload_n 0, 1) := by decide +kernel
theorem own_da0T_39 : decode prog_47_method_3_code 39 = .ok (.getfield 31, 3) := by decide +kernel
theorem own_da0T_42 : decode prog_47_method_3_code 42 = .ok (.iload_n 1, 1) := by decide +kernel
theorem own_da0T_43 : decode prog_47_method_3_code 43 = .ok (.iastore, 1) := by decide +kernel
theorem own_da0T_44 : decode prog_47_method_3_code 44 = .ok (.aload_n 0, 1) := by decide +kernel
theorem own_da0T_45 : decode prog_47_method_3_code 45 = .ok (.aload_n 0, 1) := by decide +kernel
theorem own_da0T_46 : decode prog_47_method_3_code 46 = .ok (.dup, 1) := by decide +kernel
theorem own_da0T_47 : decode prog_47_method_3_code 47 = .ok (.getfield 31, 3) := by decide +kernel
theorem own_da0T_50 : decode prog_47_method_3_code 50 = .ok (.dup_x1, 1) := by decide +kernel
theorem own_da0T_51 : decode prog_47_method_3_code 51 = .ok (.iconst 1, 1) := by decide +kernel
theorem own_da0T_52 : decode prog_47_method_3_code 52 = .ok (.iadd, 1) := by decide +kernel
theorem own_da0T_53 : decode prog_47_method_3_code 53 = .ok (.putfield 31, 3) := by decide +kernel
theorem own_da0T_56 : decode prog_47_method_3_code 56 = .ok (.invokevirtual 38, 3) := by decide +kernel
theorem own_da0T_59 : decode prog_47_method_3_code 59 = .ok (.return_, 1) := by decide +kernel
theorem own_efa0T (m : MethodId) (x0 : Addr) (x1 : Int32) (x2 : UInt64) (x3 : UInt64) : entryFrame m #[(.ref x0), (.int x1), (.double x2), (.double x3)] 6 = mkF m 0 #[rv x0, iv x1, .val (.double x2), v_, .val (.double x3), v_] [] := by first | (simp [entryFrame, mkF, argsToLocals, Value.category]; done) | rfl
def own_Qa0T (Z : State) (a1 : Addr) (wA bA sA hA : Addr) (kw kb ks kh : ClassId) (reach : Int32) (w0 : Int64) (w1 : Int64) (b0 : Int64) (b1 : Int64) (s0 : Int64) (s1 : Int64) (t0 : Int32) (t1 : Int32) (fg : Int64) (rk : Int32) (bs : Int32) (nw nb : Int64) (h0 : Heap) (n0 : Nat) : Option Value → Heap → List Loc → Prop := fun v h L => v = none ∧ Fr n0 L ∧ Keep h0 h [a1, wA, bA, sA, hA] ∧ own_CQ Z h a1 wA bA sA hA kw kb ks kh reach nw w1 nb b1 (fg - (1 : Int64)) s1 (0 : Int32) t1 fg rk bs (1 : Int32)
def own_Ra0T : Room := { frames := 1, cells := 0, slots := 0, locals := 16 }
set_option maxRecDepth 65536 in
set_option maxHeartbeats 40000000 in
theorem own_rma0T (l : Launch) (Z : State) (a0 : Array Value) (hw : ∀ d ∈ tables_1, d.before a0 Z = true) (ws : List Jvm.Cond) (a1 : Addr) (wA bA sA hA : Addr) (kw kb ks kh : ClassId) (reach : Int32) (w0 : Int64) (w1 : Int64) (b0 : Int64) (b1 : Int64) (s0 : Int64) (s1 : Int64) (t0 : Int32) (t1 : Int32) (fg : Int64) (rk : Int32) (bs : Int32) (nw nb : Int64) (h0 : Heap) (n0 : Nat) (Z0 : n0 ≤ h0.size) (hCQ : own_CQ Z h0 a1 wA bA sA hA kw kb ks kh reach w0 w1 b0 b1 s0 s1 t0 t1 fg rk bs (0 : Int32)) (hNE : own_NE a1 wA bA sA hA) (hGE : own_GE n0 a1 wA bA sA hA) (m_w0 : own_Mg 8 w0) (m_w1 : own_Mg 8 w1) (m_b0 : own_Mg 8 b0) (m_b1 : own_Mg 8 b1) (m_nw : own_Mg 8 nw) (m_nb : own_Mg 8 nb) (hnb : (0 : Int64) < nb) :
    own_Met l Z own_y5 prog_47_method_3_code 6 none ws own_Ra0T h0 #[(.ref a1), (.int 0), (.double (FP.l2d nw)), (.double (FP.l2d nb))] (own_Qa0T Z a1 wA bA sA hA kw kb ks kh reach w0 w1 b0 b1 s0 s1 t0 t1 fg rk bs nw nb h0 n0) own_Ra0T.cells own_Ra0T.slots := by
  refine own_start (plainFor_of_name own_pn0) ?_
  intro p e s m below meth c s₁ X0 hx hZ hby hml hret hlk hown hnm e0
  have hown : s.vm.findClass "com/example/allotrope/allotrope/procure/CoverQueue" = some m.cls := hown
  have hml : c.maxLocals = 6 := hml
  have N0 := Fr.nil n0
  refine own_cast (own_efa0T m a1 (0 : Int32) (FP.l2d nw) (FP.l2d nb)) ?_
  obtain ⟨ne_a1_wA, ne_a1_bA, ne_a1_sA, ne_a1_hA, ne_wA_bA, ne_wA_sA, ne_wA_hA, ne_bA_sA, ne_bA_hA, ne_sA_hA⟩ := id hNE
  obtain ⟨g_a1, g_wA, g_bA, g_sA, g_hA⟩ := id hGE
  obtain ⟨u1_0, u1_1, u1_2, u1_3, u1_4, u1_5, u1_6, u1_7, u1_8, u1_9, u1_10, u1_11, u1_12, u1_13⟩ := id hCQ
  refine own_s s₁ (mkF m 1 #[rv a1, iv 0, .val (.double (FP.l2d nw)), v_, .val (.double (FP.l2d nb)), v_] [(.ref a1)]) (fun _ k => XS.aloadN X0.here hx rfl (hb hby own_da0T_0) rfl rfl k) ?_
  obtain ⟨T2, X2, e2, st2⟩ := getF X0 hx hZ hown (host := "") (Or.inl (own_h hw 12 rfl)) Via.refl e0 u1_2 (g := (mkF m 1 #[rv a1, iv 0, .val (.double (FP.l2d nw)), v_, .val (.double (FP.l2d nb)), v_] [(.ref a1)])) rfl rfl (hb hby own_da0T_1)
  refine own_s T2 (mkF m 4 #[rv a1, iv 0, .val (.double (FP.l2d nw)), v_, .val (.double (FP.l2d nb)), v_] [(.ref wA)]) st2 ?_
  refine own_s T2 (mkF m 6 #[rv a1, iv 0, .val (.double (FP.l2d nw)), v_, .val (.double (FP.l2d nb)), v_] [(.double (FP.l2d nw)), (.int 0), (.ref wA)]) (fun _ k => XS.iloadN X2.here hx rfl (hb hby own_da0T_4) rfl  (XS.dloadN X2.here hx rfl (hb hby own_da0T_5) rfl  k)) ?_
  obtain ⟨cl3, Ar3, q3, S3, Nn3, H3, G3⟩ := id u1_10
  have hin3 : ¬ ((0 : Int32) < 0 ∨ cl3.slots.size ≤ ((0 : Int32)).toNatClampNeg) := (inb_of S3 ⟨by decide, by decide⟩)
  obtain ⟨T3, h3, X3, e3, W3, st3⟩ := stD X2 hx hZ e2 Ar3 (j := (0 : Int32)) hin3 (g := (mkF m 6 #[rv a1, iv 0, .val (.double (FP.l2d nw)), v_, .val (.double (FP.l2d nb)), v_] [(.double (FP.l2d nw)), (.int 0), (.ref wA)])) rfl rfl (hb hby own_da0T_6)
  have f3 : Arv Z h3 wA kw .double (2 : Int32) [(.double (FP.l2d nw)), (.double (FP.l2d w1))] (.double (FP.l2d 0)) := Arv.set Ar3 q3 S3 Nn3 H3 G3 rfl W3 0 rfl (Nat.le_of_ble_eq_true rfl)
  have f4 := Exa.wr W3 u1_0
  have f5 := Fld.other W3 u1_1 (Or.inl ne_a1_wA)
  have f6 := Fld.other W3 u1_2 (Or.inl ne_a1_wA)
  have f7 := Fld.other W3 u1_3 (Or.inl ne_a1_wA)
  have f8 := Fld.other W3 u1_4 (Or.inl ne_a1_wA)
  have f9 := Fld.other W3 u1_5 (Or.inl ne_a1_wA)
  have f10 := Fld.other W3 u1_6 (Or.inl ne_a1_wA)
  have f11 := Fld.other W3 u1_7 (Or.inl ne_a1_wA)
  have f12 := Fld.other W3 u1_8 (Or.inl ne_a1_wA)
  have f13 := Fld.other W3 u1_9 (Or.inl ne_a1_wA)
  have f14 := u1_11.other W3 (Ne.symm ne_wA_bA)
  have f15 := u1_12.other W3 (Ne.symm ne_wA_sA)
  have f16 := u1_13.other W3 (Ne.symm ne_wA_hA)
  have K3 : Keep h0 h3 [a1, wA, bA, sA, hA] := (Keep.refl h0 [a1, wA, bA, sA, hA]).wr W3 (Or.inl (List.mem_of_getElem? (i := 1) rfl))
  have Z3 := Nat.le_trans Z0 (Nat.le_of_eq W3.size.symm)
  have N3 := Fr.snoc X3 N0 g_wA
  refine own_s T3 (mkF m 7 #[rv a1, iv 0, .val (.double (FP.l2d nw)), v_, .val (.double (FP.l2d nb)), v_] []) st3 ?_
  refine own_s T3 (mkF m 8 #[rv a1, iv 0, .val (.double (FP.l2d nw)), v_, .val (.double (FP.l2d nb)), v_] [(.ref a1)]) (fun _ k => XS.aloadN X3.here hx rfl (hb hby own_da0T_7) rfl rfl k) ?_
  obtain ⟨T17, X17, e17, st17⟩ := getF X3 hx hZ hown (host := "") (Or.inl (own_h hw 14 rfl)) Via.refl e3 f7 (g := (mkF m 8 #[rv a1, iv 0, .val (.double (FP.l2d nw)), v_, .val (.double (FP.l2d nb)), v_] [(.ref a1)])) rfl rfl (hb hby own_da0T_8)
  refine own_s T17 (mkF m 11 #[rv a1, iv 0, .val (.double (FP.l2d nw)), v_, .val (.double (FP.l2d nb)), v_] [(.ref bA)]) st17 ?_
  refine own_s T17 (mkF m 14 #[rv a1, iv 0, .val (.double (FP.l2d nw)), v_, .val (.double (FP.l2d nb)), v_] [(.double (FP.l2d nb)), (.int 0), (.ref bA)]) (fun _ k => XS.iloadN X17.here hx rfl (hb hby own_da0T_11) rfl  (XS.dload X17.here hx rfl (hb hby own_da0T_12) rfl  k)) ?_
  obtain ⟨cl18, Ar18, q18, S18, Nn18, H18, G18⟩ := id f14
  have hin18 : ¬ ((0 : Int32) < 0 ∨ cl18.slots.size ≤ ((0 : Int32)).toNatClampNeg) := (inb_of S18 ⟨by decide, by decide⟩)
  obtain ⟨T18, h18, X18, e18, W18, st18⟩ := stD X17 hx hZ e17 Ar18 (j := (0 : Int32)) hin18 (g := (mkF m 14 #[rv a1, iv 0, .val (.double (FP.l2d nw)), v_, .val (.double (FP.l2d nb)), v_] [(.double (FP.l2d nb)), (.int 0), (.ref bA)])) rfl rfl (hb hby own_da0T_14)
  have f18 : Arv Z h18 bA kb .double (2 : Int32) [(.double (FP.l2d nb)), (.double (FP.l2d b1))] (.double (FP.l2d 0)) := Arv.set Ar18 q18 S18 Nn18 H18 G18 rfl W18 0 rfl (Nat.le_of_ble_eq_true rfl)
  have f19 := Exa.wr W18 f4
  have f20 := Fld.other W18 f5 (Or.inl ne_a1_bA)
  have f21 := Fld.other W18 f6 (Or.inl ne_a1_bA)
  have f22 := Fld.other W18 f7 (Or.inl ne_a1_bA)
  have f23 := Fld.other W18 f8 (Or.inl ne_a1_bA)
  have f24 := Fld.other W18 f9 (Or.inl ne_a1_bA)
  have f25 := Fld.other W18 f10 (Or.inl ne_a1_bA)
  have f26 := Fld.other W18 f11 (Or.inl ne_a1_bA)
  have f27 := Fld.other W18 f12 (Or.inl ne_a1_bA)
  have f28 := Fld.other W18 f13 (Or.inl ne_a1_bA)
  have f29 := f3.other W18 ne_wA_bA
  have f30 := f15.other W18 (Ne.symm ne_bA_sA)
  have f31 := f16.other W18 (Ne.symm ne_bA_hA)
  have K18 : Keep h0 h18 [a1, wA, bA, sA, hA] := K3.wr W18 (Or.inl (List.mem_of_getElem? (i := 2) rfl))
  have Z18 := Nat.le_trans Z3 (Nat.le_of_eq W18.size.symm)
  have N18 := Fr.snoc X18 N3 g_bA
  refine own_s T18 (mkF m 15 #[rv a1, iv 0, .val (.double (FP.l2d nw)), v_, .val (.double (FP.l2d nb)), v_] []) st18 ?_
  refine own_s T18 (mkF m 16 #[rv a1, iv 0, .val (.double (FP.l2d nw)), v_, .val (.double (FP.l2d nb)), v_] [(.ref a1)]) (fun _ k => XS.aloadN X18.here hx rfl (hb hby own_da0T_15) rfl rfl k) ?_
  obtain ⟨T32, X32, e32, st32⟩ := getF X18 hx hZ hown (host := "") (Or.inl (own_h hw 17 rfl)) Via.refl e18 f23 (g := (mkF m 16 #[rv a1, iv 0, .val (.double (FP.l2d nw)), v_, .val (.double (FP.l2d nb)), v_] [(.ref a1)])) rfl rfl (hb hby own_da0T_16)
  refine own_s T32 (mkF m 19 #[rv a1, iv 0, .val (.double (FP.l2d nw)), v_, .val (.double (FP.l2d nb)), v_] [(.ref sA)]) st32 ?_
  refine own_s T32 (mkF m 21 #[rv a1, iv 0, .val (.double (FP.l2d nw)), v_, .val (.double (FP.l2d nb)), v_] [(.ref a1), (.int 0), (.ref sA)]) (fun _ k => XS.iloadN X32.here hx rfl (hb hby own_da0T_19) rfl  (XS.aloadN X32.here hx rfl (hb hby own_da0T_20) rfl rfl k)) ?_
  obtain ⟨T33, X33, e33, st33⟩ := getF X32 hx hZ hown (host := "") (Or.inl (own_h hw 32 rfl)) Via.refl e32 f25 (g := (mkF m 21 #[rv a1, iv 0, .val (.double (FP.l2d nw)), v_, .val (.double (FP.l2d nb)), v_] [(.ref a1), (.int 0), (.ref sA)])) rfl rfl (hb hby own_da0T_21)
  refine own_s T33 (mkF m 24 #[rv a1, iv 0, .val (.double (FP.l2d nw)), v_, .val (.double (FP.l2d nb)), v_] [(.long fg), (.int 0), (.ref sA)]) st33 ?_
  refine own_s T33 (mkF m 26 #[rv a1, iv 0, .val (.double (FP.l2d nw)), v_, .val (.double (FP.l2d nb)), v_] [(.long (fg - (1 : Int64))), (.int 0), (.ref sA)]) (fun _ k => XS.lconst X33.here hx rfl (hb hby own_da0T_24) (XS.lsub X33.here hx rfl (hb hby own_da0T_25) rfl k)) ?_
  obtain ⟨cl34, Ar34, q34, S34, Nn34, H34, G34⟩ := id f30
  have hin34 : ¬ ((0 : Int32) < 0 ∨ cl34.slots.size ≤ ((0 : Int32)).toNatClampNeg) := (inb_of S34 ⟨by decide, by decide⟩)
  obtain ⟨T34, h34, X34, e34, W34, st34⟩ := stJ X33 hx hZ e33 Ar34 (j := (0 : Int32)) hin34 (g := (mkF m 26 #[rv a1, iv 0, .val (.double (FP.l2d nw)), v_, .val (.double (FP.l2d nb)), v_] [(.long (fg - (1 : Int64))), (.int 0), (.ref sA)])) rfl rfl (hb hby own_da0T_26)
  have f34 : Arv Z h34 sA ks .long (2 : Int32) [(.long (fg - (1 : Int64))), (.long s1)] (.long 0) := Arv.set Ar34 q34 S34 Nn34 H34 G34 rfl W34 0 rfl (Nat.le_of_ble_eq_true rfl)
  have f35 := Exa.wr W34 f19
  have f36 := Fld.other W34 f20 (Or.inl ne_a1_sA)
  have f37 := Fld.other W34 f21 (Or.inl ne_a1_sA)
  have f38 := Fld.other W34 f22 (Or.inl ne_a1_sA)
  have f39 := Fld.other W34 f23 (Or.inl ne_a1_sA)
  have f40 := Fld.other W34 f24 (Or.inl ne_a1_sA)
  have f41 := Fld.other W34 f25 (Or.inl ne_a1_sA)
  have f42 := Fld.other W34 f26 (Or.inl ne_a1_sA)
  have f43 := Fld.other W34 f27 (Or.inl ne_a1_sA)
  have f44 := Fld.other W34 f28 (Or.inl ne_a1_sA)
  have f45 := f29.other W34 ne_wA_sA
  have f46 := f18.other W34 ne_bA_sA
  have f47 := f31.other W34 (Ne.symm ne_sA_hA)
  have K34 : Keep h0 h34 [a1, wA, bA, sA, hA] := K18.wr W34 (Or.inl (List.mem_of_getElem? (i := 3) rfl))
  have Z34 := Nat.le_trans Z18 (Nat.le_of_eq W34.size.symm)
  have N34 := Fr.snoc X34 N18 g_sA
  refine own_s T34 (mkF m 27 #[rv a1, iv 0, .val (.double (FP.l2d nw)), v_, .val (.double (FP.l2d nb)), v_] []) st34 ?_
  refine own_s T34 (mkF m 29 #[rv a1, iv 0, .val (.double (FP.l2d nw)), v_, .val (.double (FP.l2d nb)), v_] [(.double (FP.l2d nb))]) (fun _ k => XS.dload X34.here hx rfl (hb hby own_da0T_27) rfl  k) ?_
  have mg48 := own_mgLit (0 : Int64) (K := 0) rfl rfl
  refine own_s T34 (mkF m 35 #[rv a1, iv 0, .val (.double (FP.l2d nw)), v_, .val (.double (FP.l2d nb)), v_] [(.ref a1)]) (fun _ k => XS.dconst0 X34.here hx rfl (hb hby own_da0T_29) own_dc0 (XS.dcmpS X34.here hx rfl (hb hby own_da0T_30) rfl (dcmpV_w (own_mgB m_nb (by decide)) (own_mgB mg48 (by decide)) _) (XS.ifNo X34.here hx rfl (hb hby own_da0T_31) rfl ((if0 _ _).trans (tlt (own_lcgt hnb)).2.2.2) (XS.aloadN X34.here hx rfl (hb hby own_da0T_34) rfl rfl k)))) ?_
  obtain ⟨T49, X49, e49, st49⟩ := getF X34 hx hZ hown (host := "") (Or.inl (own_h hw 20 rfl)) Via.refl e34 f40 (g := (mkF m 35 #[rv a1, iv 0, .val (.double (FP.l2d nw)), v_, .val (.double (FP.l2d nb)), v_] [(.ref a1)])) rfl rfl (hb hby own_da0T_35)
  refine own_s T49 (mkF m 38 #[rv a1, iv 0, .val (.double (FP.l2d nw)), v_, .val (.double (FP.l2d nb)), v_] [(.ref hA)]) st49 ?_
  refine own_s T49 (mkF m 39 #[rv a1, iv 0, .val (.double (FP.l2d nw)), v_, .val (.double (FP.l2d nb)), v_] [(.ref a1), (.ref hA)]) (fun _ k => XS.aloadN X49.here hx rfl (hb hby own_da0T_38) rfl rfl k) ?_
  obtain ⟨T50, X50, e50, st50⟩ := getF X49 hx hZ hown (host := "") (Or.inl (own_h hw 38 rfl)) Via.refl e49 f44 (g := (mkF m 39 #[rv a1, iv 0, .val (.double (FP.l2d nw)), v_, .val (.double (FP.l2d nb)), v_] [(.ref a1), (.ref hA)])) rfl rfl (hb hby own_da0T_39)
  refine own_s T50 (mkF m 42 #[rv a1, iv 0, .val (.double (FP.l2d nw)), v_, .val (.double (FP.l2d nb)), v_] [(.int 0), (.ref hA)]) st50 ?_
  refine own_s T50 (mkF m 43 #[rv a1, iv 0, .val (.double (FP.l2d nw)), v_, .val (.double (FP.l2d nb)), v_] [(.int 0), (.int 0), (.ref hA)]) (fun _ k => XS.iloadN X50.here hx rfl (hb hby own_da0T_42) rfl  k) ?_
  obtain ⟨cl51, Ar51, q51, S51, Nn51, H51, G51⟩ := id f47
  have hin51 : ¬ ((0 : Int32) < 0 ∨ cl51.slots.size ≤ ((0 : Int32)).toNatClampNeg) := (inb_of S51 ⟨by decide, by decide⟩)
  obtain ⟨T51, h51, X51, e51, W51, st51⟩ := stI X50 hx hZ e50 Ar51 (j := (0 : Int32)) hin51 (g := (mkF m 43 #[rv a1, iv 0, .val (.double (FP.l2d nw)), v_, .val (.double (FP.l2d nb)), v_] [(.int 0), (.int 0), (.ref hA)])) rfl rfl (hb hby own_da0T_43)
  have f51 : Arv Z h51 hA kh .int (2 : Int32) [(.int 0), (.int t1)] (.int 0) := Arv.set Ar51 q51 S51 Nn51 H51 G51 rfl W51 0 rfl (Nat.le_of_ble_eq_true rfl)
  have f52 := Exa.wr W51 f35
  have f53 := Fld.other W51 f36 (Or.inl ne_a1_hA)
  have f54 := Fld.other W51 f37 (Or.inl ne_a1_hA)
  have f55 := Fld.other W51 f38 (Or.inl ne_a1_hA)
  have f56 := Fld.other W51 f39 (Or.inl ne_a1_hA)
  have f57 := Fld.other W51 f40 (Or.inl ne_a1_hA)
  have f58 := Fld.other W51 f41 (Or.inl ne_a1_hA)
  have f59 := Fld.other W51 f42 (Or.inl ne_a1_hA)
  have f60 := Fld.other W51 f43 (Or.inl ne_a1_hA)
  have f61 := Fld.other W51 f44 (Or.inl ne_a1_hA)
  have f62 := f45.other W51 ne_wA_hA
  have f63 := f46.other W51 ne_bA_hA
  have f64 := f34.other W51 ne_sA_hA
  have K51 : Keep h0 h51 [a1, wA, bA, sA, hA] := K34.wr W51 (Or.inl (List.mem_of_getElem? (i := 4) rfl))
  have Z51 := Nat.le_trans Z34 (Nat.le_of_eq W51.size.symm)
  have N51 := Fr.snoc X51 N34 g_hA
  refine own_s T51 (mkF m 44 #[rv a1, iv 0, .val (.double (FP.l2d nw)), v_, .val (.double (FP.l2d nb)), v_] []) st51 ?_
  refine own_s T51 (mkF m 47 #[rv a1, iv 0, .val (.double (FP.l2d nw)), v_, .val (.double (FP.l2d nb)), v_] [(.ref a1), (.ref a1), (.ref a1)]) (fun _ k => XS.aloadN X51.here hx rfl (hb hby own_da0T_44) rfl rfl (XS.aloadN X51.here hx rfl (hb hby own_da0T_45) rfl rfl (XS.dup X51.here hx rfl (hb hby own_da0T_46) rfl rfl k))) ?_
  obtain ⟨T65, X65, e65, st65⟩ := getF X51 hx hZ hown (host := "") (Or.inl (own_h hw 38 rfl)) Via.refl e51 f61 (g := (mkF m 47 #[rv a1, iv 0, .val (.double (FP.l2d nw)), v_, .val (.double (FP.l2d nb)), v_] [(.ref a1), (.ref a1), (.ref a1)])) rfl rfl (hb hby own_da0T_47)
  refine own_s T65 (mkF m 50 #[rv a1, iv 0, .val (.double (FP.l2d nw)), v_, .val (.double (FP.l2d nb)), v_] [(.int 0), (.ref a1), (.ref a1)]) st65 ?_
  refine own_s T65 (mkF m 53 #[rv a1, iv 0, .val (.double (FP.l2d nw)), v_, .val (.double (FP.l2d nb)), v_] [(.int 1), (.ref a1), (.int 0), (.ref a1)]) (fun _ k => XS.dupX1 X65.here hx rfl (hb hby own_da0T_50) rfl rfl rfl (XS.iconst X65.here hx rfl (hb hby own_da0T_51) (XS.iadd X65.here hx rfl (hb hby own_da0T_52) rfl k))) ?_
  obtain ⟨T66, h66, X66, e66, W66, st66⟩ := putF X65 hx hZ hown (host := "") (Or.inl (own_h hw 38 rfl)) Via.refl e65 f61 f52 (Or.inl (own_h hw 39 rfl)) (own_h hw 1 rfl) (ty := .int) (by decide) rfl rfl (g := (mkF m 53 #[rv a1, iv 0, .val (.double (FP.l2d nw)), v_, .val (.double (FP.l2d nb)), v_] [(.int 1), (.ref a1), (.int 0), (.ref a1)])) rfl rfl (hb hby own_da0T_53)
  have Fw66 := Fld.same W66 f61
  have f67 := Exa.wr W66 f52
  have f68 := Fld.other W66 f53 (Or.inr (slot_ne (Or.inr (own_h hw 10 rfl)) (Or.inl (own_h hw 39 rfl)) (by decide) (t := .int) (t' := .int) (by decide) (by decide)))
  have f69 := Fld.other W66 f54 (Or.inr (slot_ne (Or.inr (own_h hw 13 rfl)) (Or.inl (own_h hw 39 rfl)) (by decide) (t := (.array .double)) (t' := .int) (by decide) (by decide)))
  have f70 := Fld.other W66 f55 (Or.inr (slot_ne (Or.inr (own_h hw 15 rfl)) (Or.inl (own_h hw 39 rfl)) (by decide) (t := (.array .double)) (t' := .int) (by decide) (by decide)))
  have f71 := Fld.other W66 f56 (Or.inr (slot_ne (Or.inr (own_h hw 18 rfl)) (Or.inl (own_h hw 39 rfl)) (by decide) (t := (.array .long)) (t' := .int) (by decide) (by decide)))
  have f72 := Fld.other W66 f57 (Or.inr (slot_ne (Or.inr (own_h hw 21 rfl)) (Or.inl (own_h hw 39 rfl)) (by decide) (t := (.array .int)) (t' := .int) (by decide) (by decide)))
  have f73 := Fld.other W66 f58 (Or.inr (slot_ne (Or.inl (own_h hw 33 rfl)) (Or.inl (own_h hw 39 rfl)) (by decide) (t := .long) (t' := .int) (by decide) (by decide)))
  have f74 := Fld.other W66 f59 (Or.inr (slot_ne (Or.inl (own_h hw 35 rfl)) (Or.inl (own_h hw 39 rfl)) (by decide) (t := .int) (t' := .int) (by decide) (by decide)))
  have f75 := Fld.other W66 f60 (Or.inr (slot_ne (Or.inl (own_h hw 37 rfl)) (Or.inl (own_h hw 39 rfl)) (by decide) (t := .int) (t' := .int) (by decide) (by decide)))
  have f76 := f62.other W66 (Ne.symm ne_a1_wA)
  have f77 := f63.other W66 (Ne.symm ne_a1_bA)
  have f78 := f64.other W66 (Ne.symm ne_a1_sA)
  have f79 := f51.other W66 (Ne.symm ne_a1_hA)
  have K66 : Keep h0 h66 [a1, wA, bA, sA, hA] := K51.wr W66 (Or.inl (List.mem_of_getElem? (i := 0) rfl))
  have Z66 := Nat.le_trans Z51 (Nat.le_of_eq W66.size.symm)
  have N66 := Fr.snoc X66 N51 g_a1
  refine own_s T66 (mkF m 56 #[rv a1, iv 0, .val (.double (FP.l2d nw)), v_, .val (.double (FP.l2d nb)), v_] [(.int 0), (.ref a1)]) st66 ?_
  obtain ⟨v80, T80, L80, X80, hQ80, st80⟩ := own_callP X66 hx hZ (y := own_y1) (W := 0) (a := a1) hown (own_h hw 51 rfl) (own_h hw 52 rfl) (own_h hw 1 rfl) (own_h hw 53 rfl) (own_h hw 2 rfl) (own_h hw 54 rfl) (by decide) (own_rmr0 l Z a0 hw [] a1 wA bA sA hA kw kb ks kh reach nw w1 nb b1 (fg - (1 : Int64)) s1 (0 : Int32) t1 fg rk bs (1 : Int32) h66 n0 Z66 ⟨f67, f68, f69, f70, f71, f72, f73, f74, f75, Fw66, f76, f77, f78, f79⟩ hNE hGE m_nw m_w1 m_nb m_b1) (by decide) (by decide) f67 (g := (mkF m 56 #[rv a1, iv 0, .val (.double (FP.l2d nw)), v_, .val (.double (FP.l2d nb)), v_] [(.int 0), (.ref a1)])) rfl (by rw [hml]; rfl) (argsL := [(.int 0)]) (rest := []) rfl (lenOf own_pd2 rfl) rfl (by show 2 * 0 + _ ≤ _; exact Nat.le_of_eq rfl) (hb hby own_da0T_56) e66 (by decide) (by decide)
  obtain ⟨rfl, Nq80, Kq80, hq80⟩ := hQ80
  have N80 := Fr.app N66 Nq80
  have K80 : Keep h0 T80.heap [a1, wA, bA, sA, hA] := K66.trans Kq80 (allS (Or.inl (List.mem_of_getElem? (i := 0) rfl)) (allS (Or.inl (List.mem_of_getElem? (i := 1) rfl)) (allS (Or.inl (List.mem_of_getElem? (i := 2) rfl)) (allS (Or.inl (List.mem_of_getElem? (i := 3) rfl)) (allS (Or.inl (List.mem_of_getElem? (i := 4) rfl)) all0)))))
  have Z80 := Nat.le_trans Z66 Kq80.1
  obtain ⟨u81_0, u81_1, u81_2, u81_3, u81_4, u81_5, u81_6, u81_7, u81_8, u81_9, u81_10, u81_11, u81_12, u81_13⟩ := id hq80
  refine own_s T80 (mkF m 59 #[rv a1, iv 0, .val (.double (FP.l2d nw)), v_, .val (.double (FP.l2d nb)), v_] []) st80 ?_
  exact own_finV X80 hx hret (hb hby own_da0T_59) (own_end (Qv := (own_Qa0T Z a1 wA bA sA hA kw kb ks kh reach w0 w1 b0 b1 s0 s1 t0 t1 fg rk bs nw nb h0 n0)) X80 (fun _ => rfl) hlk (by decide) (by decide) rfl ⟨rfl, N80, K80, ⟨u81_0, u81_1, u81_2, u81_3, u81_4, u81_5, u81_6, u81_7, u81_8, u81_9, u81_10, u81_11, u81_12, u81_13⟩⟩)
theorem own_da0F_0 : decode prog_47_method_3_code 0 = .ok (.aload_n 0, 1) := by decide +kernel
theorem own_da0F_1 : decode prog_47_method_3_code 1 = .ok (.getfield 13, 3) := by decide +kernel
theorem own_da0F_4 : decode prog_47_method_3_code 4 = .ok (.iload_n 1, 1) := by decide +kernel
theorem own_da0F_5 : decode prog_47_method_3_code 5 = .ok (.dload_n 2, 1) := by decide +kernel
theorem own_da0F_6 : decode prog_47_method_3_code 6 = .ok (.dastore, 1) := by decide +kernel
theorem own_da0F_7 : decode prog_47_method_3_code 7 = .ok (.aload_n 0, 1) := by decide +kernel
theorem own_da0F_8 : decode prog_47_method_3_code 8 = .ok (.getfield 17, 3) := by decide +kernel
theorem own_da0F_11 : decode prog_47_method_3_code 11 = .ok (.iload_n 1, 1) := by decide +kernel
theorem own_da0F_12 : decode prog_47_method_3_code 12 = .ok (.dload 4, 2) := by decide +kernel
theorem own_da0F_14 : decode prog_47_method_3_code 14 = .ok (.dastore, 1) := by decide +kernel
theorem own_da0F_15 : decode prog_47_method_3_code 15 = .ok (.aload_n 0, 1) := by decide +kernel
theorem own_da0F_16 : decode prog_47_method_3_code 16 = .ok (.getfield 20, 3) := by decide +kernel
theorem own_da0F_19 : decode prog_47_method_3_code 19 = .ok (.iload_n 1, 1) := by decide +kernel
theorem own_da0F_20 : decode prog_47_method_3_code 20 = .ok (.aload_n 0, 1) := by decide +kernel
theorem own_da0F_21 : decode prog_47_method_3_code 21 = .ok (.getfield 34, 3) := by decide +kernel
theorem own_da0F_24 : decode prog_47_method_3_code 24 = .ok (.lconst 1, 1) := by decide +kernel
theorem own_da0F_25 : decode prog_47_method_3_code 25 = .ok (.lsub, 1) := by decide +kernel
theorem own_da0F_26 : decode prog_47_method_3_code 26 = .ok (.lastore, 1) := by decide +kernel
theorem own_da0F_27 : decode prog_47_method_3_code 27 = .ok (.dload 4, 2) := by decide +kernel
theorem own_da0F_29 : decode prog_47_method_3_code 29 = .ok (.dconst 0, 1) := by decide +kernel
theorem own_da0F_30 : decode prog_47_method_3_code 30 = .ok (.dcmp .l, 1) := by decide +kernel
theorem own_da0F_31 : decode prog_47_method_3_code 31 = .ok (.ifCond .le 28, 3) := by decide +kernel
theorem own_da0F_59 : decode prog_47_method_3_code 59 = .ok (.return_, 1) := by decide +kernel
theorem own_efa0F (m : MethodId) (x0 : Addr) (x1 : Int32) (x2 : UInt64) (x3 : UInt64) : entryFrame m #[(.ref x0), (.int x1), (.double x2), (.double x3)] 6 = mkF m 0 #[rv x0, iv x1, .val (.double x2), v_, .val (.double x3), v_] [] := by first | (simp [entryFrame, mkF, argsToLocals, Value.category]; done) | rfl
def own_Qa0F (Z : State) (a1 : Addr) (wA bA sA hA : Addr) (kw kb ks kh : ClassId) (reach : Int32) (w0 : Int64) (w1 : Int64) (b0 : Int64) (b1 : Int64) (s0 : Int64) (s1 : Int64) (t0 : Int32) (t1 : Int32) (fg : Int64) (rk : Int32) (bs : Int32) (sz : Int32) (nw nb : Int64) (h0 : Heap) (n0 : Nat) : Option Value → Heap → List Loc → Prop := fun v h L => v = none ∧ Fr n0 L ∧ Keep h0 h [a1, wA, bA, sA, hA] ∧ own_CQ Z h a1 wA bA sA hA kw kb ks kh reach nw w1 nb b1 (fg - (1 : Int64)) s1 t0 t1 fg rk bs sz
def own_Ra0F : Room := { frames := 0, cells := 0, slots := 0, locals := 0 }
set_option maxRecDepth 65536 in
set_option maxHeartbeats 40000000 in
theorem own_rma0F (l : Launch) (Z : State) (a0 : Array Value) (hw : ∀ d ∈ tables_1, d.before a0 Z = true) (ws : List Jvm.Cond) (a1 : Addr) (wA bA sA hA : Addr) (kw kb ks kh : ClassId) (reach : Int32) (w0 : Int64) (w1 : Int64) (b0 : Int64) (b1 : Int64) (s0 : Int64) (s1 : Int64) (t0 : Int32) (t1 : Int32) (fg : Int64) (rk : Int32) (bs : Int32) (sz : Int32) (nw nb : Int64) (h0 : Heap) (n0 : Nat) (Z0 : n0 ≤ h0.size) (hCQ : own_CQ Z h0 a1 wA bA sA hA kw kb ks kh reach w0 w1 b0 b1 s0 s1 t0 t1 fg rk bs sz) (hNE : own_NE a1 wA bA sA hA) (hGE : own_GE n0 a1 wA bA sA hA) (m_w0 : own_Mg 8 w0) (m_w1 : own_Mg 8 w1) (m_b0 : own_Mg 8 b0) (m_b1 : own_Mg 8 b1) (m_nw : own_Mg 8 nw) (m_nb : own_Mg 8 nb) (hnb : ¬ (0 : Int64) < nb) :
    own_Met l Z own_y5 prog_47_method_3_code 6 none ws own_Ra0F h0 #[(.ref a1), (.int 0), (.double (FP.l2d nw)), (.double (FP.l2d nb))] (own_Qa0F Z a1 wA bA sA hA kw kb ks kh reach w0 w1 b0 b1 s0 s1 t0 t1 fg rk bs sz nw nb h0 n0) own_Ra0F.cells own_Ra0F.slots := by
  refine own_start (plainFor_of_name own_pn0) ?_
  intro p e s m below meth c s₁ X0 hx hZ hby hml hret hlk hown hnm e0
  have hown : s.vm.findClass "com/example/allotrope/allotrope/procure/CoverQueue" = some m.cls := hown
  have hml : c.maxLocals = 6 := hml
  have N0 := Fr.nil n0
  refine own_cast (own_efa0F m a1 (0 : Int32) (FP.l2d nw) (FP.l2d nb)) ?_
  obtain ⟨ne_a1_wA, ne_a1_bA, ne_a1_sA, ne_a1_hA, ne_wA_bA, ne_wA_sA, ne_wA_hA, ne_bA_sA, ne_bA_hA, ne_sA_hA⟩ := id hNE
  obtain ⟨g_a1, g_wA, g_bA, g_sA, g_hA⟩ := id hGE
  obtain ⟨u1_0, u1_1, u1_2, u1_3, u1_4, u1_5, u1_6, u1_7, u1_8, u1_9, u1_10, u1_11, u1_12, u1_13⟩ := id hCQ
  refine own_s s₁ (mkF m 1 #[rv a1, iv 0, .val (.double (FP.l2d nw)), v_, .val (.double (FP.l2d nb)), v_] [(.ref a1)]) (fun _ k => XS.aloadN X0.here hx rfl (hb hby own_da0F_0) rfl rfl k) ?_
  obtain ⟨T2, X2, e2, st2⟩ := getF X0 hx hZ hown (host := "") (Or.inl (own_h hw 12 rfl)) Via.refl e0 u1_2 (g := (mkF m 1 #[rv a1, iv 0, .val (.double (FP.l2d nw)), v_, .val (.double (FP.l2d nb)), v_] [(.ref a1)])) rfl rfl (hb hby own_da0F_1)
  refine own_s T2 (mkF m 4 #[rv a1, iv 0, .val (.double (FP.l2d nw)), v_, .val (.double (FP.l2d nb)), v_] [(.ref wA)]) st2 ?_
  refine own_s T2 (mkF m 6 #[rv a1, iv 0, .val (.double (FP.l2d nw)), v_, .val (.double (FP.l2d nb)), v_] [(.double (FP.l2d nw)), (.int 0), (.ref wA)]) (fun _ k => XS.iloadN X2.here hx rfl (hb hby own_da0F_4) rfl  (XS.dloadN X2.here hx rfl (hb hby own_da0F_5) rfl  k)) ?_
  obtain ⟨cl3, Ar3, q3, S3, Nn3, H3, G3⟩ := id u1_10
  have hin3 : ¬ ((0 : Int32) < 0 ∨ cl3.slots.size ≤ ((0 : Int32)).toNatClampNeg) := (inb_of S3 ⟨by decide, by decide⟩)
  obtain ⟨T3, h3, X3, e3, W3, st3⟩ := stD X2 hx hZ e2 Ar3 (j := (0 : Int32)) hin3 (g := (mkF m 6 #[rv a1, iv 0, .val (.double (FP.l2d nw)), v_, .val (.double (FP.l2d nb)), v_] [(.double (FP.l2d nw)), (.int 0), (.ref wA)])) rfl rfl (hb hby own_da0F_6)
  have f3 : Arv Z h3 wA kw .double (2 : Int32) [(.double (FP.l2d nw)), (.double (FP.l2d w1))] (.double (FP.l2d 0)) := Arv.set Ar3 q3 S3 Nn3 H3 G3 rfl W3 0 rfl (Nat.le_of_ble_eq_true rfl)
  have f4 := Exa.wr W3 u1_0
  have f5 := Fld.other W3 u1_1 (Or.inl ne_a1_wA)
  have f6 := Fld.other W3 u1_2 (Or.inl ne_a1_wA)
  have f7 := Fld.other W3 u1_3 (Or.inl ne_a1_wA)
  have f8 := Fld.other W3 u1_4 (Or.inl ne_a1_wA)
  have f9 := Fld.other W3 u1_5 (Or.inl ne_a1_wA)
  have f10 := Fld.other W3 u1_6 (Or.inl ne_a1_wA)
  have f11 := Fld.other W3 u1_7 (Or.inl ne_a1_wA)
  have f12 := Fld.other W3 u1_8 (Or.inl ne_a1_wA)
  have f13 := Fld.other W3 u1_9 (Or.inl ne_a1_wA)
  have f14 := u1_11.other W3 (Ne.symm ne_wA_bA)
  have f15 := u1_12.other W3 (Ne.symm ne_wA_sA)
  have f16 := u1_13.other W3 (Ne.symm ne_wA_hA)
  have K3 : Keep h0 h3 [a1, wA, bA, sA, hA] := (Keep.refl h0 [a1, wA, bA, sA, hA]).wr W3 (Or.inl (List.mem_of_getElem? (i := 1) rfl))
  have Z3 := Nat.le_trans Z0 (Nat.le_of_eq W3.size.symm)
  have N3 := Fr.snoc X3 N0 g_wA
  refine own_s T3 (mkF m 7 #[rv a1, iv 0, .val (.double (FP.l2d nw)), v_, .val (.double (FP.l2d nb)), v_] []) st3 ?_
  refine own_s T3 (mkF m 8 #[rv a1, iv 0, .val (.double (FP.l2d nw)), v_, .val (.double (FP.l2d nb)), v_] [(.ref a1)]) (fun _ k => XS.aloadN X3.here hx rfl (hb hby own_da0F_7) rfl rfl k) ?_
  obtain ⟨T17, X17, e17, st17⟩ := getF X3 hx hZ hown (host := "") (Or.inl (own_h hw 14 rfl)) Via.refl e3 f7 (g := (mkF m 8 #[rv a1, iv 0, .val (.double (FP.l2d nw)), v_, .val (.double (FP.l2d nb)), v_] [(.ref a1)])) rfl rfl (hb hby own_da0F_8)
  refine own_s T17 (mkF m 11 #[rv a1, iv 0, .val (.double (FP.l2d nw)), v_, .val (.double (FP.l2d nb)), v_] [(.ref bA)]) st17 ?_
  refine own_s T17 (mkF m 14 #[rv a1, iv 0, .val (.double (FP.l2d nw)), v_, .val (.double (FP.l2d nb)), v_] [(.double (FP.l2d nb)), (.int 0), (.ref bA)]) (fun _ k => XS.iloadN X17.here hx rfl (hb hby own_da0F_11) rfl  (XS.dload X17.here hx rfl (hb hby own_da0F_12) rfl  k)) ?_
  obtain ⟨cl18, Ar18, q18, S18, Nn18, H18, G18⟩ := id f14
  have hin18 : ¬ ((0 : Int32) < 0 ∨ cl18.slots.size ≤ ((0 : Int32)).toNatClampNeg) := (inb_of S18 ⟨by decide, by decide⟩)
  obtain ⟨T18, h18, X18, e18, W18, st18⟩ := stD X17 hx hZ e17 Ar18 (j := (0 : Int32)) hin18 (g := (mkF m 14 #[rv a1, iv 0, .val (.double (FP.l2d nw)), v_, .val (.double (FP.l2d nb)), v_] [(.double (FP.l2d nb)), (.int 0), (.ref bA)])) rfl rfl (hb hby own_da0F_14)
  have f18 : Arv Z h18 bA kb .double (2 : Int32) [(.double (FP.l2d nb)), (.double (FP.l2d b1))] (.double (FP.l2d 0)) := Arv.set Ar18 q18 S18 Nn18 H18 G18 rfl W18 0 rfl (Nat.le_of_ble_eq_true rfl)
  have f19 := Exa.wr W18 f4
  have f20 := Fld.other W18 f5 (Or.inl ne_a1_bA)
  have f21 := Fld.other W18 f6 (Or.inl ne_a1_bA)
  have f22 := Fld.other W18 f7 (Or.inl ne_a1_bA)
  have f23 := Fld.other W18 f8 (Or.inl ne_a1_bA)
  have f24 := Fld.other W18 f9 (Or.inl ne_a1_bA)
  have f25 := Fld.other W18 f10 (Or.inl ne_a1_bA)
  have f26 := Fld.other W18 f11 (Or.inl ne_a1_bA)
  have f27 := Fld.other W18 f12 (Or.inl ne_a1_bA)
  have f28 := Fld.other W18 f13 (Or.inl ne_a1_bA)
  have f29 := f3.other W18 ne_wA_bA
  have f30 := f15.other W18 (Ne.symm ne_bA_sA)
  have f31 := f16.other W18 (Ne.symm ne_bA_hA)
  have K18 : Keep h0 h18 [a1, wA, bA, sA, hA] := K3.wr W18 (Or.inl (List.mem_of_getElem? (i := 2) rfl))
  have Z18 := Nat.le_trans Z3 (Nat.le_of_eq W18.size.symm)
  have N18 := Fr.snoc X18 N3 g_bA
  refine own_s T18 (mkF m 15 #[rv a1, iv 0, .val (.double (FP.l2d nw)), v_, .val (.double (FP.l2d nb)), v_] []) st18 ?_
  refine own_s T18 (mkF m 16 #[rv a1, iv 0, .val (.double (FP.l2d nw)), v_, .val (.double (FP.l2d nb)), v_] [(.ref a1)]) (fun _ k => XS.aloadN X18.here hx rfl (hb hby own_da0F_15) rfl rfl k) ?_
  obtain ⟨T32, X32, e32, st32⟩ := getF X18 hx hZ hown (host := "") (Or.inl (own_h hw 17 rfl)) Via.refl e18 f23 (g := (mkF m 16 #[rv a1, iv 0, .val (.double (FP.l2d nw)), v_, .val (.double (FP.l2d nb)), v_] [(.ref a1)])) rfl rfl (hb hby own_da0F_16)
  refine own_s T32 (mkF m 19 #[rv a1, iv 0, .val (.double (FP.l2d nw)), v_, .val (.double (FP.l2d nb)), v_] [(.ref sA)]) st32 ?_
  refine own_s T32 (mkF m 21 #[rv a1, iv 0, .val (.double (FP.l2d nw)), v_, .val (.double (FP.l2d nb)), v_] [(.ref a1), (.int 0), (.ref sA)]) (fun _ k => XS.iloadN X32.here hx rfl (hb hby own_da0F_19) rfl  (XS.aloadN X32.here hx rfl (hb hby own_da0F_20) rfl rfl k)) ?_
  obtain ⟨T33, X33, e33, st33⟩ := getF X32 hx hZ hown (host := "") (Or.inl (own_h hw 32 rfl)) Via.refl e32 f25 (g := (mkF m 21 #[rv a1, iv 0, .val (.double (FP.l2d nw)), v_, .val (.double (FP.l2d nb)), v_] [(.ref a1), (.int 0), (.ref sA)])) rfl rfl (hb hby own_da0F_21)
  refine own_s T33 (mkF m 24 #[rv a1, iv 0, .val (.double (FP.l2d nw)), v_, .val (.double (FP.l2d nb)), v_] [(.long fg), (.int 0), (.ref sA)]) st33 ?_
  refine own_s T33 (mkF m 26 #[rv a1, iv 0, .val (.double (FP.l2d nw)), v_, .val (.double (FP.l2d nb)), v_] [(.long (fg - (1 : Int64))), (.int 0), (.ref sA)]) (fun _ k => XS.lconst X33.here hx rfl (hb hby own_da0F_24) (XS.lsub X33.here hx rfl (hb hby own_da0F_25) rfl k)) ?_
  obtain ⟨cl34, Ar34, q34, S34, Nn34, H34, G34⟩ := id f30
  have hin34 : ¬ ((0 : Int32) < 0 ∨ cl34.slots.size ≤ ((0 : Int32)).toNatClampNeg) := (inb_of S34 ⟨by decide, by decide⟩)
  obtain ⟨T34, h34, X34, e34, W34, st34⟩ := stJ X33 hx hZ e33 Ar34 (j := (0 : Int32)) hin34 (g := (mkF m 26 #[rv a1, iv 0, .val (.double (FP.l2d nw)), v_, .val (.double (FP.l2d nb)), v_] [(.long (fg - (1 : Int64))), (.int 0), (.ref sA)])) rfl rfl (hb hby own_da0F_26)
  have f34 : Arv Z h34 sA ks .long (2 : Int32) [(.long (fg - (1 : Int64))), (.long s1)] (.long 0) := Arv.set Ar34 q34 S34 Nn34 H34 G34 rfl W34 0 rfl (Nat.le_of_ble_eq_true rfl)
  have f35 := Exa.wr W34 f19
  have f36 := Fld.other W34 f20 (Or.inl ne_a1_sA)
  have f37 := Fld.other W34 f21 (Or.inl ne_a1_sA)
  have f38 := Fld.other W34 f22 (Or.inl ne_a1_sA)
  have f39 := Fld.other W34 f23 (Or.inl ne_a1_sA)
  have f40 := Fld.other W34 f24 (Or.inl ne_a1_sA)
  have f41 := Fld.other W34 f25 (Or.inl ne_a1_sA)
  have f42 := Fld.other W34 f26 (Or.inl ne_a1_sA)
  have f43 := Fld.other W34 f27 (Or.inl ne_a1_sA)
  have f44 := Fld.other W34 f28 (Or.inl ne_a1_sA)
  have f45 := f29.other W34 ne_wA_sA
  have f46 := f18.other W34 ne_bA_sA
  have f47 := f31.other W34 (Ne.symm ne_sA_hA)
  have K34 : Keep h0 h34 [a1, wA, bA, sA, hA] := K18.wr W34 (Or.inl (List.mem_of_getElem? (i := 3) rfl))
  have Z34 := Nat.le_trans Z18 (Nat.le_of_eq W34.size.symm)
  have N34 := Fr.snoc X34 N18 g_sA
  refine own_s T34 (mkF m 27 #[rv a1, iv 0, .val (.double (FP.l2d nw)), v_, .val (.double (FP.l2d nb)), v_] []) st34 ?_
  refine own_s T34 (mkF m 29 #[rv a1, iv 0, .val (.double (FP.l2d nw)), v_, .val (.double (FP.l2d nb)), v_] [(.double (FP.l2d nb))]) (fun _ k => XS.dload X34.here hx rfl (hb hby own_da0F_27) rfl  k) ?_
  have mg48 := own_mgLit (0 : Int64) (K := 0) rfl rfl
  refine own_s T34 (mkF m 59 #[rv a1, iv 0, .val (.double (FP.l2d nw)), v_, .val (.double (FP.l2d nb)), v_] []) (fun _ k => XS.dconst0 X34.here hx rfl (hb hby own_da0F_29) own_dc0 (XS.dcmpS X34.here hx rfl (hb hby own_da0F_30) rfl (dcmpV_w (own_mgB m_nb (by decide)) (own_mgB mg48 (by decide)) _) (XS.ifYes X34.here hx rfl (pc0 := 31) (pc' := 59) rfl (hb hby own_da0F_31) rfl ((if0 _ _).trans (flt (own_lcgtN hnb)).2.2.2) (by decide) (by decide) k))) ?_
  exact own_finV X34 hx hret (hb hby own_da0F_59) (own_end (Qv := (own_Qa0F Z a1 wA bA sA hA kw kb ks kh reach w0 w1 b0 b1 s0 s1 t0 t1 fg rk bs sz nw nb h0 n0)) X34 (fun _ => rfl) hlk (by decide) (by decide) e34 ⟨rfl, N34, K34, ⟨f35, f36, f37, f38, f39, f40, f41, f42, f43, f44, f45, f46, f34, f47⟩⟩)
theorem own_da1Z_0 : decode prog_47_method_3_code 0 = .ok (.aload_n 0, 1) := by decide +kernel
theorem own_da1Z_1 : decode prog_47_method_3_code 1 = .ok (.getfield 13, 3) := by decide +kernel
theorem own_da1Z_4 : decode prog_47_method_3_code 4 = .ok (.iload_n 1, 1) := by decide +kernel
theorem own_da1Z_5 : decode prog_47_method_3_code 5 = .ok (.dload_n 2, 1) := by decide +kernel
theorem own_da1Z_6 : decode prog_47_method_3_code 6 = .ok (.dastore, 1) := by decide +kernel
theorem own_da1Z_7 : decode prog_47_method_3_code 7 = .ok (.aload_n 0, 1) := by decide +kernel
theorem own_da1Z_8 : decode prog_47_method_3_code 8 = .ok (.getfield 17, 3) := by decide +kernel
theorem own_da1Z_11 : decode prog_47_method_3_code 11 = .ok (.iload_n 1, 1) := by decide +kernel
theorem own_da1Z_12 : decode prog_47_method_3_code 12 = .ok (.dload 4, 2) := by decide +kernel
theorem own_da1Z_14 : decode prog_47_method_3_code 14 = .ok (.dastore, 1) := by decide +kernel
theorem own_da1Z_15 : decode prog_47_method_3_code 15 = .ok (.aload_n 0, 1) := by decide +kernel
theorem own_da1Z_16 : decode prog_47_method_3_code 16 = .ok (.getfield 20, 3) := by decide +kernel
theorem own_da1Z_19 : decode prog_47_method_3_code 19 = .ok (.iload_n 1, 1) := by decide +kernel
theorem own_da1Z_20 : decode prog_47_method_3_code 20 = .ok (.aload_n 0, 1) := by decide +kernel
theorem own_da1Z_21 : decode prog_47_method_3_code 21 = .ok (.getfield 34, 3) := by decide +kernel
theorem own_da1Z_24 : decode prog_47_method_3_code 24 = .ok (.lconst 1, 1) := by decide +kernel
theorem own_da1Z_25 : decode prog_47_method_3_code 25 = .ok (.lsub, 1) := by decide +kernel
theorem own_da1Z_26 : decode prog_47_method_3_code 26 = .ok (.lastore, 1) := by decide +kernel
theorem own_da1Z_27 : decode prog_47_method_3_code 27 = .ok (.dload 4, 2) := by decide +kernel
theorem own_da1Z_29 : decode prog_47_method_3_code 29 = .ok (.dconst 0, 1) := by decide +kernel
theorem own_da1Z_30 : decode prog_47_method_3_code 30 = .ok (.dcmp .l, 1) := by decide +kernel
theorem own_da1Z_31 : decode prog_47_method_3_code 31 = .ok (.ifCond .le 28, 3) := by decide +kernel
theorem own_da1Z_34 : decode prog_47_method_3_code 34 = .ok (.aload_n 0, 1) := by decide +kernel
theorem own_da1Z_35 : decode prog_47_method_3_code 35 = .ok (.getfield 24, 3) := by decide +kernel
theorem own_da1Z_38 : decode prog_47_method_3_code 38 = .ok (.aload_n 0, 1) := by decide +kernel
theorem own_da1Z_39 : decode prog_47_method_3_code 39 = .ok (.getfield 31, 3) := by decide +kernel
theorem own_da1Z_42 : decode prog_47_method_3_code 42 = .ok (.iload_n 1, 1) := by decide +kernel
theorem own_da1Z_43 : decode prog_47_method_3_code 43 = .ok (.iastore, 1) := by decide +kernel
theorem own_da1Z_44 : decode prog_47_method_3_code 44 = .ok (.aload_n 0, 1) := by decide +kernel
theorem own_da1Z_45 : decode prog_47_method_3_code 45 = .ok (.aload_n 0, 1) := by decide +kernel
theorem own_da1Z_46 : decode prog_47_method_3_code 46 = .ok (.dup, 1) := by decide +kernel
theorem own_da1Z_47 : decode prog_47_method_3_code 47 = .ok (.getfield 31, 3) := by decide +kernel
theorem own_da1Z_50 : decode prog_47_method_3_code 50 = .ok (.dup_x1, 1) := by decide +kernel
theorem own_da1Z_51 : decode prog_47_method_3_code 51 = .ok (.iconst 1, 1) := by decide +kernel
theorem own_da1Z_52 : decode prog_47_method_3_code 52 = .ok (.iadd, 1) := by decide +kernel
theorem own_da1Z_53 : decode prog_47_method_3_code 53 = .ok (.putfield 31, 3) := by decide +kernel
theorem own_da1Z_56 : decode prog_47_method_3_code 56 = .ok (.invokevirtual 38, 3) := by decide +kernel
theorem own_da1Z_59 : decode prog_47_method_3_code 59 = .ok (.return_, 1) := by decide +kernel
theorem own_efa1Z (m : MethodId) (x0 : Addr) (x1 : Int32) (x2 : UInt64) (x3 : UInt64) : entryFrame m #[(.ref x0), (.int x1), (.double x2), (.double x3)] 6 = mkF m 0 #[rv x0, iv x1, .val (.double x2), v_, .val (.double x3), v_] [] := by first | (simp [entryFrame, mkF, argsToLocals, Value.category]; done) | rfl
def own_Qa1Z (Z : State) (a1 : Addr) (wA bA sA hA : Addr) (kw kb ks kh : ClassId) (reach : Int32) (w0 : Int64) (w1 : Int64) (b0 : Int64) (b1 : Int64) (s0 : Int64) (s1 : Int64) (t0 : Int32) (t1 : Int32) (fg : Int64) (rk : Int32) (bs : Int32) (nw nb : Int64) (h0 : Heap) (n0 : Nat) : Option Value → Heap → List Loc → Prop := fun v h L => v = none ∧ Fr n0 L ∧ Keep h0 h [a1, wA, bA, sA, hA] ∧ own_CQ Z h a1 wA bA sA hA kw kb ks kh reach w0 nw b0 nb s0 (fg - (1 : Int64)) (1 : Int32) t1 fg rk bs (1 : Int32)
def own_Ra1Z : Room := { frames := 1, cells := 0, slots := 0, locals := 16 }
set_option maxRecDepth 65536 in
set_option maxHeartbeats 40000000 in
theorem own_rma1Z (l : Launch) (Z : State) (a0 : Array Value) (hw : ∀ d ∈ tables_1, d.before a0 Z = true) (ws : List Jvm.Cond) (a1 : Addr) (wA bA sA hA : Addr) (kw kb ks kh : ClassId) (reach : Int32) (w0 : Int64) (w1 : Int64) (b0 : Int64) (b1 : Int64) (s0 : Int64) (s1 : Int64) (t0 : Int32) (t1 : Int32) (fg : Int64) (rk : Int32) (bs : Int32) (nw nb : Int64) (h0 : Heap) (n0 : Nat) (Z0 : n0 ≤ h0.size) (hCQ : own_CQ Z h0 a1 wA bA sA hA kw kb ks kh reach w0 w1 b0 b1 s0 s1 t0 t1 fg rk bs (0 : Int32)) (hNE : own_NE a1 wA bA sA hA) (hGE : own_GE n0 a1 wA bA sA hA) (m_w0 : own_Mg 8 w0) (m_w1 : own_Mg 8 w1) (m_b0 : own_Mg 8 b0) (m_b1 : own_Mg 8 b1) (m_nw : own_Mg 8 nw) (m_nb : own_Mg 8 nb) (hnb : (0 : Int64) < nb) :
    own_Met l Z own_y5 prog_47_method_3_code 6 none ws own_Ra1Z h0 #[(.ref a1), (.int 1), (.double (FP.l2d nw)), (.double (FP.l2d nb))] (own_Qa1Z Z a1 wA bA sA hA kw kb ks kh reach w0 w1 b0 b1 s0 s1 t0 t1 fg rk bs nw nb h0 n0) own_Ra1Z.cells own_Ra1Z.slots := by
  refine own_start (plainFor_of_name own_pn0) ?_
  intro p e s m below meth c s₁ X0 hx hZ hby hml hret hlk hown hnm e0
  have hown : s.vm.findClass "com/example/allotrope/allotrope/procure/CoverQueue" = some m.cls := hown
  have hml : c.maxLocals = 6 := hml
  have N0 := Fr.nil n0
  refine own_cast (own_efa1Z m a1 (1 : Int32) (FP.l2d nw) (FP.l2d nb)) ?_
  obtain ⟨ne_a1_wA, ne_a1_bA, ne_a1_sA, ne_a1_hA, ne_wA_bA, ne_wA_sA, ne_wA_hA, ne_bA_sA, ne_bA_hA, ne_sA_hA⟩ := id hNE
  obtain ⟨g_a1, g_wA, g_bA, g_sA, g_hA⟩ := id hGE
  obtain ⟨u1_0, u1_1, u1_2, u1_3, u1_4, u1_5, u1_6, u1_7, u1_8, u1_9, u1_10, u1_11, u1_12, u1_13⟩ := id hCQ
  refine own_s s₁ (mkF m 1 #[rv a1, iv 1, .val (.double (FP.l2d nw)), v_, .val (.double (FP.l2d nb)), v_] [(.ref a1)]) (fun _ k => XS.aloadN X0.here hx rfl (hb hby own_da1Z_0) rfl rfl k) ?_
  obtain ⟨T2, X2, e2, st2⟩ := getF X0 hx hZ hown (host := "") (Or.inl (own_h hw 12 rfl)) Via.refl e0 u1_2 (g := (mkF m 1 #[rv a1, iv 1, .val (.double (FP.l2d nw)), v_, .val (.double (FP.l2d nb)), v_] [(.ref a1)])) rfl rfl (hb hby own_da1Z_1)
  refine own_s T2 (mkF m 4 #[rv a1, iv 1, .val (.double (FP.l2d nw)), v_, .val (.double (FP.l2d nb)), v_] [(.ref wA)]) st2 ?_
  refine own_s T2 (mkF m 6 #[rv a1, iv 1, .val (.double (FP.l2d nw)), v_, .val (.double (FP.l2d nb)), v_] [(.double (FP.l2d nw)), (.int 1), (.ref wA)]) (fun _ k => XS.iloadN X2.here hx rfl (hb hby own_da1Z_4) rfl  (XS.dloadN X2.here hx rfl (hb hby own_da1Z_5) rfl  k)) ?_
  obtain ⟨cl3, Ar3, q3, S3, Nn3, H3, G3⟩ := id u1_10
  have hin3 : ¬ ((1 : Int32) < 0 ∨ cl3.slots.size ≤ ((1 : Int32)).toNatClampNeg) := (inb_of S3 ⟨by decide, by decide⟩)
  obtain ⟨T3, h3, X3, e3, W3, st3⟩ := stD X2 hx hZ e2 Ar3 (j := (1 : Int32)) hin3 (g := (mkF m 6 #[rv a1, iv 1, .val (.double (FP.l2d nw)), v_, .val (.double (FP.l2d nb)), v_] [(.double (FP.l2d nw)), (.int 1), (.ref wA)])) rfl rfl (hb hby own_da1Z_6)
  have f3 : Arv Z h3 wA kw .double (2 : Int32) [(.double (FP.l2d w0)), (.double (FP.l2d nw))] (.double (FP.l2d 0)) := Arv.set Ar3 q3 S3 Nn3 H3 G3 rfl W3 1 rfl (Nat.le_of_ble_eq_true rfl)
  have f4 := Exa.wr W3 u1_0
  have f5 := Fld.other W3 u1_1 (Or.inl ne_a1_wA)
  have f6 := Fld.other W3 u1_2 (Or.inl ne_a1_wA)
  have f7 := Fld.other W3 u1_3 (Or.inl ne_a1_wA)
  have f8 := Fld.other W3 u1_4 (Or.inl ne_a1_wA)
  have f9 := Fld.other W3 u1_5 (Or.inl ne_a1_wA)
  have f10 := Fld.other W3 u1_6 (Or.inl ne_a1_wA)
  have f11 := Fld.other W3 u1_7 (Or.inl ne_a1_wA)
  have f12 := Fld.other W3 u1_8 (Or.inl ne_a1_wA)
  have f13 := Fld.other W3 u1_9 (Or.inl ne_a1_wA)
  have f14 := u1_11.other W3 (Ne.symm ne_wA_bA)
  have f15 := u1_12.other W3 (Ne.symm ne_wA_sA)
  have f16 := u1_13.other W3 (Ne.symm ne_wA_hA)
  have K3 : Keep h0 h3 [a1, wA, bA, sA, hA] := (Keep.refl h0 [a1, wA, bA, sA, hA]).wr W3 (Or.inl (List.mem_of_getElem? (i := 1) rfl))
  have Z3 := Nat.le_trans Z0 (Nat.le_of_eq W3.size.symm)
  have N3 := Fr.snoc X3 N0 g_wA
  refine own_s T3 (mkF m 7 #[rv a1, iv 1, .val (.double (FP.l2d nw)), v_, .val (.double (FP.l2d nb)), v_] []) st3 ?_
  refine own_s T3 (mkF m 8 #[rv a1, iv 1, .val (.double (FP.l2d nw)), v_, .val (.double (FP.l2d nb)), v_] [(.ref a1)]) (fun _ k => XS.aloadN X3.here hx rfl (hb hby own_da1Z_7) rfl rfl k) ?_
  obtain ⟨T17, X17, e17, st17⟩ := getF X3 hx hZ hown (host := "") (Or.inl (own_h hw 14 rfl)) Via.refl e3 f7 (g := (mkF m 8 #[rv a1, iv 1, .val (.double (FP.l2d nw)), v_, .val (.double (FP.l2d nb)), v_] [(.ref a1)])) rfl rfl (hb hby own_da1Z_8)
  refine own_s T17 (mkF m 11 #[rv a1, iv 1, .val (.double (FP.l2d nw)), v_, .val (.double (FP.l2d nb)), v_] [(.ref bA)]) st17 ?_
  refine own_s T17 (mkF m 14 #[rv a1, iv 1, .val (.double (FP.l2d nw)), v_, .val (.double (FP.l2d nb)), v_] [(.double (FP.l2d nb)), (.int 1), (.ref bA)]) (fun _ k => XS.iloadN X17.here hx rfl (hb hby own_da1Z_11) rfl  (XS.dload X17.here hx rfl (hb hby own_da1Z_12) rfl  k)) ?_
  obtain ⟨cl18, Ar18, q18, S18, Nn18, H18, G18⟩ := id f14
  have hin18 : ¬ ((1 : Int32) < 0 ∨ cl18.slots.size ≤ ((1 : Int32)).toNatClampNeg) := (inb_of S18 ⟨by decide, by decide⟩)
  obtain ⟨T18, h18, X18, e18, W18, st18⟩ := stD X17 hx hZ e17 Ar18 (j := (1 : Int32)) hin18 (g := (mkF m 14 #[rv a1, iv 1, .val (.double (FP.l2d nw)), v_, .val (.double (FP.l2d nb)), v_] [(.double (FP.l2d nb)), (.int 1), (.ref bA)])) rfl rfl (hb hby own_da1Z_14)
  have f18 : Arv Z h18 bA kb .double (2 : Int32) [(.double (FP.l2d b0)), (.double (FP.l2d nb))] (.double (FP.l2d 0)) := Arv.set Ar18 q18 S18 Nn18 H18 G18 rfl W18 1 rfl (Nat.le_of_ble_eq_true rfl)
  have f19 := Exa.wr W18 f4
  have f20 := Fld.other W18 f5 (Or.inl ne_a1_bA)
  have f21 := Fld.other W18 f6 (Or.inl ne_a1_bA)
  have f22 := Fld.other W18 f7 (Or.inl ne_a1_bA)
  have f23 := Fld.other W18 f8 (Or.inl ne_a1_bA)
  have f24 := Fld.other W18 f9 (Or.inl ne_a1_bA)
  have f25 := Fld.other W18 f10 (Or.inl ne_a1_bA)
  have f26 := Fld.other W18 f11 (Or.inl ne_a1_bA)
  have f27 := Fld.other W18 f12 (Or.inl ne_a1_bA)
  have f28 := Fld.other W18 f13 (Or.inl ne_a1_bA)
  have f29 := f3.other W18 ne_wA_bA
  have f30 := f15.other W18 (Ne.symm ne_bA_sA)
  have f31 := f16.other W18 (Ne.symm ne_bA_hA)
  have K18 : Keep h0 h18 [a1, wA, bA, sA, hA] := K3.wr W18 (Or.inl (List.mem_of_getElem? (i := 2) rfl))
  have Z18 := Nat.le_trans Z3 (Nat.le_of_eq W18.size.symm)
  have N18 := Fr.snoc X18 N3 g_bA
  refine own_s T18 (mkF m 15 #[rv a1, iv 1, .val (.double (FP.l2d nw)), v_, .val (.double (FP.l2d nb)), v_] []) st18 ?_
  refine own_s T18 (mkF m 16 #[rv a1, iv 1, .val (.double (FP.l2d nw)), v_, .val (.double (FP.l2d nb)), v_] [(.ref a1)]) (fun _ k => XS.aloadN X18.here hx rfl (hb hby own_da1Z_15) rfl rfl k) ?_
  obtain ⟨T32, X32, e32, st32⟩ := getF X18 hx hZ hown (host := "") (Or.inl (own_h hw 17 rfl)) Via.refl e18 f23 (g := (mkF m 16 #[rv a1, iv 1, .val (.double (FP.l2d nw)), v_, .val (.double (FP.l2d nb)), v_] [(.ref a1)])) rfl rfl (hb hby own_da1Z_16)
  refine own_s T32 (mkF m 19 #[rv a1, iv 1, .val (.double (FP.l2d nw)), v_, .val (.double (FP.l2d nb)), v_] [(.ref sA)]) st32 ?_
  refine own_s T32 (mkF m 21 #[rv a1, iv 1, .val (.double (FP.l2d nw)), v_, .val (.double (FP.l2d nb)), v_] [(.ref a1), (.int 1), (.ref sA)]) (fun _ k => XS.iloadN X32.here hx rfl (hb hby own_da1Z_19) rfl  (XS.aloadN X32.here hx rfl (hb hby own_da1Z_20) rfl rfl k)) ?_
  obtain ⟨T33, X33, e33, st33⟩ := getF X32 hx hZ hown (host := "") (Or.inl (own_h hw 32 rfl)) Via.refl e32 f25 (g := (mkF m 21 #[rv a1, iv 1, .val (.double (FP.l2d nw)), v_, .val (.double (FP.l2d nb)), v_] [(.ref a1), (.int 1), (.ref sA)])) rfl rfl (hb hby own_da1Z_21)
  refine own_s T33 (mkF m 24 #[rv a1, iv 1, .val (.double (FP.l2d nw)), v_, .val (.double (FP.l2d nb)), v_] [(.long fg), (.int 1), (.ref sA)]) st33 ?_
  refine own_s T33 (mkF m 26 #[rv a1, iv 1, .val (.double (FP.l2d nw)), v_, .val (.double (FP.l2d nb)), v_] [(.long (fg - (1 : Int64))), (.int 1), (.ref sA)]) (fun _ k => XS.lconst X33.here hx rfl (hb hby own_da1Z_24) (XS.lsub X33.here hx rfl (hb hby own_da1Z_25) rfl k)) ?_
  obtain ⟨cl34, Ar34, q34, S34, Nn34, H34, G34⟩ := id f30
  have hin34 : ¬ ((1 : Int32) < 0 ∨ cl34.slots.size ≤ ((1 : Int32)).toNatClampNeg) := (inb_of S34 ⟨by decide, by decide⟩)
  obtain ⟨T34, h34, X34, e34, W34, st34⟩ := stJ X33 hx hZ e33 Ar34 (j := (1 : Int32)) hin34 (g := (mkF m 26 #[rv a1, iv 1, .val (.double (FP.l2d nw)), v_, .val (.double (FP.l2d nb)), v_] [(.long (fg - (1 : Int64))), (.int 1), (.ref sA)])) rfl rfl (hb hby own_da1Z_26)
  have f34 : Arv Z h34 sA ks .long (2 : Int32) [(.long s0), (.long (fg - (1 : Int64)))] (.long 0) := Arv.set Ar34 q34 S34 Nn34 H34 G34 rfl W34 1 rfl (Nat.le_of_ble_eq_true rfl)
  have f35 := Exa.wr W34 f19
  have f36 := Fld.other W34 f20 (Or.inl ne_a1_sA)
  have f37 := Fld.other W34 f21 (Or.inl ne_a1_sA)
  have f38 := Fld.other W34 f22 (Or.inl ne_a1_sA)
  have f39 := Fld.other W34 f23 (Or.inl ne_a1_sA)
  have f40 := Fld.other W34 f24 (Or.inl ne_a1_sA)
  have f41 := Fld.other W34 f25 (Or.inl ne_a1_sA)
  have f42 := Fld.other W34 f26 (Or.inl ne_a1_sA)
  have f43 := Fld.other W34 f27 (Or.inl ne_a1_sA)
  have f44 := Fld.other W34 f28 (Or.inl ne_a1_sA)
  have f45 := f29.other W34 ne_wA_sA
  have f46 := f18.other W34 ne_bA_sA
  have f47 := f31.other W34 (Ne.symm ne_sA_hA)
  have K34 : Keep h0 h34 [a1, wA, bA, sA, hA] := K18.wr W34 (Or.inl (List.mem_of_getElem? (i := 3) rfl))
  have Z34 := Nat.le_trans Z18 (Nat.le_of_eq W34.size.symm)
  have N34 := Fr.snoc X34 N18 g_sA
  refine own_s T34 (mkF m 27 #[rv a1, iv 1, .val (.double (FP.l2d nw)), v_, .val (.double (FP.l2d nb)), v_] []) st34 ?_
  refine own_s T34 (mkF m 29 #[rv a1, iv 1, .val (.double (FP.l2d nw)), v_, .val (.double (FP.l2d nb)), v_] [(.double (FP.l2d nb))]) (fun _ k => XS.dload X34.here hx rfl (hb hby own_da1Z_27) rfl  k) ?_
  have mg48 := own_mgLit (0 : Int64) (K := 0) rfl rfl
  refine own_s T34 (mkF m 35 #[rv a1, iv 1, .val (.double (FP.l2d nw)), v_, .val (.double (FP.l2d nb)), v_] [(.ref a1)]) (fun _ k => XS.dconst0 X34.here hx rfl (hb hby own_da1Z_29) own_dc0 (XS.dcmpS X34.here hx rfl (hb hby own_da1Z_30) rfl (dcmpV_w (own_mgB m_nb (by decide)) (own_mgB mg48 (by decide)) _) (XS.ifNo X34.here hx rfl (hb hby own_da1Z_31) rfl ((if0 _ _).trans (tlt (own_lcgt hnb)).2.2.2) (XS.aloadN X34.here hx rfl (hb hby own_da1Z_34) rfl rfl k)))) ?_
  obtain ⟨T49, X49, e49, st49⟩ := getF X34 hx hZ hown (host := "") (Or.inl (own_h hw 20 rfl)) Via.refl e34 f40 (g := (mkF m 35 #[rv a1, iv 1, .val (.double (FP.l2d nw)), v_, .val (.double (FP.l2d nb)), v_] [(.ref a1)])) rfl rfl (hb hby own_da1Z_35)
  refine own_s T49 (mkF m 38 #[rv a1, iv 1, .val (.double (FP.l2d nw)), v_, .val (.double (FP.l2d nb)), v_] [(.ref hA)]) st49 ?_
  refine own_s T49 (mkF m 39 #[rv a1, iv 1, .val (.double (FP.l2d nw)), v_, .val (.double (FP.l2d nb)), v_] [(.ref a1), (.ref hA)]) (fun _ k => XS.aloadN X49.here hx rfl (hb hby own_da1Z_38) rfl rfl k) ?_
  obtain ⟨T50, X50, e50, st50⟩ := getF X49 hx hZ hown (host := "") (Or.inl (own_h hw 38 rfl)) Via.refl e49 f44 (g := (mkF m 39 #[rv a1, iv 1, .val (.double (FP.l2d nw)), v_, .val (.double (FP.l2d nb)), v_] [(.ref a1), (.ref hA)])) rfl rfl (hb hby own_da1Z_39)
  refine own_s T50 (mkF m 42 #[rv a1, iv 1, .val (.double (FP.l2d nw)), v_, .val (.double (FP.l2d nb)), v_] [(.int 0), (.ref hA)]) st50 ?_
  refine own_s T50 (mkF m 43 #[rv a1, iv 1, .val (.double (FP.l2d nw)), v_, .val (.double (FP.l2d nb)), v_] [(.int 1), (.int 0), (.ref hA)]) (fun _ k => XS.iloadN X50.here hx rfl (hb hby own_da1Z_42) rfl  k) ?_
  obtain ⟨cl51, Ar51, q51, S51, Nn51, H51, G51⟩ := id f47
  have hin51 : ¬ ((0 : Int32) < 0 ∨ cl51.slots.size ≤ ((0 : Int32)).toNatClampNeg) := (inb_of S51 ⟨by decide, by decide⟩)
  obtain ⟨T51, h51, X51, e51, W51, st51⟩ := stI X50 hx hZ e50 Ar51 (j := (0 : Int32)) hin51 (g := (mkF m 43 #[rv a1, iv 1, .val (.double (FP.l2d nw)), v_, .val (.double (FP.l2d nb)), v_] [(.int 1), (.int 0), (.ref hA)])) rfl rfl (hb hby own_da1Z_43)
  have f51 : Arv Z h51 hA kh .int (2 : Int32) [(.int 1), (.int t1)] (.int 0) := Arv.set Ar51 q51 S51 Nn51 H51 G51 rfl W51 0 rfl (Nat.le_of_ble_eq_true rfl)
  have f52 := Exa.wr W51 f35
  have f53 := Fld.other W51 f36 (Or.inl ne_a1_hA)
  have f54 := Fld.other W51 f37 (Or.inl ne_a1_hA)
  have f55 := Fld.other W51 f38 (Or.inl ne_a1_hA)
  have f56 := Fld.other W51 f39 (Or.inl ne_a1_hA)
  have f57 := Fld.other W51 f40 (Or.inl ne_a1_hA)
  have f58 := Fld.other W51 f41 (Or.inl ne_a1_hA)
  have f59 := Fld.other W51 f42 (Or.inl ne_a1_hA)
  have f60 := Fld.other W51 f43 (Or.inl ne_a1_hA)
  have f61 := Fld.other W51 f44 (Or.inl ne_a1_hA)
  have f62 := f45.other W51 ne_wA_hA
  have f63 := f46.other W51 ne_bA_hA
  have f64 := f34.other W51 ne_sA_hA
  have K51 : Keep h0 h51 [a1, wA, bA, sA, hA] := K34.wr W51 (Or.inl (List.mem_of_getElem? (i := 4) rfl))
  have Z51 := Nat.le_trans Z34 (Nat.le_of_eq W51.size.symm)
  have N51 := Fr.snoc X51 N34 g_hA
  refine own_s T51 (mkF m 44 #[rv a1, iv 1, .val (.double (FP.l2d nw)), v_, .val (.double (FP.l2d nb)), v_] []) st51 ?_
  refine own_s T51 (mkF m 47 #[rv a1, iv 1, .val (.double (FP.l2d nw)), v_, .val (.double (FP.l2d nb)), v_] [(.ref a1), (.ref a1), (.ref a1)]) (fun _ k => XS.aloadN X51.here hx rfl (hb hby own_da1Z_44) rfl rfl (XS.aloadN X51.here hx rfl (hb hby own_da1Z_45) rfl rfl (XS.dup X51.here hx rfl (hb hby own_da1Z_46) rfl rfl k))) ?_
  obtain ⟨T65, X65, e65, st65⟩ := getF X51 hx hZ hown (host := "") (Or.inl (own_h hw 38 rfl)) Via.refl e51 f61 (g := (mkF m 47 #[rv a1, iv 1, .val (.double (FP.l2d nw)), v_, .val (.double (FP.l2d nb)), v_] [(.ref a1), (.ref a1), (.ref a1)])) rfl rfl (hb hby own_da1Z_47)
  refine own_s T65 (mkF m 50 #[rv a1, iv 1, .val (.double (FP.l2d nw)), v_, .val (.double (FP.l2d nb)), v_] [(.int 0), (.ref a1), (.ref a1)]) st65 ?_
  refine own_s T65 (mkF m 53 #[rv a1, iv 1, .val (.double (FP.l2d nw)), v_, .val (.double (FP.l2d nb)), v_] [(.int 1), (.ref a1), (.int 0), (.ref a1)]) (fun _ k => XS.dupX1 X65.here hx rfl (hb hby own_da1Z_50) rfl rfl rfl (XS.iconst X65.here hx rfl (hb hby own_da1Z_51) (XS.iadd X65.here hx rfl (hb hby own_da1Z_52) rfl k))) ?_
  obtain ⟨T66, h66, X66, e66, W66, st66⟩ := putF X65 hx hZ hown (host := "") (Or.inl (own_h hw 38 rfl)) Via.refl e65 f61 f52 (Or.inl (own_h hw 39 rfl)) (own_h hw 1 rfl) (ty := .int) (by decide) rfl rfl (g := (mkF m 53 #[rv a1, iv 1, .val (.double (FP.l2d nw)), v_, .val (.double (FP.l2d nb)), v_] [(.int 1), (.ref a1), (.int 0), (.ref a1)])) rfl rfl (hb hby own_da1Z_53)
  have Fw66 := Fld.same W66 f61
  have f67 := Exa.wr W66 f52
  have f68 := Fld.other W66 f53 (Or.inr (slot_ne (Or.inr (own_h hw 10 rfl)) (Or.inl (own_h hw 39 rfl)) (by decide) (t := .int) (t' := .int) (by decide) (by decide)))
  have f69 := Fld.other W66 f54 (Or.inr (slot_ne (Or.inr (own_h hw 13 rfl)) (Or.inl (own_h hw 39 rfl)) (by decide) (t := (.array .double)) (t' := .int) (by decide) (by decide)))
  have f70 := Fld.other W66 f55 (Or.inr (slot_ne (Or.inr (own_h hw 15 rfl)) (Or.inl (own_h hw 39 rfl)) (by decide) (t := (.array .double)) (t' := .int) (by decide) (by decide)))
  have f71 := Fld.other W66 f56 (Or.inr (slot_ne (Or.inr (own_h hw 18 rfl)) (Or.inl (own_h hw 39 rfl)) (by decide) (t := (.array .long)) (t' := .int) (by decide) (by decide)))
  have f72 := Fld.other W66 f57 (Or.inr (slot_ne (Or.inr (own_h hw 21 rfl)) (Or.inl (own_h hw 39 rfl)) (by decide) (t := (.array .int)) (t' := .int) (by decide) (by decide)))
  have f73 := Fld.other W66 f58 (Or.inr (slot_ne (Or.inl (own_h hw 33 rfl)) (Or.inl (own_h hw 39 rfl)) (by decide) (t := .long) (t' := .int) (by decide) (by decide)))
  have f74 := Fld.other W66 f59 (Or.inr (slot_ne (Or.inl (own_h hw 35 rfl)) (Or.inl (own_h hw 39 rfl)) (by decide) (t := .int) (t' := .int) (by decide) (by decide)))
  have f75 := Fld.other W66 f60 (Or.inr (slot_ne (Or.inl (own_h hw 37 rfl)) (Or.inl (own_h hw 39 rfl)) (by decide) (t := .int) (t' := .int) (by decide) (by decide)))
  have f76 := f62.other W66 (Ne.symm ne_a1_wA)
  have f77 := f63.other W66 (Ne.symm ne_a1_bA)
  have f78 := f64.other W66 (Ne.symm ne_a1_sA)
  have f79 := f51.other W66 (Ne.symm ne_a1_hA)
  have K66 : Keep h0 h66 [a1, wA, bA, sA, hA] := K51.wr W66 (Or.inl (List.mem_of_getElem? (i := 0) rfl))
  have Z66 := Nat.le_trans Z51 (Nat.le_of_eq W66.size.symm)
  have N66 := Fr.snoc X66 N51 g_a1
  refine own_s T66 (mkF m 56 #[rv a1, iv 1, .val (.double (FP.l2d nw)), v_, .val (.double (FP.l2d nb)), v_] [(.int 0), (.ref a1)]) st66 ?_
  obtain ⟨v80, T80, L80, X80, hQ80, st80⟩ := own_callP X66 hx hZ (y := own_y1) (W := 0) (a := a1) hown (own_h hw 51 rfl) (own_h hw 52 rfl) (own_h hw 1 rfl) (own_h hw 53 rfl) (own_h hw 2 rfl) (own_h hw 54 rfl) (by decide) (own_rmr0 l Z a0 hw [] a1 wA bA sA hA kw kb ks kh reach w0 nw b0 nb s0 (fg - (1 : Int64)) (1 : Int32) t1 fg rk bs (1 : Int32) h66 n0 Z66 ⟨f67, f68, f69, f70, f71, f72, f73, f74, f75, Fw66, f76, f77, f78, f79⟩ hNE hGE m_w0 m_nw m_b0 m_nb) (by decide) (by decide) f67 (g := (mkF m 56 #[rv a1, iv 1, .val (.double (FP.l2d nw)), v_, .val (.double (FP.l2d nb)), v_] [(.int 0), (.ref a1)])) rfl (by rw [hml]; rfl) (argsL := [(.int 0)]) (rest := []) rfl (lenOf own_pd2 rfl) rfl (by show 2 * 0 + _ ≤ _; exact Nat.le_of_eq rfl) (hb hby own_da1Z_56) e66 (by decide) (by decide)
  obtain ⟨rfl, Nq80, Kq80, hq80⟩ := hQ80
  have N80 := Fr.app N66 Nq80
  have K80 : Keep h0 T80.heap [a1, wA, bA, sA, hA] := K66.trans Kq80 (allS (Or.inl (List.mem_of_getElem? (i := 0) rfl)) (allS (Or.inl (List.mem_of_getElem? (i := 1) rfl)) (allS (Or.inl (List.mem_of_getElem? (i := 2) rfl)) (allS (Or.inl (List.mem_of_getElem? (i := 3) rfl)) (allS (Or.inl (List.mem_of_getElem? (i := 4) rfl)) all0)))))
  have Z80 := Nat.le_trans Z66 Kq80.1
  obtain ⟨u81_0, u81_1, u81_2, u81_3, u81_4, u81_5, u81_6, u81_7, u81_8, u81_9, u81_10, u81_11, u81_12, u81_13⟩ := id hq80
  refine own_s T80 (mkF m 59 #[rv a1, iv 1, .val (.double (FP.l2d nw)), v_, .val (.double (FP.l2d nb)), v_] []) st80 ?_
  exact own_finV X80 hx hret (hb hby own_da1Z_59) (own_end (Qv := (own_Qa1Z Z a1 wA bA sA hA kw kb ks kh reach w0 w1 b0 b1 s0 s1 t0 t1 fg rk bs nw nb h0 n0)) X80 (fun _ => rfl) hlk (by decide) (by decide) rfl ⟨rfl, N80, K80, ⟨u81_0, u81_1, u81_2, u81_3, u81_4, u81_5, u81_6, u81_7, u81_8, u81_9, u81_10, u81_11, u81_12, u81_13⟩⟩)
theorem own_da1F_0 : decode prog_47_method_3_code 0 = .ok (.aload_n 0, 1) := by decide +kernel
theorem own_da1F_1 : decode prog_47_method_3_code 1 = .ok (.getfield 13, 3) := by decide +kernel
theorem own_da1F_4 : decode prog_47_method_3_code 4 = .ok (.iload_n 1, 1) := by decide +kernel
theorem own_da1F_5 : decode prog_47_method_3_code 5 = .ok (.dload_n 2, 1) := by decide +kernel
theorem own_da1F_6 : decode prog_47_method_3_code 6 = .ok (.dastore, 1) := by decide +kernel
theorem own_da1F_7 : decode prog_47_method_3_code 7 = .ok (.aload_n 0, 1) := by decide +kernel
theorem own_da1F_8 : decode prog_47_method_3_code 8 = .ok (.getfield 17, 3) := by decide +kernel
theorem own_da1F_11 : decode prog_47_method_3_code 11 = .ok (.iload_n 1, 1) := by decide +kernel
theorem own_da1F_12 : decode prog_47_method_3_code 12 = .ok (.dload 4, 2) := by decide +kernel
theorem own_da1F_14 : decode prog_47_method_3_code 14 = .ok (.dastore, 1) := by decide +kernel
theorem own_da1F_15 : decode prog_47_method_3_code 15 = .ok (.aload_n 0, 1) := by decide +kernel
theorem own_da1F_16 : decode prog_47_method_3_code 16 = .ok (.getfield 20, 3) := by decide +kernel
theorem own_da1F_19 : decode prog_47_method_3_code 19 = .ok (.iload_n 1, 1) := by decide +kernel
theorem own_da1F_20 : decode prog_47_method_3_code 20 = .ok (.aload_n 0, 1) := by decide +kernel
theorem own_da1F_21 : decode prog_47_method_3_code 21 = .ok (.getfield 34, 3) := by decide +kernel
theorem own_da1F_24 : decode prog_47_method_3_code 24 = .ok (.lconst 1, 1) := by decide +kernel
theorem own_da1F_25 : decode prog_47_method_3_code 25 = .ok (.lsub, 1) := by decide +kernel
theorem own_da1F_26 : decode prog_47_method_3_code 26 = .ok (.lastore, 1) := by decide +kernel
theorem own_da1F_27 : decode prog_47_method_3_code 27 = .ok (.dload 4, 2) := by decide +kernel
theorem own_da1F_29 : decode prog_47_method_3_code 29 = .ok (.dconst 0, 1) := by decide +kernel
theorem own_da1F_30 : decode prog_47_method_3_code 30 = .ok (.dcmp .l, 1) := by decide +kernel
theorem own_da1F_31 : decode prog_47_method_3_code 31 = .ok (.ifCond .le 28, 3) := by decide +kernel
theorem own_da1F_59 : decode prog_47_method_3_code 59 = .ok (.return_, 1) := by decide +kernel
theorem own_efa1F (m : MethodId) (x0 : Addr) (x1 : Int32) (x2 : UInt64) (x3 : UInt64) : entryFrame m #[(.ref x0), (.int x1), (.double x2), (.double x3)] 6 = mkF m 0 #[rv x0, iv x1, .val (.double x2), v_, .val (.double x3), v_] [] := by first | (simp [entryFrame, mkF, argsToLocals, Value.category]; done) | rfl
def own_Qa1F (Z : State) (a1 : Addr) (wA bA sA hA : Addr) (kw kb ks kh : ClassId) (reach : Int32) (w0 : Int64) (w1 : Int64) (b0 : Int64) (b1 : Int64) (s0 : Int64) (s1 : Int64) (t0 : Int32) (t1 : Int32) (fg : Int64) (rk : Int32) (bs : Int32) (sz : Int32) (nw nb : Int64) (h0 : Heap) (n0 : Nat) : Option Value → Heap → List Loc → Prop := fun v h L => v = none ∧ Fr n0 L ∧ Keep h0 h [a1, wA, bA, sA, hA] ∧ own_CQ Z h a1 wA bA sA hA kw kb ks kh reach w0 nw b0 nb s0 (fg - (1 : Int64)) t0 t1 fg rk bs sz
def own_Ra1F : Room := { frames := 0, cells := 0, slots := 0, locals := 0 }
set_option maxRecDepth 65536 in
set_option maxHeartbeats 40000000 in
theorem own_rma1F (l : Launch) (Z : State) (a0 : Array Value) (hw : ∀ d ∈ tables_1, d.before a0 Z = true) (ws : List Jvm.Cond) (a1 : Addr) (wA bA sA hA : Addr) (kw kb ks kh : ClassId) (reach : Int32) (w0 : Int64) (w1 : Int64) (b0 : Int64) (b1 : Int64) (s0 : Int64) (s1 : Int64) (t0 : Int32) (t1 : Int32) (fg : Int64) (rk : Int32) (bs : Int32) (sz : Int32) (nw nb : Int64) (h0 : Heap) (n0 : Nat) (Z0 : n0 ≤ h0.size) (hCQ : own_CQ Z h0 a1 wA bA sA hA kw kb ks kh reach w0 w1 b0 b1 s0 s1 t0 t1 fg rk bs sz) (hNE : own_NE a1 wA bA sA hA) (hGE : own_GE n0 a1 wA bA sA hA) (m_w0 : own_Mg 8 w0) (m_w1 : own_Mg 8 w1) (m_b0 : own_Mg 8 b0) (m_b1 : own_Mg 8 b1) (m_nw : own_Mg 8 nw) (m_nb : own_Mg 8 nb) (hnb : ¬ (0 : Int64) < nb) :
    own_Met l Z own_y5 prog_47_method_3_code 6 none ws own_Ra1F h0 #[(.ref a1), (.int 1), (.double (FP.l2d nw)), (.double (FP.l2d nb))] (own_Qa1F Z a1 wA bA sA hA kw kb ks kh reach w0 w1 b0 b1 s0 s1 t0 t1 fg rk bs sz nw nb h0 n0) own_Ra1F.cells own_Ra1F.slots := by
  refine own_start (plainFor_of_name own_pn0) ?_
  intro p e s m below meth c s₁ X0 hx hZ hby hml hret hlk hown hnm e0
  have hown : s.vm.findClass "com/example/allotrope/allotrope/procure/CoverQueue" = some m.cls := hown
  have hml : c.maxLocals = 6 := hml
  have N0 := Fr.nil n0
  refine own_cast (own_efa1F m a1 (1 : Int32) (FP.l2d nw) (FP.l2d nb)) ?_
  obtain ⟨ne_a1_wA, ne_a1_bA, ne_a1_sA, ne_a1_hA, ne_wA_bA, ne_wA_sA, ne_wA_hA, ne_bA_sA, ne_bA_hA, ne_sA_hA⟩ := id hNE
  obtain ⟨g_a1, g_wA, g_bA, g_sA, g_hA⟩ := id hGE
  obtain ⟨u1_0, u1_1, u1_2, u1_3, u1_4, u1_5, u1_6, u1_7, u1_8, u1_9, u1_10, u1_11, u1_12, u1_13⟩ := id hCQ
  refine own_s s₁ (mkF m 1 #[rv a1, iv 1, .val (.double (FP.l2d nw)), v_, .val (.double (FP.l2d nb)), v_] [(.ref a1)]) (fun _ k => XS.aloadN X0.here hx rfl (hb hby own_da1F_0) rfl rfl k) ?_
  obtain ⟨T2, X2, e2, st2⟩ := getF X0 hx hZ hown (host := "") (Or.inl (own_h hw 12 rfl)) Via.refl e0 u1_2 (g := (mkF m 1 #[rv a1, iv 1, .val (.double (FP.l2d nw)), v_, .val (.double (FP.l2d nb)), v_] [(.ref a1)])) rfl rfl (hb hby own_da1F_1)
  refine own_s T2 (mkF m 4 #[rv a1, iv 1, .val (.double (FP.l2d nw)), v_, .val (.double (FP.l2d nb)), v_] [(.ref wA)]) st2 ?_
  refine own_s T2 (mkF m 6 #[rv a1, iv 1, .val (.double (FP.l2d nw)), v_, .val (.double (FP.l2d nb)), v_] [(.double (FP.l2d nw)), (.int 1), (.ref wA)]) (fun _ k => XS.iloadN X2.here hx rfl (hb hby own_da1F_4) rfl  (XS.dloadN X2.here hx rfl (hb hby own_da1F_5) rfl  k)) ?_
  obtain ⟨cl3, Ar3, q3, S3, Nn3, H3, G3⟩ := id u1_10
  have hin3 : ¬ ((1 : Int32) < 0 ∨ cl3.slots.size ≤ ((1 : Int32)).toNatClampNeg) := (inb_of S3 ⟨by decide, by decide⟩)
  obtain ⟨T3, h3, X3, e3, W3, st3⟩ := stD X2 hx hZ e2 Ar3 (j := (1 : Int32)) hin3 (g := (mkF m 6 #[rv a1, iv 1, .val (.double (FP.l2d nw)), v_, .val (.double (FP.l2d nb)), v_] [(.double (FP.l2d nw)), (.int 1), (.ref wA)])) rfl rfl (hb hby own_da1F_6)
  have f3 : Arv Z h3 wA kw .double (2 : Int32) [(.double (FP.l2d w0)), (.double (FP.l2d nw))] (.double (FP.l2d 0)) := Arv.set Ar3 q3 S3 Nn3 H3 G3 rfl W3 1 rfl (Nat.le_of_ble_eq_true rfl)
  have f4 := Exa.wr W3 u1_0
  have f5 := Fld.other W3 u1_1 (Or.inl ne_a1_wA)
  have f6 := Fld.other W3 u1_2 (Or.inl ne_a1_wA)
  have f7 := Fld.other W3 u1_3 (Or.inl ne_a1_wA)
  have f8 := Fld.other W3 u1_4 (Or.inl ne_a1_wA)
  have f9 := Fld.other W3 u1_5 (Or.inl ne_a1_wA)
  have f10 := Fld.other W3 u1_6 (Or.inl ne_a1_wA)
  have f11 := Fld.other W3 u1_7 (Or.inl ne_a1_wA)
  have f12 := Fld.other W3 u1_8 (Or.inl ne_a1_wA)
  have f13 := Fld.other W3 u1_9 (Or.inl ne_a1_wA)
  have f14 := u1_11.other W3 (Ne.symm ne_wA_bA)
  have f15 := u1_12.other W3 (Ne.symm ne_wA_sA)
  have f16 := u1_13.other W3 (Ne.symm ne_wA_hA)
  have K3 : Keep h0 h3 [a1, wA, bA, sA, hA] := (Keep.refl h0 [a1, wA, bA, sA, hA]).wr W3 (Or.inl (List.mem_of_getElem? (i := 1) rfl))
  have Z3 := Nat.le_trans Z0 (Nat.le_of_eq W3.size.symm)
  have N3 := Fr.snoc X3 N0 g_wA
  refine own_s T3 (mkF m 7 #[rv a1, iv 1, .val (.double (FP.l2d nw)), v_, .val (.double (FP.l2d nb)), v_] []) st3 ?_
  refine own_s T3 (mkF m 8 #[rv a1, iv 1, .val (.double (FP.l2d nw)), v_, .val (.double (FP.l2d nb)), v_] [(.ref a1)]) (fun _ k => XS.aloadN X3.here hx rfl (hb hby own_da1F_7) rfl rfl k) ?_
  obtain ⟨T17, X17, e17, st17⟩ := getF X3 hx hZ hown (host := "") (Or.inl (own_h hw 14 rfl)) Via.refl e3 f7 (g := (mkF m 8 #[rv a1, iv 1, .val (.double (FP.l2d nw)), v_, .val (.double (FP.l2d nb)), v_] [(.ref a1)])) rfl rfl (hb hby own_da1F_8)
  refine own_s T17 (mkF m 11 #[rv a1, iv 1, .val (.double (FP.l2d nw)), v_, .val (.double (FP.l2d nb)), v_] [(.ref bA)]) st17 ?_
  refine own_s T17 (mkF m 14 #[rv a1, iv 1, .val (.double (FP.l2d nw)), v_, .val (.double (FP.l2d nb)), v_] [(.double (FP.l2d nb)), (.int 1), (.ref bA)]) (fun _ k => XS.iloadN X17.here hx rfl (hb hby own_da1F_11) rfl  (XS.dload X17.here hx rfl (hb hby own_da1F_12) rfl  k)) ?_
  obtain ⟨cl18, Ar18, q18, S18, Nn18, H18, G18⟩ := id f14
  have hin18 : ¬ ((1 : Int32) < 0 ∨ cl18.slots.size ≤ ((1 : Int32)).toNatClampNeg) := (inb_of S18 ⟨by decide, by decide⟩)
  obtain ⟨T18, h18, X18, e18, W18, st18⟩ := stD X17 hx hZ e17 Ar18 (j := (1 : Int32)) hin18 (g := (mkF m 14 #[rv a1, iv 1, .val (.double (FP.l2d nw)), v_, .val (.double (FP.l2d nb)), v_] [(.double (FP.l2d nb)), (.int 1), (.ref bA)])) rfl rfl (hb hby own_da1F_14)
  have f18 : Arv Z h18 bA kb .double (2 : Int32) [(.double (FP.l2d b0)), (.double (FP.l2d nb))] (.double (FP.l2d 0)) := Arv.set Ar18 q18 S18 Nn18 H18 G18 rfl W18 1 rfl (Nat.le_of_ble_eq_true rfl)
  have f19 := Exa.wr W18 f4
  have f20 := Fld.other W18 f5 (Or.inl ne_a1_bA)
  have f21 := Fld.other W18 f6 (Or.inl ne_a1_bA)
  have f22 := Fld.other W18 f7 (Or.inl ne_a1_bA)
  have f23 := Fld.other W18 f8 (Or.inl ne_a1_bA)
  have f24 := Fld.other W18 f9 (Or.inl ne_a1_bA)
  have f25 := Fld.other W18 f10 (Or.inl ne_a1_bA)
  have f26 := Fld.other W18 f11 (Or.inl ne_a1_bA)
  have f27 := Fld.other W18 f12 (Or.inl ne_a1_bA)
  have f28 := Fld.other W18 f13 (Or.inl ne_a1_bA)
  have f29 := f3.other W18 ne_wA_bA
  have f30 := f15.other W18 (Ne.symm ne_bA_sA)
  have f31 := f16.other W18 (Ne.symm ne_bA_hA)
  have K18 : Keep h0 h18 [a1, wA, bA, sA, hA] := K3.wr W18 (Or.inl (List.mem_of_getElem? (i := 2) rfl))
  have Z18 := Nat.le_trans Z3 (Nat.le_of_eq W18.size.symm)
  have N18 := Fr.snoc X18 N3 g_bA
  refine own_s T18 (mkF m 15 #[rv a1, iv 1, .val (.double (FP.l2d nw)), v_, .val (.double (FP.l2d nb)), v_] []) st18 ?_
  refine own_s T18 (mkF m 16 #[rv a1, iv 1, .val (.double (FP.l2d nw)), v_, .val (.double (FP.l2d nb)), v_] [(.ref a1)]) (fun _ k => XS.aloadN X18.here hx rfl (hb hby own_da1F_15) rfl rfl k) ?_
  obtain ⟨T32, X32, e32, st32⟩ := getF X18 hx hZ hown (host := "") (Or.inl (own_h hw 17 rfl)) Via.refl e18 f23 (g := (mkF m 16 #[rv a1, iv 1, .val (.double (FP.l2d nw)), v_, .val (.double (FP.l2d nb)), v_] [(.ref a1)])) rfl rfl (hb hby own_da1F_16)
  refine own_s T32 (mkF m 19 #[rv a1, iv 1, .val (.double (FP.l2d nw)), v_, .val (.double (FP.l2d nb)), v_] [(.ref sA)]) st32 ?_
  refine own_s T32 (mkF m 21 #[rv a1, iv 1, .val (.double (FP.l2d nw)), v_, .val (.double (FP.l2d nb)), v_] [(.ref a1), (.int 1), (.ref sA)]) (fun _ k => XS.iloadN X32.here hx rfl (hb hby own_da1F_19) rfl  (XS.aloadN X32.here hx rfl (hb hby own_da1F_20) rfl rfl k)) ?_
  obtain ⟨T33, X33, e33, st33⟩ := getF X32 hx hZ hown (host := "") (Or.inl (own_h hw 32 rfl)) Via.refl e32 f25 (g := (mkF m 21 #[rv a1, iv 1, .val (.double (FP.l2d nw)), v_, .val (.double (FP.l2d nb)), v_] [(.ref a1), (.int 1), (.ref sA)])) rfl rfl (hb hby own_da1F_21)
  refine own_s T33 (mkF m 24 #[rv a1, iv 1, .val (.double (FP.l2d nw)), v_, .val (.double (FP.l2d nb)), v_] [(.long fg), (.int 1), (.ref sA)]) st33 ?_
  refine own_s T33 (mkF m 26 #[rv a1, iv 1, .val (.double (FP.l2d nw)), v_, .val (.double (FP.l2d nb)), v_] [(.long (fg - (1 : Int64))), (.int 1), (.ref sA)]) (fun _ k => XS.lconst X33.here hx rfl (hb hby own_da1F_24) (XS.lsub X33.here hx rfl (hb hby own_da1F_25) rfl k)) ?_
  obtain ⟨cl34, Ar34, q34, S34, Nn34, H34, G34⟩ := id f30
  have hin34 : ¬ ((1 : Int32) < 0 ∨ cl34.slots.size ≤ ((1 : Int32)).toNatClampNeg) := (inb_of S34 ⟨by decide, by decide⟩)
  obtain ⟨T34, h34, X34, e34, W34, st34⟩ := stJ X33 hx hZ e33 Ar34 (j := (1 : Int32)) hin34 (g := (mkF m 26 #[rv a1, iv 1, .val (.double (FP.l2d nw)), v_, .val (.double (FP.l2d nb)), v_] [(.long (fg - (1 : Int64))), (.int 1), (.ref sA)])) rfl rfl (hb hby own_da1F_26)
  have f34 : Arv Z h34 sA ks .long (2 : Int32) [(.long s0), (.long (fg - (1 : Int64)))] (.long 0) := Arv.set Ar34 q34 S34 Nn34 H34 G34 rfl W34 1 rfl (Nat.le_of_ble_eq_true rfl)
  have f35 := Exa.wr W34 f19
  have f36 := Fld.other W34 f20 (Or.inl ne_a1_sA)
  have f37 := Fld.other W34 f21 (Or.inl ne_a1_sA)
  have f38 := Fld.other W34 f22 (Or.inl ne_a1_sA)
  have f39 := Fld.other W34 f23 (Or.inl ne_a1_sA)
  have f40 := Fld.other W34 f24 (Or.inl ne_a1_sA)
  have f41 := Fld.other W34 f25 (Or.inl ne_a1_sA)
  have f42 := Fld.other W34 f26 (Or.inl ne_a1_sA)
  have f43 := Fld.other W34 f27 (Or.inl ne_a1_sA)
  have f44 := Fld.other W34 f28 (Or.inl ne_a1_sA)
  have f45 := f29.other W34 ne_wA_sA
  have f46 := f18.other W34 ne_bA_sA
  have f47 := f31.other W34 (Ne.symm ne_sA_hA)
  have K34 : Keep h0 h34 [a1, wA, bA, sA, hA] := K18.wr W34 (Or.inl (List.mem_of_getElem? (i := 3) rfl))
  have Z34 := Nat.le_trans Z18 (Nat.le_of_eq W34.size.symm)
  have N34 := Fr.snoc X34 N18 g_sA
  refine own_s T34 (mkF m 27 #[rv a1, iv 1, .val (.double (FP.l2d nw)), v_, .val (.double (FP.l2d nb)), v_] []) st34 ?_
  refine own_s T34 (mkF m 29 #[rv a1, iv 1, .val (.double (FP.l2d nw)), v_, .val (.double (FP.l2d nb)), v_] [(.double (FP.l2d nb))]) (fun _ k => XS.dload X34.here hx rfl (hb hby own_da1F_27) rfl  k) ?_
  have mg48 := own_mgLit (0 : Int64) (K := 0) rfl rfl
  refine own_s T34 (mkF m 59 #[rv a1, iv 1, .val (.double (FP.l2d nw)), v_, .val (.double (FP.l2d nb)), v_] []) (fun _ k => XS.dconst0 X34.here hx rfl (hb hby own_da1F_29) own_dc0 (XS.dcmpS X34.here hx rfl (hb hby own_da1F_30) rfl (dcmpV_w (own_mgB m_nb (by decide)) (own_mgB mg48 (by decide)) _) (XS.ifYes X34.here hx rfl (pc0 := 31) (pc' := 59) rfl (hb hby own_da1F_31) rfl ((if0 _ _).trans (flt (own_lcgtN hnb)).2.2.2) (by decide) (by decide) k))) ?_
  exact own_finV X34 hx hret (hb hby own_da1F_59) (own_end (Qv := (own_Qa1F Z a1 wA bA sA hA kw kb ks kh reach w0 w1 b0 b1 s0 s1 t0 t1 fg rk bs sz nw nb h0 n0)) X34 (fun _ => rfl) hlk (by decide) (by decide) e34 ⟨rfl, N34, K34, ⟨f35, f36, f37, f38, f39, f40, f41, f42, f43, f44, f45, f46, f34, f47⟩⟩)
theorem own_da1T_0 : decode prog_47_method_3_code 0 = .ok (.aload_n 0, 1) := by decide +kernel
theorem own_da1T_1 : decode prog_47_method_3_code 1 = .ok (.getfield 13, 3) := by decide +kernel
theorem own_da1T_4 : decode prog_47_method_3_code 4 = .ok (.iload_n 1, 1) := by decide +kernel
theorem own_da1T_5 : decode prog_47_method_3_code 5 = .ok (.dload_n 2, 1) := by decide +kernel
theorem own_da1T_6 : decode prog_47_method_3_code 6 = .ok (.dastore, 1) := by decide +kernel
theorem own_da1T_7 : decode prog_47_method_3_code 7 = .ok (.aload_n 0, 1) := by decide +kernel
theorem own_da1T_8 : decode prog_47_method_3_code 8 = .ok (.getfield 17, 3) := by decide +kernel
theorem own_da1T_11 : decode prog_47_method_3_code 11 = .ok (.iload_n 1, 1) := by decide +kernel
theorem own_da1T_12 : decode prog_47_method_3_code 12 = .ok (.dload 4, 2) := by decide +kernel
theorem own_da1T_14 : decode prog_47_method_3_code 14 = .ok (.dastore, 1) := by decide +kernel
theorem own_da1T_15 : decode prog_47_method_3_code 15 = .ok (.aload_n 0, 1) := by decide +kernel
theorem own_da1T_16 : decode prog_47_method_3_code 16 = .ok (.getfield 20, 3) := by decide +kernel
theorem own_da1T_19 : decode prog_47_method_3_code 19 = .ok (.iload_n 1, 1) := by decide +kernel
theorem own_da1T_20 : decode prog_47_method_3_code 20 = .ok (.aload_n 0, 1) := by decide +kernel
theorem own_da1T_21 : decode prog_47_method_3_code 21 = .ok (.getfield 34, 3) := by decide +kernel
theorem own_da1T_24 : decode prog_47_method_3_code 24 = .ok (.lconst 1, 1) := by decide +kernel
theorem own_da1T_25 : decode prog_47_method_3_code 25 = .ok (.lsub, 1) := by decide +kernel
theorem own_da1T_26 : decode prog_47_method_3_code 26 = .ok (.lastore, 1) := by decide +kernel
theorem own_da1T_27 : decode prog_47_method_3_code 27 = .ok (.dload 4, 2) := by decide +kernel
theorem own_da1T_29 : decode prog_47_method_3_code 29 = .ok (.dconst 0, 1) := by decide +kernel
theorem own_da1T_30 : decode prog_47_method_3_code 30 = .ok (.dcmp .l, 1) := by decide +kernel
theorem own_da1T_31 : decode prog_47_method_3_code 31 = .ok (.ifCond .le 28, 3) := by decide +kernel
theorem own_da1T_34 : decode prog_47_method_3_code 34 = .ok (.aload_n 0, 1) := by decide +kernel
theorem own_da1T_35 : decode prog_47_method_3_code 35 = .ok (.getfield 24, 3) := by decide +kernel
theorem own_da1T_38 : decode prog_47_method_3_code 38 = .ok (.aload_n 0, 1) := by decide +kernel
theorem own_da1T_39 : decode prog_47_method_3_code 39 = .ok (.getfield 31, 3) := by decide +kernel
theorem own_da1T_42 : decode prog_47_method_3_code 42 = .ok (.iload_n 1, 1) := by decide +kernel
theorem own_da1T_43 : decode prog_47_method_3_code 43 = .ok (.iastore, 1) := by decide +kernel
theorem own_da1T_44 : decode prog_47_method_3_code 44 = .ok (.aload_n 0, 1) := by decide +kernel
theorem own_da1T_45 : decode prog_47_method_3_code 45 = .ok (.aload_n 0, 1) := by decide +kernel
theorem own_da1T_46 : decode prog_47_method_3_code 46 = .ok (.dup, 1) := by decide +kernel
theorem own_da1T_47 : decode prog_47_method_3_code 47 = .ok (.getfield 31, 3) := by decide +kernel
theorem own_da1T_50 : decode prog_47_method_3_code 50 = .ok (.dup_x1, 1) := by decide +kernel
theorem own_da1T_51 : decode prog_47_method_3_code 51 = .ok (.iconst 1, 1) := by decide +kernel
theorem own_da1T_52 : decode prog_47_method_3_code 52 = .ok (.iadd, 1) := by decide +kernel
theorem own_da1T_53 : decode prog_47_method_3_code 53 = .ok (.putfield 31, 3) := by decide +kernel
theorem own_da1T_56 : decode prog_47_method_3_code 56 = .ok (.invokevirtual 38, 3) := by decide +kernel
theorem own_da1T_59 : decode prog_47_method_3_code 59 = .ok (.return_, 1) := by decide +kernel
theorem own_efa1T (m : MethodId) (x0 : Addr) (x1 : Int32) (x2 : UInt64) (x3 : UInt64) : entryFrame m #[(.ref x0), (.int x1), (.double x2), (.double x3)] 6 = mkF m 0 #[rv x0, iv x1, .val (.double x2), v_, .val (.double x3), v_] [] := by first | (simp [entryFrame, mkF, argsToLocals, Value.category]; done) | rfl
def own_Qa1T (Z : State) (a1 : Addr) (wA bA sA hA : Addr) (kw kb ks kh : ClassId) (reach : Int32) (w0 : Int64) (w1 : Int64) (b0 : Int64) (b1 : Int64) (s0 : Int64) (s1 : Int64) (t1 : Int32) (fg : Int64) (rk : Int32) (bs : Int32) (nw nb : Int64) (h0 : Heap) (n0 : Nat) : Option Value → Heap → List Loc → Prop := fun v h L => v = none ∧ Fr n0 L ∧ Keep h0 h [a1, wA, bA, sA, hA] ∧ own_CQ Z h a1 wA bA sA hA kw kb ks kh reach w0 nw b0 nb s0 (fg - (1 : Int64)) (1 : Int32) (0 : Int32) fg rk bs (2 : Int32)
def own_Ra1T : Room := { frames := 2, cells := 0, slots := 0, locals := 34 }
set_option maxRecDepth 65536 in
set_option maxHeartbeats 40000000 in
theorem own_rma1T (l : Launch) (Z : State) (a0 : Array Value) (hw : ∀ d ∈ tables_1, d.before a0 Z = true) (ws : List Jvm.Cond) (a1 : Addr) (wA bA sA hA : Addr) (kw kb ks kh : ClassId) (reach : Int32) (w0 : Int64) (w1 : Int64) (b0 : Int64) (b1 : Int64) (s0 : Int64) (s1 : Int64) (t1 : Int32) (fg : Int64) (rk : Int32) (bs : Int32) (nw nb : Int64) (h0 : Heap) (n0 : Nat) (Z0 : n0 ≤ h0.size) (hCQ : own_CQ Z h0 a1 wA bA sA hA kw kb ks kh reach w0 w1 b0 b1 s0 s1 (0 : Int32) t1 fg rk bs (1 : Int32)) (hNE : own_NE a1 wA bA sA hA) (hGE : own_GE n0 a1 wA bA sA hA) (m_w0 : own_Mg 8 w0) (m_w1 : own_Mg 8 w1) (m_b0 : own_Mg 8 b0) (m_b1 : own_Mg 8 b1) (m_nw : own_Mg 8 nw) (m_nb : own_Mg 8 nb) (hnb : (0 : Int64) < nb) (hb0 : (0 : Int64) < b0) (hw0 : ¬ w0 < (0 : Int64)) (hnw : ¬ nw < (0 : Int64)) (hld : (own_ld (nb * w0) (b0 * nw) (1 : Int32) (0 : Int32)) = true) :
    own_Met l Z own_y5 prog_47_method_3_code 6 none ws own_Ra1T h0 #[(.ref a1), (.int 1), (.double (FP.l2d nw)), (.double (FP.l2d nb))] (own_Qa1T Z a1 wA bA sA hA kw kb ks kh reach w0 w1 b0 b1 s0 s1 t1 fg rk bs nw nb h0 n0) own_Ra1T.cells own_Ra1T.slots := by
  refine own_start (plainFor_of_name own_pn0) ?_
  intro p e s m below meth c s₁ X0 hx hZ hby hml hret hlk hown hnm e0
  have hown : s.vm.findClass "com/example/allotrope/allotrope/procure/CoverQueue" = some m.cls := hown
  have hml : c.maxLocals = 6 := hml
  have N0 := Fr.nil n0
  refine own_cast (own_efa1T m a1 (1 : Int32) (FP.l2d nw) (FP.l2d nb)) ?_
  obtain ⟨ne_a1_wA, ne_a1_bA, ne_a1_sA, ne_a1_hA, ne_wA_bA, ne_wA_sA, ne_wA_hA, ne_bA_sA, ne_bA_hA, ne_sA_hA⟩ := id hNE
  obtain ⟨g_a1, g_wA, g_bA, g_sA, g_hA⟩ := id hGE
  obtain ⟨u1_0, u1_1, u1_2, u1_3, u1_4, u1_5, u1_6, u1_7, u1_8, u1_9, u1_10, u1_11, u1_12, u1_13⟩ := id hCQ
  refine own_s s₁ (mkF m 1 #[rv a1, iv 1, .val (.double (FP.l2d nw)), v_, .val (.double (FP.l2d nb)), v_] [(.ref a1)]) (fun _ k => XS.aloadN X0.here hx rfl (hb hby own_da1T_0) rfl rfl k) ?_
  obtain ⟨T2, X2, e2, st2⟩ := getF X0 hx hZ hown (host := "") (Or.inl (own_h hw 12 rfl)) Via.refl e0 u1_2 (g := (mkF m 1 #[rv a1, iv 1, .val (.double (FP.l2d nw)), v_, .val (.double (FP.l2d nb)), v_] [(.ref a1)])) rfl rfl (hb hby own_da1T_1)
  refine own_s T2 (mkF m 4 #[rv a1, iv 1, .val (.double (FP.l2d nw)), v_, .val (.double (FP.l2d nb)), v_] [(.ref wA)]) st2 ?_
  refine own_s T2 (mkF m 6 #[rv a1, iv 1, .val (.double (FP.l2d nw)), v_, .val (.double (FP.l2d nb)), v_] [(.double (FP.l2d nw)), (.int 1), (.ref wA)]) (fun _ k => XS.iloadN X2.here hx rfl (hb hby own_da1T_4) rfl  (XS.dloadN X2.here hx rfl (hb hby own_da1T_5) rfl  k)) ?_
  obtain ⟨cl3, Ar3, q3, S3, Nn3, H3, G3⟩ := id u1_10
  have hin3 : ¬ ((1 : Int32) < 0 ∨ cl3.slots.size ≤ ((1 : Int32)).toNatClampNeg) := (inb_of S3 ⟨by decide, by decide⟩)
  obtain ⟨T3, h3, X3, e3, W3, st3⟩ := stD X2 hx hZ e2 Ar3 (j := (1 : Int32)) hin3 (g := (mkF m 6 #[rv a1, iv 1, .val (.double (FP.l2d nw)), v_, .val (.double (FP.l2d nb)), v_] [(.double (FP.l2d nw)), (.int 1), (.ref wA)])) rfl rfl (hb hby own_da1T_6)
  have f3 : Arv Z h3 wA kw .double (2 : Int32) [(.double (FP.l2d w0)), (.double (FP.l2d nw))] (.double (FP.l2d 0)) := Arv.set Ar3 q3 S3 Nn3 H3 G3 rfl W3 1 rfl (Nat.le_of_ble_eq_true rfl)
  have f4 := Exa.wr W3 u1_0
  have f5 := Fld.other W3 u1_1 (Or.inl ne_a1_wA)
  have f6 := Fld.other W3 u1_2 (Or.inl ne_a1_wA)
  have f7 := Fld.other W3 u1_3 (Or.inl ne_a1_wA)
  have f8 := Fld.other W3 u1_4 (Or.inl ne_a1_wA)
  have f9 := Fld.other W3 u1_5 (Or.inl ne_a1_wA)
  have f10 := Fld.other W3 u1_6 (Or.inl ne_a1_wA)
  have f11 := Fld.other W3 u1_7 (Or.inl ne_a1_wA)
  have f12 := Fld.other W3 u1_8 (Or.inl ne_a1_wA)
  have f13 := Fld.other W3 u1_9 (Or.inl ne_a1_wA)
  have f14 := u1_11.other W3 (Ne.symm ne_wA_bA)
  have f15 := u1_12.other W3 (Ne.symm ne_wA_sA)
  have f16 := u1_13.other W3 (Ne.symm ne_wA_hA)
  have K3 : Keep h0 h3 [a1, wA, bA, sA, hA] := (Keep.refl h0 [a1, wA, bA, sA, hA]).wr W3 (Or.inl (List.mem_of_getElem? (i := 1) rfl))
  have Z3 := Nat.le_trans Z0 (Nat.le_of_eq W3.size.symm)
  have N3 := Fr.snoc X3 N0 g_wA
  refine own_s T3 (mkF m 7 #[rv a1, iv 1, .val (.double (FP.l2d nw)), v_, .val (.double (FP.l2d nb)), v_] []) st3 ?_
  refine own_s T3 (mkF m 8 #[rv a1, iv 1, .val (.double (FP.l2d nw)), v_, .val (.double (FP.l2d nb)), v_] [(.ref a1)]) (fun _ k => XS.aloadN X3.here hx rfl (hb hby own_da1T_7) rfl rfl k) ?_
  obtain ⟨T17, X17, e17, st17⟩ := getF X3 hx hZ hown (host := "") (Or.inl (own_h hw 14 rfl)) Via.refl e3 f7 (g := (mkF m 8 #[rv a1, iv 1, .val (.double (FP.l2d nw)), v_, .val (.double (FP.l2d nb)), v_] [(.ref a1)])) rfl rfl (hb hby own_da1T_8)
  refine own_s T17 (mkF m 11 #[rv a1, iv 1, .val (.double (FP.l2d nw)), v_, .val (.double (FP.l2d nb)), v_] [(.ref bA)]) st17 ?_
  refine own_s T17 (mkF m 14 #[rv a1, iv 1, .val (.double (FP.l2d nw)), v_, .val (.double (FP.l2d nb)), v_] [(.double (FP.l2d nb)), (.int 1), (.ref bA)]) (fun _ k => XS.iloadN X17.here hx rfl (hb hby own_da1T_11) rfl  (XS.dload X17.here hx rfl (hb hby own_da1T_12) rfl  k)) ?_
  obtain ⟨cl18, Ar18, q18, S18, Nn18, H18, G18⟩ := id f14
  have hin18 : ¬ ((1 : Int32) < 0 ∨ cl18.slots.size ≤ ((1 : Int32)).toNatClampNeg) := (inb_of S18 ⟨by decide, by decide⟩)
  obtain ⟨T18, h18, X18, e18, W18, st18⟩ := stD X17 hx hZ e17 Ar18 (j := (1 : Int32)) hin18 (g := (mkF m 14 #[rv a1, iv 1, .val (.double (FP.l2d nw)), v_, .val (.double (FP.l2d nb)), v_] [(.double (FP.l2d nb)), (.int 1), (.ref bA)])) rfl rfl (hb hby own_da1T_14)
  have f18 : Arv Z h18 bA kb .double (2 : Int32) [(.double (FP.l2d b0)), (.double (FP.l2d nb))] (.double (FP.l2d 0)) := Arv.set Ar18 q18 S18 Nn18 H18 G18 rfl W18 1 rfl (Nat.le_of_ble_eq_true rfl)
  have f19 := Exa.wr W18 f4
  have f20 := Fld.other W18 f5 (Or.inl ne_a1_bA)
  have f21 := Fld.other W18 f6 (Or.inl ne_a1_bA)
  have f22 := Fld.other W18 f7 (Or.inl ne_a1_bA)
  have f23 := Fld.other W18 f8 (Or.inl ne_a1_bA)
  have f24 := Fld.other W18 f9 (Or.inl ne_a1_bA)
  have f25 := Fld.other W18 f10 (Or.inl ne_a1_bA)
  have f26 := Fld.other W18 f11 (Or.inl ne_a1_bA)
  have f27 := Fld.other W18 f12 (Or.inl ne_a1_bA)
  have f28 := Fld.other W18 f13 (Or.inl ne_a1_bA)
  have f29 := f3.other W18 ne_wA_bA
  have f30 := f15.other W18 (Ne.symm ne_bA_sA)
  have f31 := f16.other W18 (Ne.symm ne_bA_hA)
  have K18 : Keep h0 h18 [a1, wA, bA, sA, hA] := K3.wr W18 (Or.inl (List.mem_of_getElem? (i := 2) rfl))
  have Z18 := Nat.le_trans Z3 (Nat.le_of_eq W18.size.symm)
  have N18 := Fr.snoc X18 N3 g_bA
  refine own_s T18 (mkF m 15 #[rv a1, iv 1, .val (.double (FP.l2d nw)), v_, .val (.double (FP.l2d nb)), v_] []) st18 ?_
  refine own_s T18 (mkF m 16 #[rv a1, iv 1, .val (.double (FP.l2d nw)), v_, .val (.double (FP.l2d nb)), v_] [(.ref a1)]) (fun _ k => XS.aloadN X18.here hx rfl (hb hby own_da1T_15) rfl rfl k) ?_
  obtain ⟨T32, X32, e32, st32⟩ := getF X18 hx hZ hown (host := "") (Or.inl (own_h hw 17 rfl)) Via.refl e18 f23 (g := (mkF m 16 #[rv a1, iv 1, .val (.double (FP.l2d nw)), v_, .val (.double (FP.l2d nb)), v_] [(.ref a1)])) rfl rfl (hb hby own_da1T_16)
  refine own_s T32 (mkF m 19 #[rv a1, iv 1, .val (.double (FP.l2d nw)), v_, .val (.double (FP.l2d nb)), v_] [(.ref sA)]) st32 ?_
  refine own_s T32 (mkF m 21 #[rv a1, iv 1, .val (.double (FP.l2d nw)), v_, .val (.double (FP.l2d nb)), v_] [(.ref a1), (.int 1), (.ref sA)]) (fun _ k => XS.iloadN X32.here hx rfl (hb hby own_da1T_19) rfl  (XS.aloadN X32.here hx rfl (hb hby own_da1T_20) rfl rfl k)) ?_
  obtain ⟨T33, X33, e33, st33⟩ := getF X32 hx hZ hown (host := "") (Or.inl (own_h hw 32 rfl)) Via.refl e32 f25 (g := (mkF m 21 #[rv a1, iv 1, .val (.double (FP.l2d nw)), v_, .val (.double (FP.l2d nb)), v_] [(.ref a1), (.int 1), (.ref sA)])) rfl rfl (hb hby own_da1T_21)
  refine own_s T33 (mkF m 24 #[rv a1, iv 1, .val (.double (FP.l2d nw)), v_, .val (.double (FP.l2d nb)), v_] [(.long fg), (.int 1), (.ref sA)]) st33 ?_
  refine own_s T33 (mkF m 26 #[rv a1, iv 1, .val (.double (FP.l2d nw)), v_, .val (.double (FP.l2d nb)), v_] [(.long (fg - (1 : Int64))), (.int 1), (.ref sA)]) (fun _ k => XS.lconst X33.here hx rfl (hb hby own_da1T_24) (XS.lsub X33.here hx rfl (hb hby own_da1T_25) rfl k)) ?_
  obtain ⟨cl34, Ar34, q34, S34, Nn34, H34, G34⟩ := id f30
  have hin34 : ¬ ((1 : Int32) < 0 ∨ cl34.slots.size ≤ ((1 : Int32)).toNatClampNeg) := (inb_of S34 ⟨by decide, by decide⟩)
  obtain ⟨T34, h34, X34, e34, W34, st34⟩ := stJ X33 hx hZ e33 Ar34 (j := (1 : Int32)) hin34 (g := (mkF m 26 #[rv a1, iv 1, .val (.double (FP.l2d nw)), v_, .val (.double (FP.l2d nb)), v_] [(.long (fg - (1 : Int64))), (.int 1), (.ref sA)])) rfl rfl (hb hby own_da1T_26)
  have f34 : Arv Z h34 sA ks .long (2 : Int32) [(.long s0), (.long (fg - (1 : Int64)))] (.long 0) := Arv.set Ar34 q34 S34 Nn34 H34 G34 rfl W34 1 rfl (Nat.le_of_ble_eq_true rfl)
  have f35 := Exa.wr W34 f19
  have f36 := Fld.other W34 f20 (Or.inl ne_a1_sA)
  have f37 := Fld.other W34 f21 (Or.inl ne_a1_sA)
  have f38 := Fld.other W34 f22 (Or.inl ne_a1_sA)
  have f39 := Fld.other W34 f23 (Or.inl ne_a1_sA)
  have f40 := Fld.other W34 f24 (Or.inl ne_a1_sA)
  have f41 := Fld.other W34 f25 (Or.inl ne_a1_sA)
  have f42 := Fld.other W34 f26 (Or.inl ne_a1_sA)
  have f43 := Fld.other W34 f27 (Or.inl ne_a1_sA)
  have f44 := Fld.other W34 f28 (Or.inl ne_a1_sA)
  have f45 := f29.other W34 ne_wA_sA
  have f46 := f18.other W34 ne_bA_sA
  have f47 := f31.other W34 (Ne.symm ne_sA_hA)
  have K34 : Keep h0 h34 [a1, wA, bA, sA, hA] := K18.wr W34 (Or.inl (List.mem_of_getElem? (i := 3) rfl))
  have Z34 := Nat.le_trans Z18 (Nat.le_of_eq W34.size.symm)
  have N34 := Fr.snoc X34 N18 g_sA
  refine own_s T34 (mkF m 27 #[rv a1, iv 1, .val (.double (FP.l2d nw)), v_, .val (.double (FP.l2d nb)), v_] []) st34 ?_
  refine own_s T34 (mkF m 29 #[rv a1, iv 1, .val (.double (FP.l2d nw)), v_, .val (.double (FP.l2d nb)), v_] [(.double (FP.l2d nb))]) (fun _ k => XS.dload X34.here hx rfl (hb hby own_da1T_27) rfl  k) ?_
  have mg48 := own_mgLit (0 : Int64) (K := 0) rfl rfl
  refine own_s T34 (mkF m 35 #[rv a1, iv 1, .val (.double (FP.l2d nw)), v_, .val (.double (FP.l2d nb)), v_] [(.ref a1)]) (fun _ k => XS.dconst0 X34.here hx rfl (hb hby own_da1T_29) own_dc0 (XS.dcmpS X34.here hx rfl (hb hby own_da1T_30) rfl (dcmpV_w (own_mgB m_nb (by decide)) (own_mgB mg48 (by decide)) _) (XS.ifNo X34.here hx rfl (hb hby own_da1T_31) rfl ((if0 _ _).trans (tlt (own_lcgt hnb)).2.2.2) (XS.aloadN X34.here hx rfl (hb hby own_da1T_34) rfl rfl k)))) ?_
  obtain ⟨T49, X49, e49, st49⟩ := getF X34 hx hZ hown (host := "") (Or.inl (own_h hw 20 rfl)) Via.refl e34 f40 (g := (mkF m 35 #[rv a1, iv 1, .val (.double (FP.l2d nw)), v_, .val (.double (FP.l2d nb)), v_] [(.ref a1)])) rfl rfl (hb hby own_da1T_35)
  refine own_s T49 (mkF m 38 #[rv a1, iv 1, .val (.double (FP.l2d nw)), v_, .val (.double (FP.l2d nb)), v_] [(.ref hA)]) st49 ?_
  refine own_s T49 (mkF m 39 #[rv a1, iv 1, .val (.double (FP.l2d nw)), v_, .val (.double (FP.l2d nb)), v_] [(.ref a1), (.ref hA)]) (fun _ k => XS.aloadN X49.here hx rfl (hb hby own_da1T_38) rfl rfl k) ?_
  obtain ⟨T50, X50, e50, st50⟩ := getF X49 hx hZ hown (host := "") (Or.inl (own_h hw 38 rfl)) Via.refl e49 f44 (g := (mkF m 39 #[rv a1, iv 1, .val (.double (FP.l2d nw)), v_, .val (.double (FP.l2d nb)), v_] [(.ref a1), (.ref hA)])) rfl rfl (hb hby own_da1T_39)
  refine own_s T50 (mkF m 42 #[rv a1, iv 1, .val (.double (FP.l2d nw)), v_, .val (.double (FP.l2d nb)), v_] [(.int 1), (.ref hA)]) st50 ?_
  refine own_s T50 (mkF m 43 #[rv a1, iv 1, .val (.double (FP.l2d nw)), v_, .val (.double (FP.l2d nb)), v_] [(.int 1), (.int 1), (.ref hA)]) (fun _ k => XS.iloadN X50.here hx rfl (hb hby own_da1T_42) rfl  k) ?_
  obtain ⟨cl51, Ar51, q51, S51, Nn51, H51, G51⟩ := id f47
  have hin51 : ¬ ((1 : Int32) < 0 ∨ cl51.slots.size ≤ ((1 : Int32)).toNatClampNeg) := (inb_of S51 ⟨by decide, by decide⟩)
  obtain ⟨T51, h51, X51, e51, W51, st51⟩ := stI X50 hx hZ e50 Ar51 (j := (1 : Int32)) hin51 (g := (mkF m 43 #[rv a1, iv 1, .val (.double (FP.l2d nw)), v_, .val (.double (FP.l2d nb)), v_] [(.int 1), (.int 1), (.ref hA)])) rfl rfl (hb hby own_da1T_43)
  have f51 : Arv Z h51 hA kh .int (2 : Int32) [(.int 0), (.int 1)] (.int 0) := Arv.set Ar51 q51 S51 Nn51 H51 G51 rfl W51 1 rfl (Nat.le_of_ble_eq_true rfl)
  have f52 := Exa.wr W51 f35
  have f53 := Fld.other W51 f36 (Or.inl ne_a1_hA)
  have f54 := Fld.other W51 f37 (Or.inl ne_a1_hA)
  have f55 := Fld.other W51 f38 (Or.inl ne_a1_hA)
  have f56 := Fld.other W51 f39 (Or.inl ne_a1_hA)
  have f57 := Fld.other W51 f40 (Or.inl ne_a1_hA)
  have f58 := Fld.other W51 f41 (Or.inl ne_a1_hA)
  have f59 := Fld.other W51 f42 (Or.inl ne_a1_hA)
  have f60 := Fld.other W51 f43 (Or.inl ne_a1_hA)
  have f61 := Fld.other W51 f44 (Or.inl ne_a1_hA)
  have f62 := f45.other W51 ne_wA_hA
  have f63 := f46.other W51 ne_bA_hA
  have f64 := f34.other W51 ne_sA_hA
  have K51 : Keep h0 h51 [a1, wA, bA, sA, hA] := K34.wr W51 (Or.inl (List.mem_of_getElem? (i := 4) rfl))
  have Z51 := Nat.le_trans Z34 (Nat.le_of_eq W51.size.symm)
  have N51 := Fr.snoc X51 N34 g_hA
  refine own_s T51 (mkF m 44 #[rv a1, iv 1, .val (.double (FP.l2d nw)), v_, .val (.double (FP.l2d nb)), v_] []) st51 ?_
  refine own_s T51 (mkF m 47 #[rv a1, iv 1, .val (.double (FP.l2d nw)), v_, .val (.double (FP.l2d nb)), v_] [(.ref a1), (.ref a1), (.ref a1)]) (fun _ k => XS.aloadN X51.here hx rfl (hb hby own_da1T_44) rfl rfl (XS.aloadN X51.here hx rfl (hb hby own_da1T_45) rfl rfl (XS.dup X51.here hx rfl (hb hby own_da1T_46) rfl rfl k))) ?_
  obtain ⟨T65, X65, e65, st65⟩ := getF X51 hx hZ hown (host := "") (Or.inl (own_h hw 38 rfl)) Via.refl e51 f61 (g := (mkF m 47 #[rv a1, iv 1, .val (.double (FP.l2d nw)), v_, .val (.double (FP.l2d nb)), v_] [(.ref a1), (.ref a1), (.ref a1)])) rfl rfl (hb hby own_da1T_47)
  refine own_s T65 (mkF m 50 #[rv a1, iv 1, .val (.double (FP.l2d nw)), v_, .val (.double (FP.l2d nb)), v_] [(.int 1), (.ref a1), (.ref a1)]) st65 ?_
  refine own_s T65 (mkF m 53 #[rv a1, iv 1, .val (.double (FP.l2d nw)), v_, .val (.double (FP.l2d nb)), v_] [(.int 2), (.ref a1), (.int 1), (.ref a1)]) (fun _ k => XS.dupX1 X65.here hx rfl (hb hby own_da1T_50) rfl rfl rfl (XS.iconst X65.here hx rfl (hb hby own_da1T_51) (XS.iadd X65.here hx rfl (hb hby own_da1T_52) rfl k))) ?_
  obtain ⟨T66, h66, X66, e66, W66, st66⟩ := putF X65 hx hZ hown (host := "") (Or.inl (own_h hw 38 rfl)) Via.refl e65 f61 f52 (Or.inl (own_h hw 39 rfl)) (own_h hw 1 rfl) (ty := .int) (by decide) rfl rfl (g := (mkF m 53 #[rv a1, iv 1, .val (.double (FP.l2d nw)), v_, .val (.double (FP.l2d nb)), v_] [(.int 2), (.ref a1), (.int 1), (.ref a1)])) rfl rfl (hb hby own_da1T_53)
  have Fw66 := Fld.same W66 f61
  have f67 := Exa.wr W66 f52
  have f68 := Fld.other W66 f53 (Or.inr (slot_ne (Or.inr (own_h hw 10 rfl)) (Or.inl (own_h hw 39 rfl)) (by decide) (t := .int) (t' := .int) (by decide) (by decide)))
  have f69 := Fld.other W66 f54 (Or.inr (slot_ne (Or.inr (own_h hw 13 rfl)) (Or.inl (own_h hw 39 rfl)) (by decide) (t := (.array .double)) (t' := .int) (by decide) (by decide)))
  have f70 := Fld.other W66 f55 (Or.inr (slot_ne (Or.inr (own_h hw 15 rfl)) (Or.inl (own_h hw 39 rfl)) (by decide) (t := (.array .double)) (t' := .int) (by decide) (by decide)))
  have f71 := Fld.other W66 f56 (Or.inr (slot_ne (Or.inr (own_h hw 18 rfl)) (Or.inl (own_h hw 39 rfl)) (by decide) (t := (.array .long)) (t' := .int) (by decide) (by decide)))
  have f72 := Fld.other W66 f57 (Or.inr (slot_ne (Or.inr (own_h hw 21 rfl)) (Or.inl (own_h hw 39 rfl)) (by decide) (t := (.array .int)) (t' := .int) (by decide) (by decide)))
  have f73 := Fld.other W66 f58 (Or.inr (slot_ne (Or.inl (own_h hw 33 rfl)) (Or.inl (own_h hw 39 rfl)) (by decide) (t := .long) (t' := .int) (by decide) (by decide)))
  have f74 := Fld.other W66 f59 (Or.inr (slot_ne (Or.inl (own_h hw 35 rfl)) (Or.inl (own_h hw 39 rfl)) (by decide) (t := .int) (t' := .int) (by decide) (by decide)))
  have f75 := Fld.other W66 f60 (Or.inr (slot_ne (Or.inl (own_h hw 37 rfl)) (Or.inl (own_h hw 39 rfl)) (by decide) (t := .int) (t' := .int) (by decide) (by decide)))
  have f76 := f62.other W66 (Ne.symm ne_a1_wA)
  have f77 := f63.other W66 (Ne.symm ne_a1_bA)
  have f78 := f64.other W66 (Ne.symm ne_a1_sA)
  have f79 := f51.other W66 (Ne.symm ne_a1_hA)
  have K66 : Keep h0 h66 [a1, wA, bA, sA, hA] := K51.wr W66 (Or.inl (List.mem_of_getElem? (i := 0) rfl))
  have Z66 := Nat.le_trans Z51 (Nat.le_of_eq W66.size.symm)
  have N66 := Fr.snoc X66 N51 g_a1
  refine own_s T66 (mkF m 56 #[rv a1, iv 1, .val (.double (FP.l2d nw)), v_, .val (.double (FP.l2d nb)), v_] [(.int 1), (.ref a1)]) st66 ?_
  obtain ⟨v80, T80, L80, X80, hQ80, st80⟩ := own_callP X66 hx hZ (y := own_y1) (W := 0) (a := a1) hown (own_h hw 51 rfl) (own_h hw 52 rfl) (own_h hw 1 rfl) (own_h hw 53 rfl) (own_h hw 2 rfl) (own_h hw 54 rfl) (by decide) (own_rmr1T l Z a0 hw [] a1 wA bA sA hA kw kb ks kh reach w0 nw b0 nb s0 (fg - (1 : Int64)) fg rk bs (2 : Int32) h66 n0 Z66 ⟨f67, f68, f69, f70, f71, f72, f73, f74, f75, Fw66, f76, f77, f78, f79⟩ hNE hGE m_w0 m_nw m_b0 m_nb hb0 hnb hw0 hnw hld) (by decide) (by decide) f67 (g := (mkF m 56 #[rv a1, iv 1, .val (.double (FP.l2d nw)), v_, .val (.double (FP.l2d nb)), v_] [(.int 1), (.ref a1)])) rfl (by rw [hml]; rfl) (argsL := [(.int 1)]) (rest := []) rfl (lenOf own_pd2 rfl) rfl (by show 2 * 0 + _ ≤ _; exact Nat.le_of_eq rfl) (hb hby own_da1T_56) e66 (by decide) (by decide)
  obtain ⟨rfl, Nq80, Kq80, hq80⟩ := hQ80
  have N80 := Fr.app N66 Nq80
  have K80 : Keep h0 T80.heap [a1, wA, bA, sA, hA] := K66.trans Kq80 (allS (Or.inl (List.mem_of_getElem? (i := 0) rfl)) (allS (Or.inl (List.mem_of_getElem? (i := 1) rfl)) (allS (Or.inl (List.mem_of_getElem? (i := 2) rfl)) (allS (Or.inl (List.mem_of_getElem? (i := 3) rfl)) (allS (Or.inl (List.mem_of_getElem? (i := 4) rfl)) all0)))))
  have Z80 := Nat.le_trans Z66 Kq80.1
  obtain ⟨u81_0, u81_1, u81_2, u81_3, u81_4, u81_5, u81_6, u81_7, u81_8, u81_9, u81_10, u81_11, u81_12, u81_13⟩ := id hq80
  refine own_s T80 (mkF m 59 #[rv a1, iv 1, .val (.double (FP.l2d nw)), v_, .val (.double (FP.l2d nb)), v_] []) st80 ?_
  exact own_finV X80 hx hret (hb hby own_da1T_59) (own_end (Qv := (own_Qa1T Z a1 wA bA sA hA kw kb ks kh reach w0 w1 b0 b1 s0 s1 t1 fg rk bs nw nb h0 n0)) X80 (fun _ => rfl) hlk (by decide) (by decide) rfl ⟨rfl, N80, K80, ⟨u81_0, u81_1, u81_2, u81_3, u81_4, u81_5, u81_6, u81_7, u81_8, u81_9, u81_10, u81_11, u81_12, u81_13⟩⟩)
theorem own_da1N_0 : decode prog_47_method_3_code 0 = .ok (.aload_n 0, 1) := by decide +kernel
theorem own_da1N_1 : decode prog_47_method_3_code 1 = .ok (.getfield 13, 3) := by decide +kernel
theorem own_da1N_4 : decode prog_47_method_3_code 4 = .ok (.iload_n 1, 1) := by decide +kernel
theorem own_da1N_5 : decode prog_47_method_3_code 5 = .ok (.dload_n 2, 1) := by decide +kernel
theorem own_da1N_6 : decode prog_47_method_3_code 6 = .ok (.dastore, 1) := by decide +kernel
theorem own_da1N_7 : decode prog_47_method_3_code 7 = .ok (.aload_n 0, 1) := by decide +kernel
theorem own_da1N_8 : decode prog_47_method_3_code 8 = .ok (.getfield 17, 3) := by decide +kernel
theorem own_da1N_11 : decode prog_47_method_3_code 11 = .ok (.iload_n 1, 1) := by decide +kernel
theorem own_da1N_12 : decode prog_47_method_3_code 12 = .ok (.dload 4, 2) := by decide +kernel
theorem own_da1N_14 : decode prog_47_method_3_code 14 = .ok (.dastore, 1) := by decide +kernel
theorem own_da1N_15 : decode prog_47_method_3_code 15 = .ok (.aload_n 0, 1) := by decide +kernel
theorem own_da1N_16 : decode prog_47_method_3_code 16 = .ok (.getfield 20, 3) := by decide +kernel
theorem own_da1N_19 : decode prog_47_method_3_code 19 = .ok (.iload_n 1, 1) := by decide +kernel
theorem own_da1N_20 : decode prog_47_method_3_code 20 = .ok (.aload_n 0, 1) := by decide +kernel
theorem own_da1N_21 : decode prog_47_method_3_code 21 = .ok (.getfield 34, 3) := by decide +kernel
theorem own_da1N_24 : decode prog_47_method_3_code 24 = .ok (.lconst 1, 1) := by decide +kernel
theorem own_da1N_25 : decode prog_47_method_3_code 25 = .ok (.lsub, 1) := by decide +kernel
theorem own_da1N_26 : decode prog_47_method_3_code 26 = .ok (.lastore, 1) := by decide +kernel
theorem own_da1N_27 : decode prog_47_method_3_code 27 = .ok (.dload 4, 2) := by decide +kernel
theorem own_da1N_29 : decode prog_47_method_3_code 29 = .ok (.dconst 0, 1) := by decide +kernel
theorem own_da1N_30 : decode prog_47_method_3_code 30 = .ok (.dcmp .l, 1) := by decide +kernel
theorem own_da1N_31 : decode prog_47_method_3_code 31 = .ok (.ifCond .le 28, 3) := by decide +kernel
theorem own_da1N_34 : decode prog_47_method_3_code 34 = .ok (.aload_n 0, 1) := by decide +kernel
theorem own_da1N_35 : decode prog_47_method_3_code 35 = .ok (.getfield 24, 3) := by decide +kernel
theorem own_da1N_38 : decode prog_47_method_3_code 38 = .ok (.aload_n 0, 1) := by decide +kernel
theorem own_da1N_39 : decode prog_47_method_3_code 39 = .ok (.getfield 31, 3) := by decide +kernel
theorem own_da1N_42 : decode prog_47_method_3_code 42 = .ok (.iload_n 1, 1) := by decide +kernel
theorem own_da1N_43 : decode prog_47_method_3_code 43 = .ok (.iastore, 1) := by decide +kernel
theorem own_da1N_44 : decode prog_47_method_3_code 44 = .ok (.aload_n 0, 1) := by decide +kernel
theorem own_da1N_45 : decode prog_47_method_3_code 45 = .ok (.aload_n 0, 1) := by decide +kernel
theorem own_da1N_46 : decode prog_47_method_3_code 46 = .ok (.dup, 1) := by decide +kernel
theorem own_da1N_47 : decode prog_47_method_3_code 47 = .ok (.getfield 31, 3) := by decide +kernel
theorem own_da1N_50 : decode prog_47_method_3_code 50 = .ok (.dup_x1, 1) := by decide +kernel
theorem own_da1N_51 : decode prog_47_method_3_code 51 = .ok (.iconst 1, 1) := by decide +kernel
theorem own_da1N_52 : decode prog_47_method_3_code 52 = .ok (.iadd, 1) := by decide +kernel
theorem own_da1N_53 : decode prog_47_method_3_code 53 = .ok (.putfield 31, 3) := by decide +kernel
theorem own_da1N_56 : decode prog_47_method_3_code 56 = .ok (.invokevirtual 38, 3) := by decide +kernel
theorem own_da1N_59 : decode prog_47_method_3_code 59 = .ok (.return_, 1) := by decide +kernel
theorem own_efa1N (m : MethodId) (x0 : Addr) (x1 : Int32) (x2 : UInt64) (x3 : UInt64) : entryFrame m #[(.ref x0), (.int x1), (.double x2), (.double x3)] 6 = mkF m 0 #[rv x0, iv x1, .val (.double x2), v_, .val (.double x3), v_] [] := by first | (simp [entryFrame, mkF, argsToLocals, Value.category]; done) | rfl
def own_Qa1N (Z : State) (a1 : Addr) (wA bA sA hA : Addr) (kw kb ks kh : ClassId) (reach : Int32) (w0 : Int64) (w1 : Int64) (b0 : Int64) (b1 : Int64) (s0 : Int64) (s1 : Int64) (t1 : Int32) (fg : Int64) (rk : Int32) (bs : Int32) (nw nb : Int64) (h0 : Heap) (n0 : Nat) : Option Value → Heap → List Loc → Prop := fun v h L => v = none ∧ Fr n0 L ∧ Keep h0 h [a1, wA, bA, sA, hA] ∧ own_CQ Z h a1 wA bA sA hA kw kb ks kh reach w0 nw b0 nb s0 (fg - (1 : Int64)) (0 : Int32) (1 : Int32) fg rk bs (2 : Int32)
def own_Ra1N : Room := { frames := 2, cells := 0, slots := 0, locals := 34 }
set_option maxRecDepth 65536 in
set_option maxHeartbeats 40000000 in
theorem own_rma1N (l : Launch) (Z : State) (a0 : Array Value) (hw : ∀ d ∈ tables_1, d.before a0 Z = true) (ws : List Jvm.Cond) (a1 : Addr) (wA bA sA hA : Addr) (kw kb ks kh : ClassId) (reach : Int32) (w0 : Int64) (w1 : Int64) (b0 : Int64) (b1 : Int64) (s0 : Int64) (s1 : Int64) (t1 : Int32) (fg : Int64) (rk : Int32) (bs : Int32) (nw nb : Int64) (h0 : Heap) (n0 : Nat) (Z0 : n0 ≤ h0.size) (hCQ : own_CQ Z h0 a1 wA bA sA hA kw kb ks kh reach w0 w1 b0 b1 s0 s1 (0 : Int32) t1 fg rk bs (1 : Int32)) (hNE : own_NE a1 wA bA sA hA) (hGE : own_GE n0 a1 wA bA sA hA) (m_w0 : own_Mg 8 w0) (m_w1 : own_Mg 8 w1) (m_b0 : own_Mg 8 b0) (m_b1 : own_Mg 8 b1) (m_nw : own_Mg 8 nw) (m_nb : own_Mg 8 nb) (hnb : (0 : Int64) < nb) (hb0 : (0 : Int64) < b0) (hw0 : ¬ w0 < (0 : Int64)) (hnw : ¬ nw < (0 : Int64)) (hld : (own_ld (nb * w0) (b0 * nw) (1 : Int32) (0 : Int32)) = false) :
    own_Met l Z own_y5 prog_47_method_3_code 6 none ws own_Ra1N h0 #[(.ref a1), (.int 1), (.double (FP.l2d nw)), (.double (FP.l2d nb))] (own_Qa1N Z a1 wA bA sA hA kw kb ks kh reach w0 w1 b0 b1 s0 s1 t1 fg rk bs nw nb h0 n0) own_Ra1N.cells own_Ra1N.slots := by
  refine own_start (plainFor_of_name own_pn0) ?_
  intro p e s m below meth c s₁ X0 hx hZ hby hml hret hlk hown hnm e0
  have hown : s.vm.findClass "com/example/allotrope/allotrope/procure/CoverQueue" = some m.cls := hown
  have hml : c.maxLocals = 6 := hml
  have N0 := Fr.nil n0
  refine own_cast (own_efa1N m a1 (1 : Int32) (FP.l2d nw) (FP.l2d nb)) ?_
  obtain ⟨ne_a1_wA, ne_a1_bA, ne_a1_sA, ne_a1_hA, ne_wA_bA, ne_wA_sA, ne_wA_hA, ne_bA_sA, ne_bA_hA, ne_sA_hA⟩ := id hNE
  obtain ⟨g_a1, g_wA, g_bA, g_sA, g_hA⟩ := id hGE
  obtain ⟨u1_0, u1_1, u1_2, u1_3, u1_4, u1_5, u1_6, u1_7, u1_8, u1_9, u1_10, u1_11, u1_12, u1_13⟩ := id hCQ
  refine own_s s₁ (mkF m 1 #[rv a1, iv 1, .val (.double (FP.l2d nw)), v_, .val (.double (FP.l2d nb)), v_] [(.ref a1)]) (fun _ k => XS.aloadN X0.here hx rfl (hb hby own_da1N_0) rfl rfl k) ?_
  obtain ⟨T2, X2, e2, st2⟩ := getF X0 hx hZ hown (host := "") (Or.inl (own_h hw 12 rfl)) Via.refl e0 u1_2 (g := (mkF m 1 #[rv a1, iv 1, .val (.double (FP.l2d nw)), v_, .val (.double (FP.l2d nb)), v_] [(.ref a1)])) rfl rfl (hb hby own_da1N_1)
  refine own_s T2 (mkF m 4 #[rv a1, iv 1, .val (.double (FP.l2d nw)), v_, .val (.double (FP.l2d nb)), v_] [(.ref wA)]) st2 ?_
  refine own_s T2 (mkF m 6 #[rv a1, iv 1, .val (.double (FP.l2d nw)), v_, .val (.double (FP.l2d nb)), v_] [(.double (FP.l2d nw)), (.int 1), (.ref wA)]) (fun _ k => XS.iloadN X2.here hx rfl (hb hby own_da1N_4) rfl  (XS.dloadN X2.here hx rfl (hb hby own_da1N_5) rfl  k)) ?_
  obtain ⟨cl3, Ar3, q3, S3, Nn3, H3, G3⟩ := id u1_10
  have hin3 : ¬ ((1 : Int32) < 0 ∨ cl3.slots.size ≤ ((1 : Int32)).toNatClampNeg) := (inb_of S3 ⟨by decide, by decide⟩)
  obtain ⟨T3, h3, X3, e3, W3, st3⟩ := stD X2 hx hZ e2 Ar3 (j := (1 : Int32)) hin3 (g := (mkF m 6 #[rv a1, iv 1, .val (.double (FP.l2d nw)), v_, .val (.double (FP.l2d nb)), v_] [(.double (FP.l2d nw)), (.int 1), (.ref wA)])) rfl rfl (hb hby own_da1N_6)
  have f3 : Arv Z h3 wA kw .double (2 : Int32) [(.double (FP.l2d w0)), (.double (FP.l2d nw))] (.double (FP.l2d 0)) := Arv.set Ar3 q3 S3 Nn3 H3 G3 rfl W3 1 rfl (Nat.le_of_ble_eq_true rfl)
  have f4 := Exa.wr W3 u1_0
  have f5 := Fld.other W3 u1_1 (Or.inl ne_a1_wA)
  have f6 := Fld.other W3 u1_2 (Or.inl ne_a1_wA)
  have f7 := Fld.other W3 u1_3 (Or.inl ne_a1_wA)
  have f8 := Fld.other W3 u1_4 (Or.inl ne_a1_wA)
  have f9 := Fld.other W3 u1_5 (Or.inl ne_a1_wA)
  have f10 := Fld.other W3 u1_6 (Or.inl ne_a1_wA)
  have f11 := Fld.other W3 u1_7 (Or.inl ne_a1_wA)
  have f12 := Fld.other W3 u1_8 (Or.inl ne_a1_wA)
  have f13 := Fld.other W3 u1_9 (Or.inl ne_a1_wA)
  have f14 := u1_11.other W3 (Ne.symm ne_wA_bA)
  have f15 := u1_12.other W3 (Ne.symm ne_wA_sA)
  have f16 := u1_13.other W3 (Ne.symm ne_wA_hA)
  have K3 : Keep h0 h3 [a1, wA, bA, sA, hA] := (Keep.refl h0 [a1, wA, bA, sA, hA]).wr W3 (Or.inl (List.mem_of_getElem? (i := 1) rfl))
  have Z3 := Nat.le_trans Z0 (Nat.le_of_eq W3.size.symm)
  have N3 := Fr.snoc X3 N0 g_wA
  refine own_s T3 (mkF m 7 #[rv a1, iv 1, .val (.double (FP.l2d nw)), v_, .val (.double (FP.l2d nb)), v_] []) st3 ?_
  refine own_s T3 (mkF m 8 #[rv a1, iv 1, .val (.double (FP.l2d nw)), v_, .val (.double (FP.l2d nb)), v_] [(.ref a1)]) (fun _ k => XS.aloadN X3.here hx rfl (hb hby own_da1N_7) rfl rfl k) ?_
  obtain ⟨T17, X17, e17, st17⟩ := getF X3 hx hZ hown (host := "") (Or.inl (own_h hw 14 rfl)) Via.refl e3 f7 (g := (mkF m 8 #[rv a1, iv 1, .val (.double (FP.l2d nw)), v_, .val (.double (FP.l2d nb)), v_] [(.ref a1)])) rfl rfl (hb hby own_da1N_8)
  refine own_s T17 (mkF m 11 #[rv a1, iv 1, .val (.double (FP.l2d nw)), v_, .val (.double (FP.l2d nb)), v_] [(.ref bA)]) st17 ?_
  refine own_s T17 (mkF m 14 #[rv a1, iv 1, .val (.double (FP.l2d nw)), v_, .val (.double (FP.l2d nb)), v_] [(.double (FP.l2d nb)), (.int 1), (.ref bA)]) (fun _ k => XS.iloadN X17.here hx rfl (hb hby own_da1N_11) rfl  (XS.dload X17.here hx rfl (hb hby own_da1N_12) rfl  k)) ?_
  obtain ⟨cl18, Ar18, q18, S18, Nn18, H18, G18⟩ := id f14
  have hin18 : ¬ ((1 : Int32) < 0 ∨ cl18.slots.size ≤ ((1 : Int32)).toNatClampNeg) := (inb_of S18 ⟨by decide, by decide⟩)
  obtain ⟨T18, h18, X18, e18, W18, st18⟩ := stD X17 hx hZ e17 Ar18 (j := (1 : Int32)) hin18 (g := (mkF m 14 #[rv a1, iv 1, .val (.double (FP.l2d nw)), v_, .val (.double (FP.l2d nb)), v_] [(.double (FP.l2d nb)), (.int 1), (.ref bA)])) rfl rfl (hb hby own_da1N_14)
  have f18 : Arv Z h18 bA kb .double (2 : Int32) [(.double (FP.l2d b0)), (.double (FP.l2d nb))] (.double (FP.l2d 0)) := Arv.set Ar18 q18 S18 Nn18 H18 G18 rfl W18 1 rfl (Nat.le_of_ble_eq_true rfl)
  have f19 := Exa.wr W18 f4
  have f20 := Fld.other W18 f5 (Or.inl ne_a1_bA)
  have f21 := Fld.other W18 f6 (Or.inl ne_a1_bA)
  have f22 := Fld.other W18 f7 (Or.inl ne_a1_bA)
  have f23 := Fld.other W18 f8 (Or.inl ne_a1_bA)
  have f24 := Fld.other W18 f9 (Or.inl ne_a1_bA)
  have f25 := Fld.other W18 f10 (Or.inl ne_a1_bA)
  have f26 := Fld.other W18 f11 (Or.inl ne_a1_bA)
  have f27 := Fld.other W18 f12 (Or.inl ne_a1_bA)
  have f28 := Fld.other W18 f13 (Or.inl ne_a1_bA)
  have f29 := f3.other W18 ne_wA_bA
  have f30 := f15.other W18 (Ne.symm ne_bA_sA)
  have f31 := f16.other W18 (Ne.symm ne_bA_hA)
  have K18 : Keep h0 h18 [a1, wA, bA, sA, hA] := K3.wr W18 (Or.inl (List.mem_of_getElem? (i := 2) rfl))
  have Z18 := Nat.le_trans Z3 (Nat.le_of_eq W18.size.symm)
  have N18 := Fr.snoc X18 N3 g_bA
  refine own_s T18 (mkF m 15 #[rv a1, iv 1, .val (.double (FP.l2d nw)), v_, .val (.double (FP.l2d nb)), v_] []) st18 ?_
  refine own_s T18 (mkF m 16 #[rv a1, iv 1, .val (.double (FP.l2d nw)), v_, .val (.double (FP.l2d nb)), v_] [(.ref a1)]) (fun _ k => XS.aloadN X18.here hx rfl (hb hby own_da1N_15) rfl rfl k) ?_
  obtain ⟨T32, X32, e32, st32⟩ := getF X18 hx hZ hown (host := "") (Or.inl (own_h hw 17 rfl)) Via.refl e18 f23 (g := (mkF m 16 #[rv a1, iv 1, .val (.double (FP.l2d nw)), v_, .val (.double (FP.l2d nb)), v_] [(.ref a1)])) rfl rfl (hb hby own_da1N_16)
  refine own_s T32 (mkF m 19 #[rv a1, iv 1, .val (.double (FP.l2d nw)), v_, .val (.double (FP.l2d nb)), v_] [(.ref sA)]) st32 ?_
  refine own_s T32 (mkF m 21 #[rv a1, iv 1, .val (.double (FP.l2d nw)), v_, .val (.double (FP.l2d nb)), v_] [(.ref a1), (.int 1), (.ref sA)]) (fun _ k => XS.iloadN X32.here hx rfl (hb hby own_da1N_19) rfl  (XS.aloadN X32.here hx rfl (hb hby own_da1N_20) rfl rfl k)) ?_
  obtain ⟨T33, X33, e33, st33⟩ := getF X32 hx hZ hown (host := "") (Or.inl (own_h hw 32 rfl)) Via.refl e32 f25 (g := (mkF m 21 #[rv a1, iv 1, .val (.double (FP.l2d nw)), v_, .val (.double (FP.l2d nb)), v_] [(.ref a1), (.int 1), (.ref sA)])) rfl rfl (hb hby own_da1N_21)
  refine own_s T33 (mkF m 24 #[rv a1, iv 1, .val (.double (FP.l2d nw)), v_, .val (.double (FP.l2d nb)), v_] [(.long fg), (.int 1), (.ref sA)]) st33 ?_
  refine own_s T33 (mkF m 26 #[rv a1, iv 1, .val (.double (FP.l2d nw)), v_, .val (.double (FP.l2d nb)), v_] [(.long (fg - (1 : Int64))), (.int 1), (.ref sA)]) (fun _ k => XS.lconst X33.here hx rfl (hb hby own_da1N_24) (XS.lsub X33.here hx rfl (hb hby own_da1N_25) rfl k)) ?_
  obtain ⟨cl34, Ar34, q34, S34, Nn34, H34, G34⟩ := id f30
  have hin34 : ¬ ((1 : Int32) < 0 ∨ cl34.slots.size ≤ ((1 : Int32)).toNatClampNeg) := (inb_of S34 ⟨by decide, by decide⟩)
  obtain ⟨T34, h34, X34, e34, W34, st34⟩ := stJ X33 hx hZ e33 Ar34 (j := (1 : Int32)) hin34 (g := (mkF m 26 #[rv a1, iv 1, .val (.double (FP.l2d nw)), v_, .val (.double (FP.l2d nb)), v_] [(.long (fg - (1 : Int64))), (.int 1), (.ref sA)])) rfl rfl (hb hby own_da1N_26)
  have f34 : Arv Z h34 sA ks .long (2 : Int32) [(.long s0), (.long (fg - (1 : Int64)))] (.long 0) := Arv.set Ar34 q34 S34 Nn34 H34 G34 rfl W34 1 rfl (Nat.le_of_ble_eq_true rfl)
  have f35 := Exa.wr W34 f19
  have f36 := Fld.other W34 f20 (Or.inl ne_a1_sA)
  have f37 := Fld.other W34 f21 (Or.inl ne_a1_sA)
  have f38 := Fld.other W34 f22 (Or.inl ne_a1_sA)
  have f39 := Fld.other W34 f23 (Or.inl ne_a1_sA)
  have f40 := Fld.other W34 f24 (Or.inl ne_a1_sA)
  have f41 := Fld.other W34 f25 (Or.inl ne_a1_sA)
  have f42 := Fld.other W34 f26 (Or.inl ne_a1_sA)
  have f43 := Fld.other W34 f27 (Or.inl ne_a1_sA)
  have f44 := Fld.other W34 f28 (Or.inl ne_a1_sA)
  have f45 := f29.other W34 ne_wA_sA
  have f46 := f18.other W34 ne_bA_sA
  have f47 := f31.other W34 (Ne.symm ne_sA_hA)
  have K34 : Keep h0 h34 [a1, wA, bA, sA, hA] := K18.wr W34 (Or.inl (List.mem_of_getElem? (i := 3) rfl))
  have Z34 := Nat.le_trans Z18 (Nat.le_of_eq W34.size.symm)
  have N34 := Fr.snoc X34 N18 g_sA
  refine own_s T34 (mkF m 27 #[rv a1, iv 1, .val (.double (FP.l2d nw)), v_, .val (.double (FP.l2d nb)), v_] []) st34 ?_
  refine own_s T34 (mkF m 29 #[rv a1, iv 1, .val (.double (FP.l2d nw)), v_, .val (.double (FP.l2d nb)), v_] [(.double (FP.l2d nb))]) (fun _ k => XS.dload X34.here hx rfl (hb hby own_da1N_27) rfl  k) ?_
  have mg48 := own_mgLit (0 : Int64) (K := 0) rfl rfl
  refine own_s T34 (mkF m 35 #[rv a1, iv 1, .val (.double (FP.l2d nw)), v_, .val (.double (FP.l2d nb)), v_] [(.ref a1)]) (fun _ k => XS.dconst0 X34.here hx rfl (hb hby own_da1N_29) own_dc0 (XS.dcmpS X34.here hx rfl (hb hby own_da1N_30) rfl (dcmpV_w (own_mgB m_nb (by decide)) (own_mgB mg48 (by decide)) _) (XS.ifNo X34.here hx rfl (hb hby own_da1N_31) rfl ((if0 _ _).trans (tlt (own_lcgt hnb)).2.2.2) (XS.aloadN X34.here hx rfl (hb hby own_da1N_34) rfl rfl k)))) ?_
  obtain ⟨T49, X49, e49, st49⟩ := getF X34 hx hZ hown (host := "") (Or.inl (own_h hw 20 rfl)) Via.refl e34 f40 (g := (mkF m 35 #[rv a1, iv 1, .val (.double (FP.l2d nw)), v_, .val (.double (FP.l2d nb)), v_] [(.ref a1)])) rfl rfl (hb hby own_da1N_35)
  refine own_s T49 (mkF m 38 #[rv a1, iv 1, .val (.double (FP.l2d nw)), v_, .val (.double (FP.l2d nb)), v_] [(.ref hA)]) st49 ?_
  refine own_s T49 (mkF m 39 #[rv a1, iv 1, .val (.double (FP.l2d nw)), v_, .val (.double (FP.l2d nb)), v_] [(.ref a1), (.ref hA)]) (fun _ k => XS.aloadN X49.here hx rfl (hb hby own_da1N_38) rfl rfl k) ?_
  obtain ⟨T50, X50, e50, st50⟩ := getF X49 hx hZ hown (host := "") (Or.inl (own_h hw 38 rfl)) Via.refl e49 f44 (g := (mkF m 39 #[rv a1, iv 1, .val (.double (FP.l2d nw)), v_, .val (.double (FP.l2d nb)), v_] [(.ref a1), (.ref hA)])) rfl rfl (hb hby own_da1N_39)
  refine own_s T50 (mkF m 42 #[rv a1, iv 1, .val (.double (FP.l2d nw)), v_, .val (.double (FP.l2d nb)), v_] [(.int 1), (.ref hA)]) st50 ?_
  refine own_s T50 (mkF m 43 #[rv a1, iv 1, .val (.double (FP.l2d nw)), v_, .val (.double (FP.l2d nb)), v_] [(.int 1), (.int 1), (.ref hA)]) (fun _ k => XS.iloadN X50.here hx rfl (hb hby own_da1N_42) rfl  k) ?_
  obtain ⟨cl51, Ar51, q51, S51, Nn51, H51, G51⟩ := id f47
  have hin51 : ¬ ((1 : Int32) < 0 ∨ cl51.slots.size ≤ ((1 : Int32)).toNatClampNeg) := (inb_of S51 ⟨by decide, by decide⟩)
  obtain ⟨T51, h51, X51, e51, W51, st51⟩ := stI X50 hx hZ e50 Ar51 (j := (1 : Int32)) hin51 (g := (mkF m 43 #[rv a1, iv 1, .val (.double (FP.l2d nw)), v_, .val (.double (FP.l2d nb)), v_] [(.int 1), (.int 1), (.ref hA)])) rfl rfl (hb hby own_da1N_43)
  have f51 : Arv Z h51 hA kh .int (2 : Int32) [(.int 0), (.int 1)] (.int 0) := Arv.set Ar51 q51 S51 Nn51 H51 G51 rfl W51 1 rfl (Nat.le_of_ble_eq_true rfl)
  have f52 := Exa.wr W51 f35
  have f53 := Fld.other W51 f36 (Or.inl ne_a1_hA)
  have f54 := Fld.other W51 f37 (Or.inl ne_a1_hA)
  have f55 := Fld.other W51 f38 (Or.inl ne_a1_hA)
  have f56 := Fld.other W51 f39 (Or.inl ne_a1_hA)
  have f57 := Fld.other W51 f40 (Or.inl ne_a1_hA)
  have f58 := Fld.other W51 f41 (Or.inl ne_a1_hA)
  have f59 := Fld.other W51 f42 (Or.inl ne_a1_hA)
  have f60 := Fld.other W51 f43 (Or.inl ne_a1_hA)
  have f61 := Fld.other W51 f44 (Or.inl ne_a1_hA)
  have f62 := f45.other W51 ne_wA_hA
  have f63 := f46.other W51 ne_bA_hA
  have f64 := f34.other W51 ne_sA_hA
  have K51 : Keep h0 h51 [a1, wA, bA, sA, hA] := K34.wr W51 (Or.inl (List.mem_of_getElem? (i := 4) rfl))
  have Z51 := Nat.le_trans Z34 (Nat.le_of_eq W51.size.symm)
  have N51 := Fr.snoc X51 N34 g_hA
  refine own_s T51 (mkF m 44 #[rv a1, iv 1, .val (.double (FP.l2d nw)), v_, .val (.double (FP.l2d nb)), v_] []) st51 ?_
  refine own_s T51 (mkF m 47 #[rv a1, iv 1, .val (.double (FP.l2d nw)), v_, .val (.double (FP.l2d nb)), v_] [(.ref a1), (.ref a1), (.ref a1)]) (fun _ k => XS.aloadN X51.here hx rfl (hb hby own_da1N_44) rfl rfl (XS.aloadN X51.here hx rfl (hb hby own_da1N_45) rfl rfl (XS.dup X51.here hx rfl (hb hby own_da1N_46) rfl rfl k))) ?_
  obtain ⟨T65, X65, e65, st65⟩ := getF X51 hx hZ hown (host := "") (Or.inl (own_h hw 38 rfl)) Via.refl e51 f61 (g := (mkF m 47 #[rv a1, iv 1, .val (.double (FP.l2d nw)), v_, .val (.double (FP.l2d nb)), v_] [(.ref a1), (.ref a1), (.ref a1)])) rfl rfl (hb hby own_da1N_47)
  refine own_s T65 (mkF m 50 #[rv a1, iv 1, .val (.double (FP.l2d nw)), v_, .val (.double (FP.l2d nb)), v_] [(.int 1), (.ref a1), (.ref a1)]) st65 ?_
  refine own_s T65 (mkF m 53 #[rv a1, iv 1, .val (.double (FP.l2d nw)), v_, .val (.double (FP.l2d nb)), v_] [(.int 2), (.ref a1), (.int 1), (.ref a1)]) (fun _ k => XS.dupX1 X65.here hx rfl (hb hby own_da1N_50) rfl rfl rfl (XS.iconst X65.here hx rfl (hb hby own_da1N_51) (XS.iadd X65.here hx rfl (hb hby own_da1N_52) rfl k))) ?_
  obtain ⟨T66, h66, X66, e66, W66, st66⟩ := putF X65 hx hZ hown (host := "") (Or.inl (own_h hw 38 rfl)) Via.refl e65 f61 f52 (Or.inl (own_h hw 39 rfl)) (own_h hw 1 rfl) (ty := .int) (by decide) rfl rfl (g := (mkF m 53 #[rv a1, iv 1, .val (.double (FP.l2d nw)), v_, .val (.double (FP.l2d nb)), v_] [(.int 2), (.ref a1), (.int 1), (.ref a1)])) rfl rfl (hb hby own_da1N_53)
  have Fw66 := Fld.same W66 f61
  have f67 := Exa.wr W66 f52
  have f68 := Fld.other W66 f53 (Or.inr (slot_ne (Or.inr (own_h hw 10 rfl)) (Or.inl (own_h hw 39 rfl)) (by decide) (t := .int) (t' := .int) (by decide) (by decide)))
  have f69 := Fld.other W66 f54 (Or.inr (slot_ne (Or.inr (own_h hw 13 rfl)) (Or.inl (own_h hw 39 rfl)) (by decide) (t := (.array .double)) (t' := .int) (by decide) (by decide)))
  have f70 := Fld.other W66 f55 (Or.inr (slot_ne (Or.inr (own_h hw 15 rfl)) (Or.inl (own_h hw 39 rfl)) (by decide) (t := (.array .double)) (t' := .int) (by decide) (by decide)))
  have f71 := Fld.other W66 f56 (Or.inr (slot_ne (Or.inr (own_h hw 18 rfl)) (Or.inl (own_h hw 39 rfl)) (by decide) (t := (.array .long)) (t' := .int) (by decide) (by decide)))
  have f72 := Fld.other W66 f57 (Or.inr (slot_ne (Or.inr (own_h hw 21 rfl)) (Or.inl (own_h hw 39 rfl)) (by decide) (t := (.array .int)) (t' := .int) (by decide) (by decide)))
  have f73 := Fld.other W66 f58 (Or.inr (slot_ne (Or.inl (own_h hw 33 rfl)) (Or.inl (own_h hw 39 rfl)) (by decide) (t := .long) (t' := .int) (by decide) (by decide)))
  have f74 := Fld.other W66 f59 (Or.inr (slot_ne (Or.inl (own_h hw 35 rfl)) (Or.inl (own_h hw 39 rfl)) (by decide) (t := .int) (t' := .int) (by decide) (by decide)))
  have f75 := Fld.other W66 f60 (Or.inr (slot_ne (Or.inl (own_h hw 37 rfl)) (Or.inl (own_h hw 39 rfl)) (by decide) (t := .int) (t' := .int) (by decide) (by decide)))
  have f76 := f62.other W66 (Ne.symm ne_a1_wA)
  have f77 := f63.other W66 (Ne.symm ne_a1_bA)
  have f78 := f64.other W66 (Ne.symm ne_a1_sA)
  have f79 := f51.other W66 (Ne.symm ne_a1_hA)
  have K66 : Keep h0 h66 [a1, wA, bA, sA, hA] := K51.wr W66 (Or.inl (List.mem_of_getElem? (i := 0) rfl))
  have Z66 := Nat.le_trans Z51 (Nat.le_of_eq W66.size.symm)
  have N66 := Fr.snoc X66 N51 g_a1
  refine own_s T66 (mkF m 56 #[rv a1, iv 1, .val (.double (FP.l2d nw)), v_, .val (.double (FP.l2d nb)), v_] [(.int 1), (.ref a1)]) st66 ?_
  obtain ⟨v80, T80, L80, X80, hQ80, st80⟩ := own_callP X66 hx hZ (y := own_y1) (W := 0) (a := a1) hown (own_h hw 51 rfl) (own_h hw 52 rfl) (own_h hw 1 rfl) (own_h hw 53 rfl) (own_h hw 2 rfl) (own_h hw 54 rfl) (by decide) (own_rmr1F l Z a0 hw [] a1 wA bA sA hA kw kb ks kh reach w0 nw b0 nb s0 (fg - (1 : Int64)) fg rk bs (2 : Int32) h66 n0 Z66 ⟨f67, f68, f69, f70, f71, f72, f73, f74, f75, Fw66, f76, f77, f78, f79⟩ hNE hGE m_w0 m_nw m_b0 m_nb hb0 hnb hw0 hnw hld) (by decide) (by decide) f67 (g := (mkF m 56 #[rv a1, iv 1, .val (.double (FP.l2d nw)), v_, .val (.double (FP.l2d nb)), v_] [(.int 1), (.ref a1)])) rfl (by rw [hml]; rfl) (argsL := [(.int 1)]) (rest := []) rfl (lenOf own_pd2 rfl) rfl (by show 2 * 0 + _ ≤ _; exact Nat.le_of_eq rfl) (hb hby own_da1N_56) e66 (by decide) (by decide)
  obtain ⟨rfl, Nq80, Kq80, hq80⟩ := hQ80
  have N80 := Fr.app N66 Nq80
  have K80 : Keep h0 T80.heap [a1, wA, bA, sA, hA] := K66.trans Kq80 (allS (Or.inl (List.mem_of_getElem? (i := 0) rfl)) (allS (Or.inl (List.mem_of_getElem? (i := 1) rfl)) (allS (Or.inl (List.mem_of_getElem? (i := 2) rfl)) (allS (Or.inl (List.mem_of_getElem? (i := 3) rfl)) (allS (Or.inl (List.mem_of_getElem? (i := 4) rfl)) all0)))))
  have Z80 := Nat.le_trans Z66 Kq80.1
  obtain ⟨u81_0, u81_1, u81_2, u81_3, u81_4, u81_5, u81_6, u81_7, u81_8, u81_9, u81_10, u81_11, u81_12, u81_13⟩ := id hq80
  refine own_s T80 (mkF m 59 #[rv a1, iv 1, .val (.double (FP.l2d nw)), v_, .val (.double (FP.l2d nb)), v_] []) st80 ?_
  exact own_finV X80 hx hret (hb hby own_da1N_59) (own_end (Qv := (own_Qa1N Z a1 wA bA sA hA kw kb ks kh reach w0 w1 b0 b1 s0 s1 t1 fg rk bs nw nb h0 n0)) X80 (fun _ => rfl) hlk (by decide) (by decide) rfl ⟨rfl, N80, K80, ⟨u81_0, u81_1, u81_2, u81_3, u81_4, u81_5, u81_6, u81_7, u81_8, u81_9, u81_10, u81_11, u81_12, u81_13⟩⟩)
abbrev own_y6 : MethodName := ⟨"com/example/allotrope/allotrope/procure/CoverQueue", "reckon", "(D)V"⟩
theorem own_dre01P_0 : decode prog_47_method_7_code 0 = .ok (.aload_n 0, 1) := by decide +kernel
theorem own_dre01P_1 : decode prog_47_method_7_code 1 = .ok (.getfield 24, 3) := by decide +kernel
theorem own_dre01P_4 : decode prog_47_method_7_code 4 = .ok (.iconst 0, 1) := by decide +kernel
theorem own_dre01P_5 : decode prog_47_method_7_code 5 = .ok (.iaload, 1) := by decide +kernel
theorem own_dre01P_6 : decode prog_47_method_7_code 6 = .ok (.istore_n 3, 1) := by decide +kernel
theorem own_dre01P_7 : decode prog_47_method_7_code 7 = .ok (.aload_n 0, 1) := by decide +kernel
theorem own_dre01P_8 : decode prog_47_method_7_code 8 = .ok (.getfield 17, 3) := by decide +kernel
theorem own_dre01P_11 : decode prog_47_method_7_code 11 = .ok (.iload_n 3, 1) := by decide +kernel
theorem own_dre01P_12 : decode prog_47_method_7_code 12 = .ok (.dload_n 1, 1) := by decide +kernel
theorem own_dre01P_13 : decode prog_47_method_7_code 13 = .ok (.dastore, 1) := by decide +kernel
theorem own_dre01P_14 : decode prog_47_method_7_code 14 = .ok (.aload_n 0, 1) := by decide +kernel
theorem own_dre01P_15 : decode prog_47_method_7_code 15 = .ok (.getfield 20, 3) := by decide +kernel
theorem own_dre01P_18 : decode prog_47_method_7_code 18 = .ok (.iload_n 3, 1) := by decide +kernel
theorem own_dre01P_19 : decode prog_47_method_7_code 19 = .ok (.aload_n 0, 1) := by decide +kernel
theorem own_dre01P_20 : decode prog_47_method_7_code 20 = .ok (.getfield 34, 3) := by decide +kernel
theorem own_dre01P_23 : decode prog_47_method_7_code 23 = .ok (.lastore, 1) := by decide +kernel
theorem own_dre01P_24 : decode prog_47_method_7_code 24 = .ok (.aload_n 0, 1) := by decide +kernel
theorem own_dre01P_25 : decode prog_47_method_7_code 25 = .ok (.dup, 1) := by decide +kernel
theorem own_dre01P_26 : decode prog_47_method_7_code 26 = .ok (.getfield 42, 3) := by decide +kernel
theorem own_dre01P_29 : decode prog_47_method_7_code 29 = .ok (.iconst 1, 1) := by decide +kernel
theorem own_dre01P_30 : decode prog_47_method_7_code 30 = .ok (.iadd, 1) := by decide +kernel
theorem own_dre01P_31 : decode prog_47_method_7_code 31 = .ok (.putfield 42, 3) := by decide +kernel
theorem own_dre01P_34 : decode prog_47_method_7_code 34 = .ok (.dload_n 1, 1) := by decide +kernel
theorem own_dre01P_35 : decode prog_47_method_7_code 35 = .ok (.dconst 0, 1) := by decide +kernel
theorem own_dre01P_36 : decode prog_47_method_7_code 36 = .ok (.dcmp .l, 1) := by decide +kernel
theorem own_dre01P_37 : decode prog_47_method_7_code 37 = .ok (.ifCond .le 27, 3) := by decide +kernel
theorem own_dre01P_40 : decode prog_47_method_7_code 40 = .ok (.aload_n 0, 1) := by decide +kernel
theorem own_dre01P_41 : decode prog_47_method_7_code 41 = .ok (.getfield 45, 3) := by decide +kernel
theorem own_dre01P_44 : decode prog_47_method_7_code 44 = .ok (.ifCond .lt 15, 3) := by decide +kernel
theorem own_dre01P_59 : decode prog_47_method_7_code 59 = .ok (.aload_n 0, 1) := by decide +kernel
theorem own_dre01P_60 : decode prog_47_method_7_code 60 = .ok (.iload_n 3, 1) := by decide +kernel
theorem own_dre01P_61 : decode prog_47_method_7_code 61 = .ok (.putfield 45, 3) := by decide +kernel
theorem own_dre01P_64 : decode prog_47_method_7_code 64 = .ok (.dload_n 1, 1) := by decide +kernel
theorem own_dre01P_65 : decode prog_47_method_7_code 65 = .ok (.dconst 0, 1) := by decide +kernel
theorem own_dre01P_66 : decode prog_47_method_7_code 66 = .ok (.dcmp .g, 1) := by decide +kernel
theorem own_dre01P_67 : decode prog_47_method_7_code 67 = .ok (.ifCond .gt 25, 3) := by decide +kernel
theorem own_dre01P_92 : decode prog_47_method_7_code 92 = .ok (.aload_n 0, 1) := by decide +kernel
theorem own_dre01P_93 : decode prog_47_method_7_code 93 = .ok (.iconst 0, 1) := by decide +kernel
theorem own_dre01P_94 : decode prog_47_method_7_code 94 = .ok (.invokevirtual 52, 3) := by decide +kernel
theorem own_dre01P_97 : decode prog_47_method_7_code 97 = .ok (.return_, 1) := by decide +kernel
theorem own_efre01P (m : MethodId) (x0 : Addr) (x1 : UInt64) : entryFrame m #[(.ref x0), (.double x1)] 4 = mkF m 0 #[rv x0, .val (.double x1), v_, u_] [] := by first | (simp [entryFrame, mkF, argsToLocals, Value.category]; done) | rfl
def own_Qre01P (Z : State) (a1 : Addr) (wA bA sA hA : Addr) (kw kb ks kh : ClassId) (reach : Int32) (w0 : Int64) (w1 : Int64) (b0 : Int64) (b1 : Int64) (s0 : Int64) (s1 : Int64) (t1 : Int32) (fg : Int64) (rk : Int32) (nc : Int64) (h0 : Heap) (n0 : Nat) : Option Value → Heap → List Loc → Prop := fun v h L => v = none ∧ Fr n0 L ∧ Keep h0 h [a1, wA, bA, sA, hA] ∧ own_CQ Z h a1 wA bA sA hA kw kb ks kh reach w0 w1 nc b1 fg s1 (0 : Int32) t1 fg (rk + (1 : Int32)) (0 : Int32) (1 : Int32)
def own_Rre01P : Room := { frames := 1, cells := 0, slots := 0, locals := 18 }
set_option maxRecDepth 65536 in
set_option maxHeartbeats 40000000 in
theorem own_rmre01P (l : Launch) (Z : State) (a0 : Array Value) (hw : ∀ d ∈ tables_1, d.before a0 Z = true) (ws : List Jvm.Cond) (a1 : Addr) (wA bA sA hA : Addr) (kw kb ks kh : ClassId) (reach : Int32) (w0 : Int64) (w1 : Int64) (b0 : Int64) (b1 : Int64) (s0 : Int64) (s1 : Int64) (t1 : Int32) (fg : Int64) (rk : Int32) (nc : Int64) (h0 : Heap) (n0 : Nat) (Z0 : n0 ≤ h0.size) (hCQ : own_CQ Z h0 a1 wA bA sA hA kw kb ks kh reach w0 w1 b0 b1 s0 s1 (0 : Int32) t1 fg rk (-1 : Int32) (1 : Int32)) (hNE : own_NE a1 wA bA sA hA) (hGE : own_GE n0 a1 wA bA sA hA) (m_w0 : own_Mg 8 w0) (m_w1 : own_Mg 8 w1) (m_b0 : own_Mg 8 b0) (m_b1 : own_Mg 8 b1) (m_nc : own_Mg 8 nc) (hc : (0 : Int64) < nc) :
    own_Met l Z own_y6 prog_47_method_7_code 4 none ws own_Rre01P h0 #[(.ref a1), (.double (FP.l2d nc))] (own_Qre01P Z a1 wA bA sA hA kw kb ks kh reach w0 w1 b0 b1 s0 s1 t1 fg rk nc h0 n0) own_Rre01P.cells own_Rre01P.slots := by
  refine own_start (plainFor_of_name own_pn0) ?_
  intro p e s m below meth c s₁ X0 hx hZ hby hml hret hlk hown hnm e0
  have hown : s.vm.findClass "com/example/allotrope/allotrope/procure/CoverQueue" = some m.cls := hown
  have hml : c.maxLocals = 4 := hml
  have N0 := Fr.nil n0
  refine own_cast (own_efre01P m a1 (FP.l2d nc)) ?_
  obtain ⟨ne_a1_wA, ne_a1_bA, ne_a1_sA, ne_a1_hA, ne_wA_bA, ne_wA_sA, ne_wA_hA, ne_bA_sA, ne_bA_hA, ne_sA_hA⟩ := id hNE
  obtain ⟨g_a1, g_wA, g_bA, g_sA, g_hA⟩ := id hGE
  obtain ⟨u1_0, u1_1, u1_2, u1_3, u1_4, u1_5, u1_6, u1_7, u1_8, u1_9, u1_10, u1_11, u1_12, u1_13⟩ := id hCQ
  refine own_s s₁ (mkF m 1 #[rv a1, .val (.double (FP.l2d nc)), v_, u_] [(.ref a1)]) (fun _ k => XS.aloadN X0.here hx rfl (hb hby own_dre01P_0) rfl rfl k) ?_
  obtain ⟨T2, X2, e2, st2⟩ := getF X0 hx hZ hown (host := "") (Or.inl (own_h hw 20 rfl)) Via.refl e0 u1_5 (g := (mkF m 1 #[rv a1, .val (.double (FP.l2d nc)), v_, u_] [(.ref a1)])) rfl rfl (hb hby own_dre01P_1)
  refine own_s T2 (mkF m 4 #[rv a1, .val (.double (FP.l2d nc)), v_, u_] [(.ref hA)]) st2 ?_
  refine own_s T2 (mkF m 5 #[rv a1, .val (.double (FP.l2d nc)), v_, u_] [(.int 0), (.ref hA)]) (fun _ k => XS.iconst X2.here hx rfl (hb hby own_dre01P_4) k) ?_
  obtain ⟨cl3, Ar3, q3, S3, Nn3, H3, G3⟩ := id u1_13
  have hin3 : ¬ ((0 : Int32) < 0 ∨ cl3.slots.size ≤ ((0 : Int32)).toNatClampNeg) := (inb_of S3 ⟨by decide, by decide⟩)
  refine own_s T2 (mkF m 8 #[rv a1, .val (.double (FP.l2d nc)), v_, iv 0] [(.ref a1)]) (fun _ k => X2.iaload hx (j := (0 : Int32)) (v := (.int 0)) (own_at e2 Ar3.1) (State.isArrayOf_alike hZ.alike Ar3.2.1) Ar3.2.2 hin3 (Has.at H3 hin3 rfl) (g := (mkF m 5 #[rv a1, .val (.double (FP.l2d nc)), v_, u_] [(.int 0), (.ref hA)])) rfl rfl (hb hby own_dre01P_5) _ (XS.istoreN X2.here hx rfl (hb hby own_dre01P_6) rfl (l' := #[rv a1, .val (.double (FP.l2d nc)), v_, iv 0]) rfl (XS.aloadN X2.here hx rfl (hb hby own_dre01P_7) rfl rfl k))) ?_
  obtain ⟨T4, X4, e4, st4⟩ := getF X2 hx hZ hown (host := "") (Or.inl (own_h hw 14 rfl)) Via.refl e2 u1_3 (g := (mkF m 8 #[rv a1, .val (.double (FP.l2d nc)), v_, iv 0] [(.ref a1)])) rfl rfl (hb hby own_dre01P_8)
  refine own_s T4 (mkF m 11 #[rv a1, .val (.double (FP.l2d nc)), v_, iv 0] [(.ref bA)]) st4 ?_
  refine own_s T4 (mkF m 13 #[rv a1, .val (.double (FP.l2d nc)), v_, iv 0] [(.double (FP.l2d nc)), (.int 0), (.ref bA)]) (fun _ k => XS.iloadN X4.here hx rfl (hb hby own_dre01P_11) rfl  (XS.dloadN X4.here hx rfl (hb hby own_dre01P_12) rfl  k)) ?_
  obtain ⟨cl5, Ar5, q5, S5, Nn5, H5, G5⟩ := id u1_11
  have hin5 : ¬ ((0 : Int32) < 0 ∨ cl5.slots.size ≤ ((0 : Int32)).toNatClampNeg) := (inb_of S5 ⟨by decide, by decide⟩)
  obtain ⟨T5, h5, X5, e5, W5, st5⟩ := stD X4 hx hZ e4 Ar5 (j := (0 : Int32)) hin5 (g := (mkF m 13 #[rv a1, .val (.double (FP.l2d nc)), v_, iv 0] [(.double (FP.l2d nc)), (.int 0), (.ref bA)])) rfl rfl (hb hby own_dre01P_13)
  have f5 : Arv Z h5 bA kb .double (2 : Int32) [(.double (FP.l2d nc)), (.double (FP.l2d b1))] (.double (FP.l2d 0)) := Arv.set Ar5 q5 S5 Nn5 H5 G5 rfl W5 0 rfl (Nat.le_of_ble_eq_true rfl)
  have f6 := Exa.wr W5 u1_0
  have f7 := Fld.other W5 u1_1 (Or.inl ne_a1_bA)
  have f8 := Fld.other W5 u1_2 (Or.inl ne_a1_bA)
  have f9 := Fld.other W5 u1_3 (Or.inl ne_a1_bA)
  have f10 := Fld.other W5 u1_4 (Or.inl ne_a1_bA)
  have f11 := Fld.other W5 u1_5 (Or.inl ne_a1_bA)
  have f12 := Fld.other W5 u1_6 (Or.inl ne_a1_bA)
  have f13 := Fld.other W5 u1_7 (Or.inl ne_a1_bA)
  have f14 := Fld.other W5 u1_8 (Or.inl ne_a1_bA)
  have f15 := Fld.other W5 u1_9 (Or.inl ne_a1_bA)
  have f16 := u1_10.other W5 ne_wA_bA
  have f17 := u1_12.other W5 (Ne.symm ne_bA_sA)
  have f18 := u1_13.other W5 (Ne.symm ne_bA_hA)
  have K5 : Keep h0 h5 [a1, wA, bA, sA, hA] := (Keep.refl h0 [a1, wA, bA, sA, hA]).wr W5 (Or.inl (List.mem_of_getElem? (i := 2) rfl))
  have Z5 := Nat.le_trans Z0 (Nat.le_of_eq W5.size.symm)
  have N5 := Fr.snoc X5 N0 g_bA
  refine own_s T5 (mkF m 14 #[rv a1, .val (.double (FP.l2d nc)), v_, iv 0] []) st5 ?_
  refine own_s T5 (mkF m 15 #[rv a1, .val (.double (FP.l2d nc)), v_, iv 0] [(.ref a1)]) (fun _ k => XS.aloadN X5.here hx rfl (hb hby own_dre01P_14) rfl rfl k) ?_
  obtain ⟨T19, X19, e19, st19⟩ := getF X5 hx hZ hown (host := "") (Or.inl (own_h hw 17 rfl)) Via.refl e5 f10 (g := (mkF m 15 #[rv a1, .val (.double (FP.l2d nc)), v_, iv 0] [(.ref a1)])) rfl rfl (hb hby own_dre01P_15)
  refine own_s T19 (mkF m 18 #[rv a1, .val (.double (FP.l2d nc)), v_, iv 0] [(.ref sA)]) st19 ?_
  refine own_s T19 (mkF m 20 #[rv a1, .val (.double (FP.l2d nc)), v_, iv 0] [(.ref a1), (.int 0), (.ref sA)]) (fun _ k => XS.iloadN X19.here hx rfl (hb hby own_dre01P_18) rfl  (XS.aloadN X19.here hx rfl (hb hby own_dre01P_19) rfl rfl k)) ?_
  obtain ⟨T20, X20, e20, st20⟩ := getF X19 hx hZ hown (host := "") (Or.inl (own_h hw 32 rfl)) Via.refl e19 f12 (g := (mkF m 20 #[rv a1, .val (.double (FP.l2d nc)), v_, iv 0] [(.ref a1), (.int 0), (.ref sA)])) rfl rfl (hb hby own_dre01P_20)
  refine own_s T20 (mkF m 23 #[rv a1, .val (.double (FP.l2d nc)), v_, iv 0] [(.long fg), (.int 0), (.ref sA)]) st20 ?_
  obtain ⟨cl21, Ar21, q21, S21, Nn21, H21, G21⟩ := id f17
  have hin21 : ¬ ((0 : Int32) < 0 ∨ cl21.slots.size ≤ ((0 : Int32)).toNatClampNeg) := (inb_of S21 ⟨by decide, by decide⟩)
  obtain ⟨T21, h21, X21, e21, W21, st21⟩ := stJ X20 hx hZ e20 Ar21 (j := (0 : Int32)) hin21 (g := (mkF m 23 #[rv a1, .val (.double (FP.l2d nc)), v_, iv 0] [(.long fg), (.int 0), (.ref sA)])) rfl rfl (hb hby own_dre01P_23)
  have f21 : Arv Z h21 sA ks .long (2 : Int32) [(.long fg), (.long s1)] (.long 0) := Arv.set Ar21 q21 S21 Nn21 H21 G21 rfl W21 0 rfl (Nat.le_of_ble_eq_true rfl)
  have f22 := Exa.wr W21 f6
  have f23 := Fld.other W21 f7 (Or.inl ne_a1_sA)
  have f24 := Fld.other W21 f8 (Or.inl ne_a1_sA)
  have f25 := Fld.other W21 f9 (Or.inl ne_a1_sA)
  have f26 := Fld.other W21 f10 (Or.inl ne_a1_sA)
  have f27 := Fld.other W21 f11 (Or.inl ne_a1_sA)
  have f28 := Fld.other W21 f12 (Or.inl ne_a1_sA)
  have f29 := Fld.other W21 f13 (Or.inl ne_a1_sA)
  have f30 := Fld.other W21 f14 (Or.inl ne_a1_sA)
  have f31 := Fld.other W21 f15 (Or.inl ne_a1_sA)
  have f32 := f16.other W21 ne_wA_sA
  have f33 := f5.other W21 ne_bA_sA
  have f34 := f18.other W21 (Ne.symm ne_sA_hA)
  have K21 : Keep h0 h21 [a1, wA, bA, sA, hA] := K5.wr W21 (Or.inl (List.mem_of_getElem? (i := 3) rfl))
  have Z21 := Nat.le_trans Z5 (Nat.le_of_eq W21.size.symm)
  have N21 := Fr.snoc X21 N5 g_sA
  refine own_s T21 (mkF m 24 #[rv a1, .val (.double (FP.l2d nc)), v_, iv 0] []) st21 ?_
  refine own_s T21 (mkF m 26 #[rv a1, .val (.double (FP.l2d nc)), v_, iv 0] [(.ref a1), (.ref a1)]) (fun _ k => XS.aloadN X21.here hx rfl (hb hby own_dre01P_24) rfl rfl (XS.dup X21.here hx rfl (hb hby own_dre01P_25) rfl rfl k)) ?_
  obtain ⟨T35, X35, e35, st35⟩ := getF X21 hx hZ hown (host := "") (Or.inl (own_h hw 34 rfl)) Via.refl e21 f29 (g := (mkF m 26 #[rv a1, .val (.double (FP.l2d nc)), v_, iv 0] [(.ref a1), (.ref a1)])) rfl rfl (hb hby own_dre01P_26)
  refine own_s T35 (mkF m 29 #[rv a1, .val (.double (FP.l2d nc)), v_, iv 0] [(.int rk), (.ref a1)]) st35 ?_
  refine own_s T35 (mkF m 31 #[rv a1, .val (.double (FP.l2d nc)), v_, iv 0] [(.int (rk + (1 : Int32))), (.ref a1)]) (fun _ k => XS.iconst X35.here hx rfl (hb hby own_dre01P_29) (XS.iadd X35.here hx rfl (hb hby own_dre01P_30) rfl k)) ?_
  obtain ⟨T36, h36, X36, e36, W36, st36⟩ := putF X35 hx hZ hown (host := "") (Or.inl (own_h hw 34 rfl)) Via.refl e35 f29 f22 (Or.inl (own_h hw 35 rfl)) (own_h hw 1 rfl) (ty := .int) (by decide) rfl rfl (g := (mkF m 31 #[rv a1, .val (.double (FP.l2d nc)), v_, iv 0] [(.int (rk + (1 : Int32))), (.ref a1)])) rfl rfl (hb hby own_dre01P_31)
  have Fw36 := Fld.same W36 f29
  have f37 := Exa.wr W36 f22
  have f38 := Fld.other W36 f23 (Or.inr (slot_ne (Or.inr (own_h hw 10 rfl)) (Or.inl (own_h hw 35 rfl)) (by decide) (t := .int) (t' := .int) (by decide) (by decide)))
  have f39 := Fld.other W36 f24 (Or.inr (slot_ne (Or.inr (own_h hw 13 rfl)) (Or.inl (own_h hw 35 rfl)) (by decide) (t := (.array .double)) (t' := .int) (by decide) (by decide)))
  have f40 := Fld.other W36 f25 (Or.inr (slot_ne (Or.inr (own_h hw 15 rfl)) (Or.inl (own_h hw 35 rfl)) (by decide) (t := (.array .double)) (t' := .int) (by decide) (by decide)))
  have f41 := Fld.other W36 f26 (Or.inr (slot_ne (Or.inr (own_h hw 18 rfl)) (Or.inl (own_h hw 35 rfl)) (by decide) (t := (.array .long)) (t' := .int) (by decide) (by decide)))
  have f42 := Fld.other W36 f27 (Or.inr (slot_ne (Or.inr (own_h hw 21 rfl)) (Or.inl (own_h hw 35 rfl)) (by decide) (t := (.array .int)) (t' := .int) (by decide) (by decide)))
  have f43 := Fld.other W36 f28 (Or.inr (slot_ne (Or.inl (own_h hw 33 rfl)) (Or.inl (own_h hw 35 rfl)) (by decide) (t := .long) (t' := .int) (by decide) (by decide)))
  have f44 := Fld.other W36 f30 (Or.inr (slot_ne (Or.inl (own_h hw 37 rfl)) (Or.inl (own_h hw 35 rfl)) (by decide) (t := .int) (t' := .int) (by decide) (by decide)))
  have f45 := Fld.other W36 f31 (Or.inr (slot_ne (Or.inl (own_h hw 39 rfl)) (Or.inl (own_h hw 35 rfl)) (by decide) (t := .int) (t' := .int) (by decide) (by decide)))
  have f46 := f32.other W36 (Ne.symm ne_a1_wA)
  have f47 := f33.other W36 (Ne.symm ne_a1_bA)
  have f48 := f21.other W36 (Ne.symm ne_a1_sA)
  have f49 := f34.other W36 (Ne.symm ne_a1_hA)
  have K36 : Keep h0 h36 [a1, wA, bA, sA, hA] := K21.wr W36 (Or.inl (List.mem_of_getElem? (i := 0) rfl))
  have Z36 := Nat.le_trans Z21 (Nat.le_of_eq W36.size.symm)
  have N36 := Fr.snoc X36 N21 g_a1
  refine own_s T36 (mkF m 34 #[rv a1, .val (.double (FP.l2d nc)), v_, iv 0] []) st36 ?_
  refine own_s T36 (mkF m 35 #[rv a1, .val (.double (FP.l2d nc)), v_, iv 0] [(.double (FP.l2d nc))]) (fun _ k => XS.dloadN X36.here hx rfl (hb hby own_dre01P_34) rfl  k) ?_
  have mg50 := own_mgLit (0 : Int64) (K := 0) rfl rfl
  refine own_s T36 (mkF m 41 #[rv a1, .val (.double (FP.l2d nc)), v_, iv 0] [(.ref a1)]) (fun _ k => XS.dconst0 X36.here hx rfl (hb hby own_dre01P_35) own_dc0 (XS.dcmpS X36.here hx rfl (hb hby own_dre01P_36) rfl (dcmpV_w (own_mgB m_nc (by decide)) (own_mgB mg50 (by decide)) _) (XS.ifNo X36.here hx rfl (hb hby own_dre01P_37) rfl ((if0 _ _).trans (tlt (own_lcgt hc)).2.2.2) (XS.aloadN X36.here hx rfl (hb hby own_dre01P_40) rfl rfl k)))) ?_
  obtain ⟨T51, X51, e51, st51⟩ := getF X36 hx hZ hown (host := "") (Or.inl (own_h hw 36 rfl)) Via.refl e36 f44 (g := (mkF m 41 #[rv a1, .val (.double (FP.l2d nc)), v_, iv 0] [(.ref a1)])) rfl rfl (hb hby own_dre01P_41)
  refine own_s T51 (mkF m 44 #[rv a1, .val (.double (FP.l2d nc)), v_, iv 0] [(.int (-1))]) st51 ?_
  refine own_s T51 (mkF m 61 #[rv a1, .val (.double (FP.l2d nc)), v_, iv 0] [(.int 0), (.ref a1)]) (fun _ k => XS.ifYes X51.here hx rfl (pc0 := 44) (pc' := 59) rfl (hb hby own_dre01P_44) rfl ((if0 _ _).trans (tlt (by decide : ((-1 : Int32) < (0 : Int32)))).1) (by decide) (by decide) (XS.aloadN X51.here hx rfl (hb hby own_dre01P_59) rfl rfl (XS.iloadN X51.here hx rfl (hb hby own_dre01P_60) rfl  k))) ?_
  obtain ⟨T52, h52, X52, e52, W52, st52⟩ := putF X51 hx hZ hown (host := "") (Or.inl (own_h hw 36 rfl)) Via.refl e51 f44 f37 (Or.inl (own_h hw 37 rfl)) (own_h hw 1 rfl) (ty := .int) (by decide) rfl rfl (g := (mkF m 61 #[rv a1, .val (.double (FP.l2d nc)), v_, iv 0] [(.int 0), (.ref a1)])) rfl rfl (hb hby own_dre01P_61)
  have Fw52 := Fld.same W52 f44
  have f53 := Exa.wr W52 f37
  have f54 := Fld.other W52 f38 (Or.inr (slot_ne (Or.inr (own_h hw 10 rfl)) (Or.inl (own_h hw 37 rfl)) (by decide) (t := .int) (t' := .int) (by decide) (by decide)))
  have f55 := Fld.other W52 f39 (Or.inr (slot_ne (Or.inr (own_h hw 13 rfl)) (Or.inl (own_h hw 37 rfl)) (by decide) (t := (.array .double)) (t' := .int) (by decide) (by decide)))
  have f56 := Fld.other W52 f40 (Or.inr (slot_ne (Or.inr (own_h hw 15 rfl)) (Or.inl (own_h hw 37 rfl)) (by decide) (t := (.array .double)) (t' := .int) (by decide) (by decide)))
  have f57 := Fld.other W52 f41 (Or.inr (slot_ne (Or.inr (own_h hw 18 rfl)) (Or.inl (own_h hw 37 rfl)) (by decide) (t := (.array .long)) (t' := .int) (by decide) (by decide)))
  have f58 := Fld.other W52 f42 (Or.inr (slot_ne (Or.inr (own_h hw 21 rfl)) (Or.inl (own_h hw 37 rfl)) (by decide) (t := (.array .int)) (t' := .int) (by decide) (by decide)))
  have f59 := Fld.other W52 f43 (Or.inr (slot_ne (Or.inl (own_h hw 33 rfl)) (Or.inl (own_h hw 37 rfl)) (by decide) (t := .long) (t' := .int) (by decide) (by decide)))
  have f60 := Fld.other W52 Fw36 (Or.inr (slot_ne (Or.inl (own_h hw 35 rfl)) (Or.inl (own_h hw 37 rfl)) (by decide) (t := .int) (t' := .int) (by decide) (by decide)))
  have f61 := Fld.other W52 f45 (Or.inr (slot_ne (Or.inl (own_h hw 39 rfl)) (Or.inl (own_h hw 37 rfl)) (by decide) (t := .int) (t' := .int) (by decide) (by decide)))
  have f62 := f46.other W52 (Ne.symm ne_a1_wA)
  have f63 := f47.other W52 (Ne.symm ne_a1_bA)
  have f64 := f48.other W52 (Ne.symm ne_a1_sA)
  have f65 := f49.other W52 (Ne.symm ne_a1_hA)
  have K52 : Keep h0 h52 [a1, wA, bA, sA, hA] := K36.wr W52 (Or.inl (List.mem_of_getElem? (i := 0) rfl))
  have Z52 := Nat.le_trans Z36 (Nat.le_of_eq W52.size.symm)
  have N52 := Fr.snoc X52 N36 g_a1
  refine own_s T52 (mkF m 64 #[rv a1, .val (.double (FP.l2d nc)), v_, iv 0] []) st52 ?_
  refine own_s T52 (mkF m 65 #[rv a1, .val (.double (FP.l2d nc)), v_, iv 0] [(.double (FP.l2d nc))]) (fun _ k => XS.dloadN X52.here hx rfl (hb hby own_dre01P_64) rfl  k) ?_
  have mg66 := own_mgLit (0 : Int64) (K := 0) rfl rfl
  refine own_s T52 (mkF m 94 #[rv a1, .val (.double (FP.l2d nc)), v_, iv 0] [(.int 0), (.ref a1)]) (fun _ k => XS.dconst0 X52.here hx rfl (hb hby own_dre01P_65) own_dc0 (XS.dcmpS X52.here hx rfl (hb hby own_dre01P_66) rfl (dcmpV_w (own_mgB m_nc (by decide)) (own_mgB mg66 (by decide)) _) (XS.ifYes X52.here hx rfl (pc0 := 67) (pc' := 92) rfl (hb hby own_dre01P_67) rfl ((if0 _ _).trans (tlt (own_lcgt hc)).2.2.1) (by decide) (by decide) (XS.aloadN X52.here hx rfl (hb hby own_dre01P_92) rfl rfl (XS.iconst X52.here hx rfl (hb hby own_dre01P_93) k))))) ?_
  obtain ⟨v67, T67, L67, X67, hQ67, st67⟩ := own_callP X52 hx hZ (y := own_y2) (W := 0) (a := a1) hown (own_h hw 64 rfl) (own_h hw 65 rfl) (own_h hw 1 rfl) (own_h hw 66 rfl) (own_h hw 2 rfl) (own_h hw 67 rfl) (by decide) (own_rms1 l Z a0 hw [] a1 wA bA sA hA kw kb ks kh reach w0 w1 nc b1 fg s1 (0 : Int32) t1 fg (rk + (1 : Int32)) (0 : Int32) h52 n0 Z52 ⟨f53, f54, f55, f56, f57, f58, f59, f60, Fw52, f61, f62, f63, f64, f65⟩ hNE hGE m_w0 m_w1 m_nc m_b1) (by decide) (by decide) f53 (g := (mkF m 94 #[rv a1, .val (.double (FP.l2d nc)), v_, iv 0] [(.int 0), (.ref a1)])) rfl (by rw [hml]; rfl) (argsL := [(.int 0)]) (rest := []) rfl (lenOf own_pd2 rfl) rfl (by show 2 * 0 + _ ≤ _; exact Nat.le_of_eq rfl) (hb hby own_dre01P_94) e52 (by decide) (by decide)
  obtain ⟨rfl, Nq67, Kq67, hq67⟩ := hQ67
  have N67 := Fr.app N52 Nq67
  have K67 : Keep h0 T67.heap [a1, wA, bA, sA, hA] := K52.trans Kq67 (allS (Or.inl (List.mem_of_getElem? (i := 0) rfl)) (allS (Or.inl (List.mem_of_getElem? (i := 1) rfl)) (allS (Or.inl (List.mem_of_getElem? (i := 2) rfl)) (allS (Or.inl (List.mem_of_getElem? (i := 3) rfl)) (allS (Or.inl (List.mem_of_getElem? (i := 4) rfl)) all0)))))
  have Z67 := Nat.le_trans Z52 Kq67.1
  obtain ⟨u68_0, u68_1, u68_2, u68_3, u68_4, u68_5, u68_6, u68_7, u68_8, u68_9, u68_10, u68_11, u68_12, u68_13⟩ := id hq67
  refine own_s T67 (mkF m 97 #[rv a1, .val (.double (FP.l2d nc)), v_, iv 0] []) st67 ?_
  exact own_finV X67 hx hret (hb hby own_dre01P_97) (own_end (Qv := (own_Qre01P Z a1 wA bA sA hA kw kb ks kh reach w0 w1 b0 b1 s0 s1 t1 fg rk nc h0 n0)) X67 (fun _ => rfl) hlk (by decide) (by decide) rfl ⟨rfl, N67, K67, ⟨u68_0, u68_1, u68_2, u68_3, u68_4, u68_5, u68_6, u68_7, u68_8, u68_9, u68_10, u68_11, u68_12, u68_13⟩⟩)
theorem own_dre01N_0 : decode prog_47_method_7_code 0 = .ok (.aload_n 0, 1) := by decide +kernel
theorem own_dre01N_1 : decode prog_47_method_7_code 1 = .ok (.getfield 24, 3) := by decide +kernel
theorem own_dre01N_4 : decode prog_47_method_7_code 4 = .ok (.iconst 0, 1) := by decide +kernel
theorem own_dre01N_5 : decode prog_47_method_7_code 5 = .ok (.iaload, 1) := by decide +kernel
theorem own_dre01N_6 : decode prog_47_method_7_code 6 = .ok (.istore_n 3, 1) := by decide +kernel
theorem own_dre01N_7 : decode prog_47_method_7_code 7 = .ok (.aload_n 0, 1) := by decide +kernel
theorem own_dre01N_8 : decode prog_47_method_7_code 8 = .ok (.getfield 17, 3) := by decide +kernel
theorem own_dre01N_11 : decode prog_47_method_7_code 11 = .ok (.iload_n 3, 1) := by decide +kernel
theorem own_dre01N_12 : decode prog_47_method_7_code 12 = .ok (.dload_n 1, 1) := by decide +kernel
theorem own_dre01N_13 : decode prog_47_method_7_code 13 = .ok (.dastore, 1) := by decide +kernel
theorem own_dre01N_14 : decode prog_47_method_7_code 14 = .ok (.aload_n 0, 1) := by decide +kernel
theorem own_dre01N_15 : decode prog_47_method_7_code 15 = .ok (.getfield 20, 3) := by decide +kernel
theorem own_dre01N_18 : decode prog_47_method_7_code 18 = .ok (.iload_n 3, 1) := by decide +kernel
theorem own_dre01N_19 : decode prog_47_method_7_code 19 = .ok (.aload_n 0, 1) := by decide +kernel
theorem own_dre01N_20 : decode prog_47_method_7_code 20 = .ok (.getfield 34, 3) := by decide +kernel
theorem own_dre01N_23 : decode prog_47_method_7_code 23 = .ok (.lastore, 1) := by decide +kernel
theorem own_dre01N_24 : decode prog_47_method_7_code 24 = .ok (.aload_n 0, 1) := by decide +kernel
theorem own_dre01N_25 : decode prog_47_method_7_code 25 = .ok (.dup, 1) := by decide +kernel
theorem own_dre01N_26 : decode prog_47_method_7_code 26 = .ok (.getfield 42, 3) := by decide +kernel
theorem own_dre01N_29 : decode prog_47_method_7_code 29 = .ok (.iconst 1, 1) := by decide +kernel
theorem own_dre01N_30 : decode prog_47_method_7_code 30 = .ok (.iadd, 1) := by decide +kernel
theorem own_dre01N_31 : decode prog_47_method_7_code 31 = .ok (.putfield 42, 3) := by decide +kernel
theorem own_dre01N_34 : decode prog_47_method_7_code 34 = .ok (.dload_n 1, 1) := by decide +kernel
theorem own_dre01N_35 : decode prog_47_method_7_code 35 = .ok (.dconst 0, 1) := by decide +kernel
theorem own_dre01N_36 : decode prog_47_method_7_code 36 = .ok (.dcmp .l, 1) := by decide +kernel
theorem own_dre01N_37 : decode prog_47_method_7_code 37 = .ok (.ifCond .le 27, 3) := by decide +kernel
theorem own_dre01N_64 : decode prog_47_method_7_code 64 = .ok (.dload_n 1, 1) := by decide +kernel
theorem own_dre01N_65 : decode prog_47_method_7_code 65 = .ok (.dconst 0, 1) := by decide +kernel
theorem own_dre01N_66 : decode prog_47_method_7_code 66 = .ok (.dcmp .g, 1) := by decide +kernel
theorem own_dre01N_67 : decode prog_47_method_7_code 67 = .ok (.ifCond .gt 25, 3) := by decide +kernel
theorem own_dre01N_70 : decode prog_47_method_7_code 70 = .ok (.aload_n 0, 1) := by decide +kernel
theorem own_dre01N_71 : decode prog_47_method_7_code 71 = .ok (.getfield 24, 3) := by decide +kernel
theorem own_dre01N_74 : decode prog_47_method_7_code 74 = .ok (.iconst 0, 1) := by decide +kernel
theorem own_dre01N_75 : decode prog_47_method_7_code 75 = .ok (.aload_n 0, 1) := by decide +kernel
theorem own_dre01N_76 : decode prog_47_method_7_code 76 = .ok (.getfield 24, 3) := by decide +kernel
theorem own_dre01N_79 : decode prog_47_method_7_code 79 = .ok (.aload_n 0, 1) := by decide +kernel
theorem own_dre01N_80 : decode prog_47_method_7_code 80 = .ok (.dup, 1) := by decide +kernel
theorem own_dre01N_81 : decode prog_47_method_7_code 81 = .ok (.getfield 31, 3) := by decide +kernel
theorem own_dre01N_84 : decode prog_47_method_7_code 84 = .ok (.iconst 1, 1) := by decide +kernel
theorem own_dre01N_85 : decode prog_47_method_7_code 85 = .ok (.isub, 1) := by decide +kernel
theorem own_dre01N_86 : decode prog_47_method_7_code 86 = .ok (.dup_x1, 1) := by decide +kernel
theorem own_dre01N_87 : decode prog_47_method_7_code 87 = .ok (.putfield 31, 3) := by decide +kernel
theorem own_dre01N_90 : decode prog_47_method_7_code 90 = .ok (.iaload, 1) := by decide +kernel
theorem own_dre01N_91 : decode prog_47_method_7_code 91 = .ok (.iastore, 1) := by decide +kernel
theorem own_dre01N_92 : decode prog_47_method_7_code 92 = .ok (.aload_n 0, 1) := by decide +kernel
theorem own_dre01N_93 : decode prog_47_method_7_code 93 = .ok (.iconst 0, 1) := by decide +kernel
theorem own_dre01N_94 : decode prog_47_method_7_code 94 = .ok (.invokevirtual 52, 3) := by decide +kernel
theorem own_dre01N_97 : decode prog_47_method_7_code 97 = .ok (.return_, 1) := by decide +kernel
theorem own_efre01N (m : MethodId) (x0 : Addr) (x1 : UInt64) : entryFrame m #[(.ref x0), (.double x1)] 4 = mkF m 0 #[rv x0, .val (.double x1), v_, u_] [] := by first | (simp [entryFrame, mkF, argsToLocals, Value.category]; done) | rfl
def own_Qre01N (Z : State) (a1 : Addr) (wA bA sA hA : Addr) (kw kb ks kh : ClassId) (reach : Int32) (w0 : Int64) (w1 : Int64) (b0 : Int64) (b1 : Int64) (s0 : Int64) (s1 : Int64) (t1 : Int32) (fg : Int64) (rk : Int32) (nc : Int64) (h0 : Heap) (n0 : Nat) : Option Value → Heap → List Loc → Prop := fun v h L => v = none ∧ Fr n0 L ∧ Keep h0 h [a1, wA, bA, sA, hA] ∧ own_CQ Z h a1 wA bA sA hA kw kb ks kh reach w0 w1 nc b1 fg s1 (0 : Int32) t1 fg (rk + (1 : Int32)) (-1 : Int32) (0 : Int32)
def own_Rre01N : Room := { frames := 1, cells := 0, slots := 0, locals := 18 }
set_option maxRecDepth 65536 in
set_option maxHeartbeats 40000000 in
theorem own_rmre01N (l : Launch) (Z : State) (a0 : Array Value) (hw : ∀ d ∈ tables_1, d.before a0 Z = true) (ws : List Jvm.Cond) (a1 : Addr) (wA bA sA hA : Addr) (kw kb ks kh : ClassId) (reach : Int32) (w0 : Int64) (w1 : Int64) (b0 : Int64) (b1 : Int64) (s0 : Int64) (s1 : Int64) (t1 : Int32) (fg : Int64) (rk : Int32) (nc : Int64) (h0 : Heap) (n0 : Nat) (Z0 : n0 ≤ h0.size) (hCQ : own_CQ Z h0 a1 wA bA sA hA kw kb ks kh reach w0 w1 b0 b1 s0 s1 (0 : Int32) t1 fg rk (-1 : Int32) (1 : Int32)) (hNE : own_NE a1 wA bA sA hA) (hGE : own_GE n0 a1 wA bA sA hA) (m_w0 : own_Mg 8 w0) (m_w1 : own_Mg 8 w1) (m_b0 : own_Mg 8 b0) (m_b1 : own_Mg 8 b1) (m_nc : own_Mg 8 nc) (hc : ¬ (0 : Int64) < nc) :
    own_Met l Z own_y6 prog_47_method_7_code 4 none ws own_Rre01N h0 #[(.ref a1), (.double (FP.l2d nc))] (own_Qre01N Z a1 wA bA sA hA kw kb ks kh reach w0 w1 b0 b1 s0 s1 t1 fg rk nc h0 n0) own_Rre01N.cells own_Rre01N.slots := by
  refine own_start (plainFor_of_name own_pn0) ?_
  intro p e s m below meth c s₁ X0 hx hZ hby hml hret hlk hown hnm e0
  have hown : s.vm.findClass "com/example/allotrope/allotrope/procure/CoverQueue" = some m.cls := hown
  have hml : c.maxLocals = 4 := hml
  have N0 := Fr.nil n0
  refine own_cast (own_efre01N m a1 (FP.l2d nc)) ?_
  obtain ⟨ne_a1_wA, ne_a1_bA, ne_a1_sA, ne_a1_hA, ne_wA_bA, ne_wA_sA, ne_wA_hA, ne_bA_sA, ne_bA_hA, ne_sA_hA⟩ := id hNE
  obtain ⟨g_a1, g_wA, g_bA, g_sA, g_hA⟩ := id hGE
  obtain ⟨u1_0, u1_1, u1_2, u1_3, u1_4, u1_5, u1_6, u1_7, u1_8, u1_9, u1_10, u1_11, u1_12, u1_13⟩ := id hCQ
  refine own_s s₁ (mkF m 1 #[rv a1, .val (.double (FP.l2d nc)), v_, u_] [(.ref a1)]) (fun _ k => XS.aloadN X0.here hx rfl (hb hby own_dre01N_0) rfl rfl k) ?_
  obtain ⟨T2, X2, e2, st2⟩ := getF X0 hx hZ hown (host := "") (Or.inl (own_h hw 20 rfl)) Via.refl e0 u1_5 (g := (mkF m 1 #[rv a1, .val (.double (FP.l2d nc)), v_, u_] [(.ref a1)])) rfl rfl (hb hby own_dre01N_1)
  refine own_s T2 (mkF m 4 #[rv a1, .val (.double (FP.l2d nc)), v_, u_] [(.ref hA)]) st2 ?_
  refine own_s T2 (mkF m 5 #[rv a1, .val (.double (FP.l2d nc)), v_, u_] [(.int 0), (.ref hA)]) (fun _ k => XS.iconst X2.here hx rfl (hb hby own_dre01N_4) k) ?_
  obtain ⟨cl3, Ar3, q3, S3, Nn3, H3, G3⟩ := id u1_13
  have hin3 : ¬ ((0 : Int32) < 0 ∨ cl3.slots.size ≤ ((0 : Int32)).toNatClampNeg) := (inb_of S3 ⟨by decide, by decide⟩)
  refine own_s T2 (mkF m 8 #[rv a1, .val (.double (FP.l2d nc)), v_, iv 0] [(.ref a1)]) (fun _ k => X2.iaload hx (j := (0 : Int32)) (v := (.int 0)) (own_at e2 Ar3.1) (State.isArrayOf_alike hZ.alike Ar3.2.1) Ar3.2.2 hin3 (Has.at H3 hin3 rfl) (g := (mkF m 5 #[rv a1, .val (.double (FP.l2d nc)), v_, u_] [(.int 0), (.ref hA)])) rfl rfl (hb hby own_dre01N_5) _ (XS.istoreN X2.here hx rfl (hb hby own_dre01N_6) rfl (l' := #[rv a1, .val (.double (FP.l2d nc)), v_, iv 0]) rfl (XS.aloadN X2.here hx rfl (hb hby own_dre01N_7) rfl rfl k))) ?_
  obtain ⟨T4, X4, e4, st4⟩ := getF X2 hx hZ hown (host := "") (Or.inl (own_h hw 14 rfl)) Via.refl e2 u1_3 (g := (mkF m 8 #[rv a1, .val (.double (FP.l2d nc)), v_, iv 0] [(.ref a1)])) rfl rfl (hb hby own_dre01N_8)
  refine own_s T4 (mkF m 11 #[rv a1, .val (.double (FP.l2d nc)), v_, iv 0] [(.ref bA)]) st4 ?_
  refine own_s T4 (mkF m 13 #[rv a1, .val (.double (FP.l2d nc)), v_, iv 0] [(.double (FP.l2d nc)), (.int 0), (.ref bA)]) (fun _ k => XS.iloadN X4.here hx rfl (hb hby own_dre01N_11) rfl  (XS.dloadN X4.here hx rfl (hb hby own_dre01N_12) rfl  k)) ?_
  obtain ⟨cl5, Ar5, q5, S5, Nn5, H5, G5⟩ := id u1_11
  have hin5 : ¬ ((0 : Int32) < 0 ∨ cl5.slots.size ≤ ((0 : Int32)).toNatClampNeg) := (inb_of S5 ⟨by decide, by decide⟩)
  obtain ⟨T5, h5, X5, e5, W5, st5⟩ := stD X4 hx hZ e4 Ar5 (j := (0 : Int32)) hin5 (g := (mkF m 13 #[rv a1, .val (.double (FP.l2d nc)), v_, iv 0] [(.double (FP.l2d nc)), (.int 0), (.ref bA)])) rfl rfl (hb hby own_dre01N_13)
  have f5 : Arv Z h5 bA kb .double (2 : Int32) [(.double (FP.l2d nc)), (.double (FP.l2d b1))] (.double (FP.l2d 0)) := Arv.set Ar5 q5 S5 Nn5 H5 G5 rfl W5 0 rfl (Nat.le_of_ble_eq_true rfl)
  have f6 := Exa.wr W5 u1_0
  have f7 := Fld.other W5 u1_1 (Or.inl ne_a1_bA)
  have f8 := Fld.other W5 u1_2 (Or.inl ne_a1_bA)
  have f9 := Fld.other W5 u1_3 (Or.inl ne_a1_bA)
  have f10 := Fld.other W5 u1_4 (Or.inl ne_a1_bA)
  have f11 := Fld.other W5 u1_5 (Or.inl ne_a1_bA)
  have f12 := Fld.other W5 u1_6 (Or.inl ne_a1_bA)
  have f13 := Fld.other W5 u1_7 (Or.inl ne_a1_bA)
  have f14 := Fld.other W5 u1_8 (Or.inl ne_a1_bA)
  have f15 := Fld.other W5 u1_9 (Or.inl ne_a1_bA)
  have f16 := u1_10.other W5 ne_wA_bA
  have f17 := u1_12.other W5 (Ne.symm ne_bA_sA)
  have f18 := u1_13.other W5 (Ne.symm ne_bA_hA)
  have K5 : Keep h0 h5 [a1, wA, bA, sA, hA] := (Keep.refl h0 [a1, wA, bA, sA, hA]).wr W5 (Or.inl (List.mem_of_getElem? (i := 2) rfl))
  have Z5 := Nat.le_trans Z0 (Nat.le_of_eq W5.size.symm)
  have N5 := Fr.snoc X5 N0 g_bA
  refine own_s T5 (mkF m 14 #[rv a1, .val (.double (FP.l2d nc)), v_, iv 0] []) st5 ?_
  refine own_s T5 (mkF m 15 #[rv a1, .val (.double (FP.l2d nc)), v_, iv 0] [(.ref a1)]) (fun _ k => XS.aloadN X5.here hx rfl (hb hby own_dre01N_14) rfl rfl k) ?_
  obtain ⟨T19, X19, e19, st19⟩ := getF X5 hx hZ hown (host := "") (Or.inl (own_h hw 17 rfl)) Via.refl e5 f10 (g := (mkF m 15 #[rv a1, .val (.double (FP.l2d nc)), v_, iv 0] [(.ref a1)])) rfl rfl (hb hby own_dre01N_15)
  refine own_s T19 (mkF m 18 #[rv a1, .val (.double (FP.l2d nc)), v_, iv 0] [(.ref sA)]) st19 ?_
  refine own_s T19 (mkF m 20 #[rv a1, .val (.double (FP.l2d nc)), v_, iv 0] [(.ref a1), (.int 0), (.ref sA)]) (fun _ k => XS.iloadN X19.here hx rfl (hb hby own_dre01N_18) rfl  (XS.aloadN X19.here hx rfl (hb hby own_dre01N_19) rfl rfl k)) ?_
  obtain ⟨T20, X20, e20, st20⟩ := getF X19 hx hZ hown (host := "") (Or.inl (own_h hw 32 rfl)) Via.refl e19 f12 (g := (mkF m 20 #[rv a1, .val (.double (FP.l2d nc)), v_, iv 0] [(.ref a1), (.int 0), (.ref sA)])) rfl rfl (hb hby own_dre01N_20)
  refine own_s T20 (mkF m 23 #[rv a1, .val (.double (FP.l2d nc)), v_, iv 0] [(.long fg), (.int 0), (.ref sA)]) st20 ?_
  obtain ⟨cl21, Ar21, q21, S21, Nn21, H21, G21⟩ := id f17
  have hin21 : ¬ ((0 : Int32) < 0 ∨ cl21.slots.size ≤ ((0 : Int32)).toNatClampNeg) := (inb_of S21 ⟨by decide, by decide⟩)
  obtain ⟨T21, h21, X21, e21, W21, st21⟩ := stJ X20 hx hZ e20 Ar21 (j := (0 : Int32)) hin21 (g := (mkF m 23 #[rv a1, .val (.double (FP.l2d nc)), v_, iv 0] [(.long fg), (.int 0), (.ref sA)])) rfl rfl (hb hby own_dre01N_23)
  have f21 : Arv Z h21 sA ks .long (2 : Int32) [(.long fg), (.long s1)] (.long 0) := Arv.set Ar21 q21 S21 Nn21 H21 G21 rfl W21 0 rfl (Nat.le_of_ble_eq_true rfl)
  have f22 := Exa.wr W21 f6
  have f23 := Fld.other W21 f7 (Or.inl ne_a1_sA)
  have f24 := Fld.other W21 f8 (Or.inl ne_a1_sA)
  have f25 := Fld.other W21 f9 (Or.inl ne_a1_sA)
  have f26 := Fld.other W21 f10 (Or.inl ne_a1_sA)
  have f27 := Fld.other W21 f11 (Or.inl ne_a1_sA)
  have f28 := Fld.other W21 f12 (Or.inl ne_a1_sA)
  have f29 := Fld.other W21 f13 (Or.inl ne_a1_sA)
  have f30 := Fld.other W21 f14 (Or.inl ne_a1_sA)
  have f31 := Fld.other W21 f15 (Or.inl ne_a1_sA)
  have f32 := f16.other W21 ne_wA_sA
  have f33 := f5.other W21 ne_bA_sA
  have f34 := f18.other W21 (Ne.symm ne_sA_hA)
  have K21 : Keep h0 h21 [a1, wA, bA, sA, hA] := K5.wr W21 (Or.inl (List.mem_of_getElem? (i := 3) rfl))
  have Z21 := Nat.le_trans Z5 (Nat.le_of_eq W21.size.symm)
  have N21 := Fr.snoc X21 N5 g_sA
  refine own_s T21 (mkF m 24 #[rv a1, .val (.double (FP.l2d nc)), v_, iv 0] []) st21 ?_
  refine own_s T21 (mkF m 26 #[rv a1, .val (.double (FP.l2d nc)), v_, iv 0] [(.ref a1), (.ref a1)]) (fun _ k => XS.aloadN X21.here hx rfl (hb hby own_dre01N_24) rfl rfl (XS.dup X21.here hx rfl (hb hby own_dre01N_25) rfl rfl k)) ?_
  obtain ⟨T35, X35, e35, st35⟩ := getF X21 hx hZ hown (host := "") (Or.inl (own_h hw 34 rfl)) Via.refl e21 f29 (g := (mkF m 26 #[rv a1, .val (.double (FP.l2d nc)), v_, iv 0] [(.ref a1), (.ref a1)])) rfl rfl (hb hby own_dre01N_26)
  refine own_s T35 (mkF m 29 #[rv a1, .val (.double (FP.l2d nc)), v_, iv 0] [(.int rk), (.ref a1)]) st35 ?_
  refine own_s T35 (mkF m 31 #[rv a1, .val (.double (FP.l2d nc)), v_, iv 0] [(.int (rk + (1 : Int32))), (.ref a1)]) (fun _ k => XS.iconst X35.here hx rfl (hb hby own_dre01N_29) (XS.iadd X35.here hx rfl (hb hby own_dre01N_30) rfl k)) ?_
  obtain ⟨T36, h36, X36, e36, W36, st36⟩ := putF X35 hx hZ hown (host := "") (Or.inl (own_h hw 34 rfl)) Via.refl e35 f29 f22 (Or.inl (own_h hw 35 rfl)) (own_h hw 1 rfl) (ty := .int) (by decide) rfl rfl (g := (mkF m 31 #[rv a1, .val (.double (FP.l2d nc)), v_, iv 0] [(.int (rk + (1 : Int32))), (.ref a1)])) rfl rfl (hb hby own_dre01N_31)
  have Fw36 := Fld.same W36 f29
  have f37 := Exa.wr W36 f22
  have f38 := Fld.other W36 f23 (Or.inr (slot_ne (Or.inr (own_h hw 10 rfl)) (Or.inl (own_h hw 35 rfl)) (by decide) (t := .int) (t' := .int) (by decide) (by decide)))
  have f39 := Fld.other W36 f24 (Or.inr (slot_ne (Or.inr (own_h hw 13 rfl)) (Or.inl (own_h hw 35 rfl)) (by decide) (t := (.array .double)) (t' := .int) (by decide) (by decide)))
  have f40 := Fld.other W36 f25 (Or.inr (slot_ne (Or.inr (own_h hw 15 rfl)) (Or.inl (own_h hw 35 rfl)) (by decide) (t := (.array .double)) (t' := .int) (by decide) (by decide)))
  have f41 := Fld.other W36 f26 (Or.inr (slot_ne (Or.inr (own_h hw 18 rfl)) (Or.inl (own_h hw 35 rfl)) (by decide) (t := (.array .long)) (t' := .int) (by decide) (by decide)))
  have f42 := Fld.other W36 f27 (Or.inr (slot_ne (Or.inr (own_h hw 21 rfl)) (Or.inl (own_h hw 35 rfl)) (by decide) (t := (.array .int)) (t' := .int) (by decide) (by decide)))
  have f43 := Fld.other W36 f28 (Or.inr (slot_ne (Or.inl (own_h hw 33 rfl)) (Or.inl (own_h hw 35 rfl)) (by decide) (t := .long) (t' := .int) (by decide) (by decide)))
  have f44 := Fld.other W36 f30 (Or.inr (slot_ne (Or.inl (own_h hw 37 rfl)) (Or.inl (own_h hw 35 rfl)) (by decide) (t := .int) (t' := .int) (by decide) (by decide)))
  have f45 := Fld.other W36 f31 (Or.inr (slot_ne (Or.inl (own_h hw 39 rfl)) (Or.inl (own_h hw 35 rfl)) (by decide) (t := .int) (t' := .int) (by decide) (by decide)))
  have f46 := f32.other W36 (Ne.symm ne_a1_wA)
  have f47 := f33.other W36 (Ne.symm ne_a1_bA)
  have f48 := f21.other W36 (Ne.symm ne_a1_sA)
  have f49 := f34.other W36 (Ne.symm ne_a1_hA)
  have K36 : Keep h0 h36 [a1, wA, bA, sA, hA] := K21.wr W36 (Or.inl (List.mem_of_getElem? (i := 0) rfl))
  have Z36 := Nat.le_trans Z21 (Nat.le_of_eq W36.size.symm)
  have N36 := Fr.snoc X36 N21 g_a1
  refine own_s T36 (mkF m 34 #[rv a1, .val (.double (FP.l2d nc)), v_, iv 0] []) st36 ?_
  refine own_s T36 (mkF m 35 #[rv a1, .val (.double (FP.l2d nc)), v_, iv 0] [(.double (FP.l2d nc))]) (fun _ k => XS.dloadN X36.here hx rfl (hb hby own_dre01N_34) rfl  k) ?_
  have mg50 := own_mgLit (0 : Int64) (K := 0) rfl rfl
  refine own_s T36 (mkF m 65 #[rv a1, .val (.double (FP.l2d nc)), v_, iv 0] [(.double (FP.l2d nc))]) (fun _ k => XS.dconst0 X36.here hx rfl (hb hby own_dre01N_35) own_dc0 (XS.dcmpS X36.here hx rfl (hb hby own_dre01N_36) rfl (dcmpV_w (own_mgB m_nc (by decide)) (own_mgB mg50 (by decide)) _) (XS.ifYes X36.here hx rfl (pc0 := 37) (pc' := 64) rfl (hb hby own_dre01N_37) rfl ((if0 _ _).trans (flt (own_lcgtN hc)).2.2.2) (by decide) (by decide) (XS.dloadN X36.here hx rfl (hb hby own_dre01N_64) rfl  k)))) ?_
  have mg51 := own_mgLit (0 : Int64) (K := 0) rfl rfl
  refine own_s T36 (mkF m 71 #[rv a1, .val (.double (FP.l2d nc)), v_, iv 0] [(.ref a1)]) (fun _ k => XS.dconst0 X36.here hx rfl (hb hby own_dre01N_65) own_dc0 (XS.dcmpS X36.here hx rfl (hb hby own_dre01N_66) rfl (dcmpV_w (own_mgB m_nc (by decide)) (own_mgB mg51 (by decide)) _) (XS.ifNo X36.here hx rfl (hb hby own_dre01N_67) rfl ((if0 _ _).trans (flt (own_lcgtN hc)).2.2.1) (XS.aloadN X36.here hx rfl (hb hby own_dre01N_70) rfl rfl k)))) ?_
  obtain ⟨T52, X52, e52, st52⟩ := getF X36 hx hZ hown (host := "") (Or.inl (own_h hw 20 rfl)) Via.refl e36 f42 (g := (mkF m 71 #[rv a1, .val (.double (FP.l2d nc)), v_, iv 0] [(.ref a1)])) rfl rfl (hb hby own_dre01N_71)
  refine own_s T52 (mkF m 74 #[rv a1, .val (.double (FP.l2d nc)), v_, iv 0] [(.ref hA)]) st52 ?_
  refine own_s T52 (mkF m 76 #[rv a1, .val (.double (FP.l2d nc)), v_, iv 0] [(.ref a1), (.int 0), (.ref hA)]) (fun _ k => XS.iconst X52.here hx rfl (hb hby own_dre01N_74) (XS.aloadN X52.here hx rfl (hb hby own_dre01N_75) rfl rfl k)) ?_
  obtain ⟨T53, X53, e53, st53⟩ := getF X52 hx hZ hown (host := "") (Or.inl (own_h hw 20 rfl)) Via.refl e52 f42 (g := (mkF m 76 #[rv a1, .val (.double (FP.l2d nc)), v_, iv 0] [(.ref a1), (.int 0), (.ref hA)])) rfl rfl (hb hby own_dre01N_76)
  refine own_s T53 (mkF m 79 #[rv a1, .val (.double (FP.l2d nc)), v_, iv 0] [(.ref hA), (.int 0), (.ref hA)]) st53 ?_
  refine own_s T53 (mkF m 81 #[rv a1, .val (.double (FP.l2d nc)), v_, iv 0] [(.ref a1), (.ref a1), (.ref hA), (.int 0), (.ref hA)]) (fun _ k => XS.aloadN X53.here hx rfl (hb hby own_dre01N_79) rfl rfl (XS.dup X53.here hx rfl (hb hby own_dre01N_80) rfl rfl k)) ?_
  obtain ⟨T54, X54, e54, st54⟩ := getF X53 hx hZ hown (host := "") (Or.inl (own_h hw 38 rfl)) Via.refl e53 f45 (g := (mkF m 81 #[rv a1, .val (.double (FP.l2d nc)), v_, iv 0] [(.ref a1), (.ref a1), (.ref hA), (.int 0), (.ref hA)])) rfl rfl (hb hby own_dre01N_81)
  refine own_s T54 (mkF m 84 #[rv a1, .val (.double (FP.l2d nc)), v_, iv 0] [(.int 1), (.ref a1), (.ref hA), (.int 0), (.ref hA)]) st54 ?_
  refine own_s T54 (mkF m 87 #[rv a1, .val (.double (FP.l2d nc)), v_, iv 0] [(.int 0), (.ref a1), (.int 0), (.ref hA), (.int 0), (.ref hA)]) (fun _ k => XS.iconst X54.here hx rfl (hb hby own_dre01N_84) (XS.isub X54.here hx rfl (hb hby own_dre01N_85) rfl (XS.dupX1 X54.here hx rfl (hb hby own_dre01N_86) rfl rfl rfl k))) ?_
  obtain ⟨T55, h55, X55, e55, W55, st55⟩ := putF X54 hx hZ hown (host := "") (Or.inl (own_h hw 38 rfl)) Via.refl e54 f45 f37 (Or.inl (own_h hw 39 rfl)) (own_h hw 1 rfl) (ty := .int) (by decide) rfl rfl (g := (mkF m 87 #[rv a1, .val (.double (FP.l2d nc)), v_, iv 0] [(.int 0), (.ref a1), (.int 0), (.ref hA), (.int 0), (.ref hA)])) rfl rfl (hb hby own_dre01N_87)
  have Fw55 := Fld.same W55 f45
  have f56 := Exa.wr W55 f37
  have f57 := Fld.other W55 f38 (Or.inr (slot_ne (Or.inr (own_h hw 10 rfl)) (Or.inl (own_h hw 39 rfl)) (by decide) (t := .int) (t' := .int) (by decide) (by decide)))
  have f58 := Fld.other W55 f39 (Or.inr (slot_ne (Or.inr (own_h hw 13 rfl)) (Or.inl (own_h hw 39 rfl)) (by decide) (t := (.array .double)) (t' := .int) (by decide) (by decide)))
  have f59 := Fld.other W55 f40 (Or.inr (slot_ne (Or.inr (own_h hw 15 rfl)) (Or.inl (own_h hw 39 rfl)) (by decide) (t := (.array .double)) (t' := .int) (by decide) (by decide)))
  have f60 := Fld.other W55 f41 (Or.inr (slot_ne (Or.inr (own_h hw 18 rfl)) (Or.inl (own_h hw 39 rfl)) (by decide) (t := (.array .long)) (t' := .int) (by decide) (by decide)))
  have f61 := Fld.other W55 f42 (Or.inr (slot_ne (Or.inr (own_h hw 21 rfl)) (Or.inl (own_h hw 39 rfl)) (by decide) (t := (.array .int)) (t' := .int) (by decide) (by decide)))
  have f62 := Fld.other W55 f43 (Or.inr (slot_ne (Or.inl (own_h hw 33 rfl)) (Or.inl (own_h hw 39 rfl)) (by decide) (t := .long) (t' := .int) (by decide) (by decide)))
  have f63 := Fld.other W55 Fw36 (Or.inr (slot_ne (Or.inl (own_h hw 35 rfl)) (Or.inl (own_h hw 39 rfl)) (by decide) (t := .int) (t' := .int) (by decide) (by decide)))
  have f64 := Fld.other W55 f44 (Or.inr (slot_ne (Or.inl (own_h hw 37 rfl)) (Or.inl (own_h hw 39 rfl)) (by decide) (t := .int) (t' := .int) (by decide) (by decide)))
  have f65 := f46.other W55 (Ne.symm ne_a1_wA)
  have f66 := f47.other W55 (Ne.symm ne_a1_bA)
  have f67 := f48.other W55 (Ne.symm ne_a1_sA)
  have f68 := f49.other W55 (Ne.symm ne_a1_hA)
  have K55 : Keep h0 h55 [a1, wA, bA, sA, hA] := K36.wr W55 (Or.inl (List.mem_of_getElem? (i := 0) rfl))
  have Z55 := Nat.le_trans Z36 (Nat.le_of_eq W55.size.symm)
  have N55 := Fr.snoc X55 N36 g_a1
  refine own_s T55 (mkF m 90 #[rv a1, .val (.double (FP.l2d nc)), v_, iv 0] [(.int 0), (.ref hA), (.int 0), (.ref hA)]) st55 ?_
  obtain ⟨cl69, Ar69, q69, S69, Nn69, H69, G69⟩ := id f68
  have hin69 : ¬ ((0 : Int32) < 0 ∨ cl69.slots.size ≤ ((0 : Int32)).toNatClampNeg) := (inb_of S69 ⟨by decide, by decide⟩)
  refine own_s T55 (mkF m 91 #[rv a1, .val (.double (FP.l2d nc)), v_, iv 0] [(.int 0), (.int 0), (.ref hA)]) (fun _ k => X55.iaload hx (j := (0 : Int32)) (v := (.int 0)) (own_at e55 Ar69.1) (State.isArrayOf_alike hZ.alike Ar69.2.1) Ar69.2.2 hin69 (Has.at H69 hin69 rfl) (g := (mkF m 90 #[rv a1, .val (.double (FP.l2d nc)), v_, iv 0] [(.int 0), (.ref hA), (.int 0), (.ref hA)])) rfl rfl (hb hby own_dre01N_90) _ k) ?_
  obtain ⟨cl70, Ar70, q70, S70, Nn70, H70, G70⟩ := id f68
  have hin70 : ¬ ((0 : Int32) < 0 ∨ cl70.slots.size ≤ ((0 : Int32)).toNatClampNeg) := (inb_of S70 ⟨by decide, by decide⟩)
  obtain ⟨T70, h70, X70, e70, W70, st70⟩ := stI X55 hx hZ e55 Ar70 (j := (0 : Int32)) hin70 (g := (mkF m 91 #[rv a1, .val (.double (FP.l2d nc)), v_, iv 0] [(.int 0), (.int 0), (.ref hA)])) rfl rfl (hb hby own_dre01N_91)
  have f70 : Arv Z h70 hA kh .int (2 : Int32) [(.int 0), (.int t1)] (.int 0) := Arv.set Ar70 q70 S70 Nn70 H70 G70 rfl W70 0 rfl (Nat.le_of_ble_eq_true rfl)
  have f71 := Exa.wr W70 f56
  have f72 := Fld.other W70 f57 (Or.inl ne_a1_hA)
  have f73 := Fld.other W70 f58 (Or.inl ne_a1_hA)
  have f74 := Fld.other W70 f59 (Or.inl ne_a1_hA)
  have f75 := Fld.other W70 f60 (Or.inl ne_a1_hA)
  have f76 := Fld.other W70 f61 (Or.inl ne_a1_hA)
  have f77 := Fld.other W70 f62 (Or.inl ne_a1_hA)
  have f78 := Fld.other W70 f63 (Or.inl ne_a1_hA)
  have f79 := Fld.other W70 f64 (Or.inl ne_a1_hA)
  have f80 := Fld.other W70 Fw55 (Or.inl ne_a1_hA)
  have f81 := f65.other W70 ne_wA_hA
  have f82 := f66.other W70 ne_bA_hA
  have f83 := f67.other W70 ne_sA_hA
  have K70 : Keep h0 h70 [a1, wA, bA, sA, hA] := K55.wr W70 (Or.inl (List.mem_of_getElem? (i := 4) rfl))
  have Z70 := Nat.le_trans Z55 (Nat.le_of_eq W70.size.symm)
  have N70 := Fr.snoc X70 N55 g_hA
  refine own_s T70 (mkF m 92 #[rv a1, .val (.double (FP.l2d nc)), v_, iv 0] []) st70 ?_
  refine own_s T70 (mkF m 94 #[rv a1, .val (.double (FP.l2d nc)), v_, iv 0] [(.int 0), (.ref a1)]) (fun _ k => XS.aloadN X70.here hx rfl (hb hby own_dre01N_92) rfl rfl (XS.iconst X70.here hx rfl (hb hby own_dre01N_93) k)) ?_
  obtain ⟨v84, T84, L84, X84, hQ84, st84⟩ := own_callP X70 hx hZ (y := own_y2) (W := 0) (a := a1) hown (own_h hw 64 rfl) (own_h hw 65 rfl) (own_h hw 1 rfl) (own_h hw 66 rfl) (own_h hw 2 rfl) (own_h hw 67 rfl) (by decide) (own_rms0 l Z a0 hw [] a1 wA bA sA hA kw kb ks kh reach w0 w1 nc b1 fg s1 (0 : Int32) t1 fg (rk + (1 : Int32)) (-1 : Int32) h70 n0 Z70 ⟨f71, f72, f73, f74, f75, f76, f77, f78, f79, f80, f81, f82, f83, f70⟩ hNE hGE m_w0 m_w1 m_nc m_b1) (by decide) (by decide) f71 (g := (mkF m 94 #[rv a1, .val (.double (FP.l2d nc)), v_, iv 0] [(.int 0), (.ref a1)])) rfl (by rw [hml]; rfl) (argsL := [(.int 0)]) (rest := []) rfl (lenOf own_pd2 rfl) rfl (by show 2 * 0 + _ ≤ _; exact Nat.le_of_eq rfl) (hb hby own_dre01N_94) e70 (by decide) (by decide)
  obtain ⟨rfl, Nq84, Kq84, hq84⟩ := hQ84
  have N84 := Fr.app N70 Nq84
  have K84 : Keep h0 T84.heap [a1, wA, bA, sA, hA] := K70.trans Kq84 (allS (Or.inl (List.mem_of_getElem? (i := 0) rfl)) (allS (Or.inl (List.mem_of_getElem? (i := 1) rfl)) (allS (Or.inl (List.mem_of_getElem? (i := 2) rfl)) (allS (Or.inl (List.mem_of_getElem? (i := 3) rfl)) (allS (Or.inl (List.mem_of_getElem? (i := 4) rfl)) all0)))))
  have Z84 := Nat.le_trans Z70 Kq84.1
  obtain ⟨u85_0, u85_1, u85_2, u85_3, u85_4, u85_5, u85_6, u85_7, u85_8, u85_9, u85_10, u85_11, u85_12, u85_13⟩ := id hq84
  refine own_s T84 (mkF m 97 #[rv a1, .val (.double (FP.l2d nc)), v_, iv 0] []) st84 ?_
  exact own_finV X84 hx hret (hb hby own_dre01N_97) (own_end (Qv := (own_Qre01N Z a1 wA bA sA hA kw kb ks kh reach w0 w1 b0 b1 s0 s1 t1 fg rk nc h0 n0)) X84 (fun _ => rfl) hlk (by decide) (by decide) rfl ⟨rfl, N84, K84, ⟨u85_0, u85_1, u85_2, u85_3, u85_4, u85_5, u85_6, u85_7, u85_8, u85_9, u85_10, u85_11, u85_12, u85_13⟩⟩)
theorem own_dre02PT_0 : decode prog_47_method_7_code 0 = .ok (.aload_n 0, 1) := by decide +kernel
theorem own_dre02PT_1 : decode prog_47_method_7_code 1 = .ok (.getfield 24, 3) := by decide +kernel
theorem own_dre02PT_4 : decode prog_47_method_7_code 4 = .ok (.iconst 0, 1) := by decide +kernel
theorem own_dre02PT_5 : decode prog_47_method_7_code 5 = .ok (.iaload, 1) := by decide +kernel
theorem own_dre02PT_6 : decode prog_47_method_7_code 6 = .ok (.istore_n 3, 1) := by decide +kernel
theorem own_dre02PT_7 : decode prog_47_method_7_code 7 = .ok (.aload_n 0, 1) := by decide +kernel
theorem own_dre02PT_8 : decode prog_47_method_7_code 8 = .ok (.getfield 17, 3) := by decide +kernel
theorem own_dre02PT_11 : decode prog_47_method_7_code 11 = .ok (.iload_n 3, 1) := by decide +kernel
theorem own_dre02PT_12 : decode prog_47_method_7_code 12 = .ok (.dload_n 1, 1) := by decide +kernel
theorem own_dre02PT_13 : decode prog_47_method_7_code 13 = .ok (.dastore, 1) := by decide +kernel
theorem own_dre02PT_14 : decode prog_47_method_7_code 14 = .ok (.aload_n 0, 1) := by decide +kernel
theorem own_dre02PT_15 : decode prog_47_method_7_code 15 = .ok (.getfield 20, 3) := by decide +kernel
theorem own_dre02PT_18 : decode prog_47_method_7_code 18 = .ok (.iload_n 3, 1) := by decide +kernel
theorem own_dre02PT_19 : decode prog_47_method_7_code 19 = .ok (.aload_n 0, 1) := by decide +kernel
theorem own_dre02PT_20 : decode prog_47_method_7_code 20 = .ok (.getfield 34, 3) := by decide +kernel
theorem own_dre02PT_23 : decode prog_47_method_7_code 23 = .ok (.lastore, 1) := by decide +kernel
theorem own_dre02PT_24 : decode prog_47_method_7_code 24 = .ok (.aload_n 0, 1) := by decide +kernel
theorem own_dre02PT_25 : decode prog_47_method_7_code 25 = .ok (.dup, 1) := by decide +kernel
theorem own_dre02PT_26 : decode prog_47_method_7_code 26 = .ok (.getfield 42, 3) := by decide +kernel
theorem own_dre02PT_29 : decode prog_47_method_7_code 29 = .ok (.iconst 1, 1) := by decide +kernel
theorem own_dre02PT_30 : decode prog_47_method_7_code 30 = .ok (.iadd, 1) := by decide +kernel
theorem own_dre02PT_31 : decode prog_47_method_7_code 31 = .ok (.putfield 42, 3) := by decide +kernel
theorem own_dre02PT_34 : decode prog_47_method_7_code 34 = .ok (.dload_n 1, 1) := by decide +kernel
theorem own_dre02PT_35 : decode prog_47_method_7_code 35 = .ok (.dconst 0, 1) := by decide +kernel
theorem own_dre02PT_36 : decode prog_47_method_7_code 36 = .ok (.dcmp .l, 1) := by decide +kernel
theorem own_dre02PT_37 : decode prog_47_method_7_code 37 = .ok (.ifCond .le 27, 3) := by decide +kernel
theorem own_dre02PT_40 : decode prog_47_method_7_code 40 = .ok (.aload_n 0, 1) := by decide +kernel
theorem own_dre02PT_41 : decode prog_47_method_7_code 41 = .ok (.getfield 45, 3) := by decide +kernel
theorem own_dre02PT_44 : decode prog_47_method_7_code 44 = .ok (.ifCond .lt 15, 3) := by decide +kernel
theorem own_dre02PT_59 : decode prog_47_method_7_code 59 = .ok (.aload_n 0, 1) := by decide +kernel
theorem own_dre02PT_60 : decode prog_47_method_7_code 60 = .ok (.iload_n 3, 1) := by decide +kernel
theorem own_dre02PT_61 : decode prog_47_method_7_code 61 = .ok (.putfield 45, 3) := by decide +kernel
theorem own_dre02PT_64 : decode prog_47_method_7_code 64 = .ok (.dload_n 1, 1) := by decide +kernel
theorem own_dre02PT_65 : decode prog_47_method_7_code 65 = .ok (.dconst 0, 1) := by decide +kernel
theorem own_dre02PT_66 : decode prog_47_method_7_code 66 = .ok (.dcmp .g, 1) := by decide +kernel
theorem own_dre02PT_67 : decode prog_47_method_7_code 67 = .ok (.ifCond .gt 25, 3) := by decide +kernel
theorem own_dre02PT_92 : decode prog_47_method_7_code 92 = .ok (.aload_n 0, 1) := by decide +kernel
theorem own_dre02PT_93 : decode prog_47_method_7_code 93 = .ok (.iconst 0, 1) := by decide +kernel
theorem own_dre02PT_94 : decode prog_47_method_7_code 94 = .ok (.invokevirtual 52, 3) := by decide +kernel
theorem own_dre02PT_97 : decode prog_47_method_7_code 97 = .ok (.return_, 1) := by decide +kernel
theorem own_efre02PT (m : MethodId) (x0 : Addr) (x1 : UInt64) : entryFrame m #[(.ref x0), (.double x1)] 4 = mkF m 0 #[rv x0, .val (.double x1), v_, u_] [] := by first | (simp [entryFrame, mkF, argsToLocals, Value.category]; done) | rfl
def own_Qre02PT (Z : State) (a1 : Addr) (wA bA sA hA : Addr) (kw kb ks kh : ClassId) (reach : Int32) (w0 : Int64) (w1 : Int64) (b0 : Int64) (b1 : Int64) (s0 : Int64) (s1 : Int64) (fg : Int64) (rk : Int32) (nc : Int64) (h0 : Heap) (n0 : Nat) : Option Value → Heap → List Loc → Prop := fun v h L => v = none ∧ Fr n0 L ∧ Keep h0 h [a1, wA, bA, sA, hA] ∧ own_CQ Z h a1 wA bA sA hA kw kb ks kh reach w0 w1 nc b1 fg s1 (1 : Int32) (0 : Int32) fg (rk + (1 : Int32)) (0 : Int32) (2 : Int32)
def own_Rre02PT : Room := { frames := 2, cells := 0, slots := 0, locals := 36 }
set_option maxRecDepth 65536 in
set_option maxHeartbeats 40000000 in
theorem own_rmre02PT (l : Launch) (Z : State) (a0 : Array Value) (hw : ∀ d ∈ tables_1, d.before a0 Z = true) (ws : List Jvm.Cond) (a1 : Addr) (wA bA sA hA : Addr) (kw kb ks kh : ClassId) (reach : Int32) (w0 : Int64) (w1 : Int64) (b0 : Int64) (b1 : Int64) (s0 : Int64) (s1 : Int64) (fg : Int64) (rk : Int32) (nc : Int64) (h0 : Heap) (n0 : Nat) (Z0 : n0 ≤ h0.size) (hCQ : own_CQ Z h0 a1 wA bA sA hA kw kb ks kh reach w0 w1 b0 b1 s0 s1 (0 : Int32) (1 : Int32) fg rk (-1 : Int32) (2 : Int32)) (hNE : own_NE a1 wA bA sA hA) (hGE : own_GE n0 a1 wA bA sA hA) (m_w0 : own_Mg 8 w0) (m_w1 : own_Mg 8 w1) (m_b0 : own_Mg 8 b0) (m_b1 : own_Mg 8 b1) (m_nc : own_Mg 8 nc) (hc : (0 : Int64) < nc) (hb1 : (0 : Int64) < b1) (hw0 : ¬ w0 < (0 : Int64)) (hw1 : ¬ w1 < (0 : Int64)) (hld : (own_ld (b1 * w0) (nc * w1) (1 : Int32) (0 : Int32)) = true) :
    own_Met l Z own_y6 prog_47_method_7_code 4 none ws own_Rre02PT h0 #[(.ref a1), (.double (FP.l2d nc))] (own_Qre02PT Z a1 wA bA sA hA kw kb ks kh reach w0 w1 b0 b1 s0 s1 fg rk nc h0 n0) own_Rre02PT.cells own_Rre02PT.slots := by
  refine own_start (plainFor_of_name own_pn0) ?_
  intro p e s m below meth c s₁ X0 hx hZ hby hml hret hlk hown hnm e0
  have hown : s.vm.findClass "com/example/allotrope/allotrope/procure/CoverQueue" = some m.cls := hown
  have hml : c.maxLocals = 4 := hml
  have N0 := Fr.nil n0
  refine own_cast (own_efre02PT m a1 (FP.l2d nc)) ?_
  obtain ⟨ne_a1_wA, ne_a1_bA, ne_a1_sA, ne_a1_hA, ne_wA_bA, ne_wA_sA, ne_wA_hA, ne_bA_sA, ne_bA_hA, ne_sA_hA⟩ := id hNE
  obtain ⟨g_a1, g_wA, g_bA, g_sA, g_hA⟩ := id hGE
  obtain ⟨u1_0, u1_1, u1_2, u1_3, u1_4, u1_5, u1_6, u1_7, u1_8, u1_9, u1_10, u1_11, u1_12, u1_13⟩ := id hCQ
  refine own_s s₁ (mkF m 1 #[rv a1, .val (.double (FP.l2d nc)), v_, u_] [(.ref a1)]) (fun _ k => XS.aloadN X0.here hx rfl (hb hby own_dre02PT_0) rfl rfl k) ?_
  obtain ⟨T2, X2, e2, st2⟩ := getF X0 hx hZ hown (host := "") (Or.inl (own_h hw 20 rfl)) Via.refl e0 u1_5 (g := (mkF m 1 #[rv a1, .val (.double (FP.l2d nc)), v_, u_] [(.ref a1)])) rfl rfl (hb hby own_dre02PT_1)
  refine own_s T2 (mkF m 4 #[rv a1, .val (.double (FP.l2d nc)), v_, u_] [(.ref hA)]) st2 ?_
  refine own_s T2 (mkF m 5 #[rv a1, .val (.double (FP.l2d nc)), v_, u_] [(.int 0), (.ref hA)]) (fun _ k => XS.iconst X2.here hx rfl (hb hby own_dre02PT_4) k) ?_
  obtain ⟨cl3, Ar3, q3, S3, Nn3, H3, G3⟩ := id u1_13
  have hin3 : ¬ ((0 : Int32) < 0 ∨ cl3.slots.size ≤ ((0 : Int32)).toNatClampNeg) := (inb_of S3 ⟨by decide, by decide⟩)
  refine own_s T2 (mkF m 8 #[rv a1, .val (.double (FP.l2d nc)), v_, iv 0] [(.ref a1)]) (fun _ k => X2.iaload hx (j := (0 : Int32)) (v := (.int 0)) (own_at e2 Ar3.1) (State.isArrayOf_alike hZ.alike Ar3.2.1) Ar3.2.2 hin3 (Has.at H3 hin3 rfl) (g := (mkF m 5 #[rv a1, .val (.double (FP.l2d nc)), v_, u_] [(.int 0), (.ref hA)])) rfl rfl (hb hby own_dre02PT_5) _ (XS.istoreN X2.here hx rfl (hb hby own_dre02PT_6) rfl (l' := #[rv a1, .val (.double (FP.l2d nc)), v_, iv 0]) rfl (XS.aloadN X2.here hx rfl (hb hby own_dre02PT_7) rfl rfl k))) ?_
  obtain ⟨T4, X4, e4, st4⟩ := getF X2 hx hZ hown (host := "") (Or.inl (own_h hw 14 rfl)) Via.refl e2 u1_3 (g := (mkF m 8 #[rv a1, .val (.double (FP.l2d nc)), v_, iv 0] [(.ref a1)])) rfl rfl (hb hby own_dre02PT_8)
  refine own_s T4 (mkF m 11 #[rv a1, .val (.double (FP.l2d nc)), v_, iv 0] [(.ref bA)]) st4 ?_
  refine own_s T4 (mkF m 13 #[rv a1, .val (.double (FP.l2d nc)), v_, iv 0] [(.double (FP.l2d nc)), (.int 0), (.ref bA)]) (fun _ k => XS.iloadN X4.here hx rfl (hb hby own_dre02PT_11) rfl  (XS.dloadN X4.here hx rfl (hb hby own_dre02PT_12) rfl  k)) ?_
  obtain ⟨cl5, Ar5, q5, S5, Nn5, H5, G5⟩ := id u1_11
  have hin5 : ¬ ((0 : Int32) < 0 ∨ cl5.slots.size ≤ ((0 : Int32)).toNatClampNeg) := (inb_of S5 ⟨by decide, by decide⟩)
  obtain ⟨T5, h5, X5, e5, W5, st5⟩ := stD X4 hx hZ e4 Ar5 (j := (0 : Int32)) hin5 (g := (mkF m 13 #[rv a1, .val (.double (FP.l2d nc)), v_, iv 0] [(.double (FP.l2d nc)), (.int 0), (.ref bA)])) rfl rfl (hb hby own_dre02PT_13)
  have f5 : Arv Z h5 bA kb .double (2 : Int32) [(.double (FP.l2d nc)), (.double (FP.l2d b1))] (.double (FP.l2d 0)) := Arv.set Ar5 q5 S5 Nn5 H5 G5 rfl W5 0 rfl (Nat.le_of_ble_eq_true rfl)
  have f6 := Exa.wr W5 u1_0
  have f7 := Fld.other W5 u1_1 (Or.inl ne_a1_bA)
  have f8 := Fld.other W5 u1_2 (Or.inl ne_a1_bA)
  have f9 := Fld.other W5 u1_3 (Or.inl ne_a1_bA)
  have f10 := Fld.other W5 u1_4 (Or.inl ne_a1_bA)
  have f11 := Fld.other W5 u1_5 (Or.inl ne_a1_bA)
  have f12 := Fld.other W5 u1_6 (Or.inl ne_a1_bA)
  have f13 := Fld.other W5 u1_7 (Or.inl ne_a1_bA)
  have f14 := Fld.other W5 u1_8 (Or.inl ne_a1_bA)
  have f15 := Fld.other W5 u1_9 (Or.inl ne_a1_bA)
  have f16 := u1_10.other W5 ne_wA_bA
  have f17 := u1_12.other W5 (Ne.symm ne_bA_sA)
  have f18 := u1_13.other W5 (Ne.symm ne_bA_hA)
  have K5 : Keep h0 h5 [a1, wA, bA, sA, hA] := (Keep.refl h0 [a1, wA, bA, sA, hA]).wr W5 (Or.inl (List.mem_of_getElem? (i := 2) rfl))
  have Z5 := Nat.le_trans Z0 (Nat.le_of_eq W5.size.symm)
  have N5 := Fr.snoc X5 N0 g_bA
  refine own_s T5 (mkF m 14 #[rv a1, .val (.double (FP.l2d nc)), v_, iv 0] []) st5 ?_
  refine own_s T5 (mkF m 15 #[rv a1, .val (.double (FP.l2d nc)), v_, iv 0] [(.ref a1)]) (fun _ k => XS.aloadN X5.here hx rfl (hb hby own_dre02PT_14) rfl rfl k) ?_
  obtain ⟨T19, X19, e19, st19⟩ := getF X5 hx hZ hown (host := "") (Or.inl (own_h hw 17 rfl)) Via.refl e5 f10 (g := (mkF m 15 #[rv a1, .val (.double (FP.l2d nc)), v_, iv 0] [(.ref a1)])) rfl rfl (hb hby own_dre02PT_15)
  refine own_s T19 (mkF m 18 #[rv a1, .val (.double (FP.l2d nc)), v_, iv 0] [(.ref sA)]) st19 ?_
  refine own_s T19 (mkF m 20 #[rv a1, .val (.double (FP.l2d nc)), v_, iv 0] [(.ref a1), (.int 0), (.ref sA)]) (fun _ k => XS.iloadN X19.here hx rfl (hb hby own_dre02PT_18) rfl  (XS.aloadN X19.here hx rfl (hb hby own_dre02PT_19) rfl rfl k)) ?_
  obtain ⟨T20, X20, e20, st20⟩ := getF X19 hx hZ hown (host := "") (Or.inl (own_h hw 32 rfl)) Via.refl e19 f12 (g := (mkF m 20 #[rv a1, .val (.double (FP.l2d nc)), v_, iv 0] [(.ref a1), (.int 0), (.ref sA)])) rfl rfl (hb hby own_dre02PT_20)
  refine own_s T20 (mkF m 23 #[rv a1, .val (.double (FP.l2d nc)), v_, iv 0] [(.long fg), (.int 0), (.ref sA)]) st20 ?_
  obtain ⟨cl21, Ar21, q21, S21, Nn21, H21, G21⟩ := id f17
  have hin21 : ¬ ((0 : Int32) < 0 ∨ cl21.slots.size ≤ ((0 : Int32)).toNatClampNeg) := (inb_of S21 ⟨by decide, by decide⟩)
  obtain ⟨T21, h21, X21, e21, W21, st21⟩ := stJ X20 hx hZ e20 Ar21 (j := (0 : Int32)) hin21 (g := (mkF m 23 #[rv a1, .val (.double (FP.l2d nc)), v_, iv 0] [(.long fg), (.int 0), (.ref sA)])) rfl rfl (hb hby own_dre02PT_23)
  have f21 : Arv Z h21 sA ks .long (2 : Int32) [(.long fg), (.long s1)] (.long 0) := Arv.set Ar21 q21 S21 Nn21 H21 G21 rfl W21 0 rfl (Nat.le_of_ble_eq_true rfl)
  have f22 := Exa.wr W21 f6
  have f23 := Fld.other W21 f7 (Or.inl ne_a1_sA)
  have f24 := Fld.other W21 f8 (Or.inl ne_a1_sA)
  have f25 := Fld.other W21 f9 (Or.inl ne_a1_sA)
  have f26 := Fld.other W21 f10 (Or.inl ne_a1_sA)
  have f27 := Fld.other W21 f11 (Or.inl ne_a1_sA)
  have f28 := Fld.other W21 f12 (Or.inl ne_a1_sA)
  have f29 := Fld.other W21 f13 (Or.inl ne_a1_sA)
  have f30 := Fld.other W21 f14 (Or.inl ne_a1_sA)
  have f31 := Fld.other W21 f15 (Or.inl ne_a1_sA)
  have f32 := f16.other W21 ne_wA_sA
  have f33 := f5.other W21 ne_bA_sA
  have f34 := f18.other W21 (Ne.symm ne_sA_hA)
  have K21 : Keep h0 h21 [a1, wA, bA, sA, hA] := K5.wr W21 (Or.inl (List.mem_of_getElem? (i := 3) rfl))
  have Z21 := Nat.le_trans Z5 (Nat.le_of_eq W21.size.symm)
  have N21 := Fr.snoc X21 N5 g_sA
  refine own_s T21 (mkF m 24 #[rv a1, .val (.double (FP.l2d nc)), v_, iv 0] []) st21 ?_
  refine own_s T21 (mkF m 26 #[rv a1, .val (.double (FP.l2d nc)), v_, iv 0] [(.ref a1), (.ref a1)]) (fun _ k => XS.aloadN X21.here hx rfl (hb hby own_dre02PT_24) rfl rfl (XS.dup X21.here hx rfl (hb hby own_dre02PT_25) rfl rfl k)) ?_
  obtain ⟨T35, X35, e35, st35⟩ := getF X21 hx hZ hown (host := "") (Or.inl (own_h hw 34 rfl)) Via.refl e21 f29 (g := (mkF m 26 #[rv a1, .val (.double (FP.l2d nc)), v_, iv 0] [(.ref a1), (.ref a1)])) rfl rfl (hb hby own_dre02PT_26)
  refine own_s T35 (mkF m 29 #[rv a1, .val (.double (FP.l2d nc)), v_, iv 0] [(.int rk), (.ref a1)]) st35 ?_
  refine own_s T35 (mkF m 31 #[rv a1, .val (.double (FP.l2d nc)), v_, iv 0] [(.int (rk + (1 : Int32))), (.ref a1)]) (fun _ k => XS.iconst X35.here hx rfl (hb hby own_dre02PT_29) (XS.iadd X35.here hx rfl (hb hby own_dre02PT_30) rfl k)) ?_
  obtain ⟨T36, h36, X36, e36, W36, st36⟩ := putF X35 hx hZ hown (host := "") (Or.inl (own_h hw 34 rfl)) Via.refl e35 f29 f22 (Or.inl (own_h hw 35 rfl)) (own_h hw 1 rfl) (ty := .int) (by decide) rfl rfl (g := (mkF m 31 #[rv a1, .val (.double (FP.l2d nc)), v_, iv 0] [(.int (rk + (1 : Int32))), (.ref a1)])) rfl rfl (hb hby own_dre02PT_31)
  have Fw36 := Fld.same W36 f29
  have f37 := Exa.wr W36 f22
  have f38 := Fld.other W36 f23 (Or.inr (slot_ne (Or.inr (own_h hw 10 rfl)) (Or.inl (own_h hw 35 rfl)) (by decide) (t := .int) (t' := .int) (by decide) (by decide)))
  have f39 := Fld.other W36 f24 (Or.inr (slot_ne (Or.inr (own_h hw 13 rfl)) (Or.inl (own_h hw 35 rfl)) (by decide) (t := (.array .double)) (t' := .int) (by decide) (by decide)))
  have f40 := Fld.other W36 f25 (Or.inr (slot_ne (Or.inr (own_h hw 15 rfl)) (Or.inl (own_h hw 35 rfl)) (by decide) (t := (.array .double)) (t' := .int) (by decide) (by decide)))
  have f41 := Fld.other W36 f26 (Or.inr (slot_ne (Or.inr (own_h hw 18 rfl)) (Or.inl (own_h hw 35 rfl)) (by decide) (t := (.array .long)) (t' := .int) (by decide) (by decide)))
  have f42 := Fld.other W36 f27 (Or.inr (slot_ne (Or.inr (own_h hw 21 rfl)) (Or.inl (own_h hw 35 rfl)) (by decide) (t := (.array .int)) (t' := .int) (by decide) (by decide)))
  have f43 := Fld.other W36 f28 (Or.inr (slot_ne (Or.inl (own_h hw 33 rfl)) (Or.inl (own_h hw 35 rfl)) (by decide) (t := .long) (t' := .int) (by decide) (by decide)))
  have f44 := Fld.other W36 f30 (Or.inr (slot_ne (Or.inl (own_h hw 37 rfl)) (Or.inl (own_h hw 35 rfl)) (by decide) (t := .int) (t' := .int) (by decide) (by decide)))
  have f45 := Fld.other W36 f31 (Or.inr (slot_ne (Or.inl (own_h hw 39 rfl)) (Or.inl (own_h hw 35 rfl)) (by decide) (t := .int) (t' := .int) (by decide) (by decide)))
  have f46 := f32.other W36 (Ne.symm ne_a1_wA)
  have f47 := f33.other W36 (Ne.symm ne_a1_bA)
  have f48 := f21.other W36 (Ne.symm ne_a1_sA)
  have f49 := f34.other W36 (Ne.symm ne_a1_hA)
  have K36 : Keep h0 h36 [a1, wA, bA, sA, hA] := K21.wr W36 (Or.inl (List.mem_of_getElem? (i := 0) rfl))
  have Z36 := Nat.le_trans Z21 (Nat.le_of_eq W36.size.symm)
  have N36 := Fr.snoc X36 N21 g_a1
  refine own_s T36 (mkF m 34 #[rv a1, .val (.double (FP.l2d nc)), v_, iv 0] []) st36 ?_
  refine own_s T36 (mkF m 35 #[rv a1, .val (.double (FP.l2d nc)), v_, iv 0] [(.double (FP.l2d nc))]) (fun _ k => XS.dloadN X36.here hx rfl (hb hby own_dre02PT_34) rfl  k) ?_
  have mg50 := own_mgLit (0 : Int64) (K := 0) rfl rfl
  refine own_s T36 (mkF m 41 #[rv a1, .val (.double (FP.l2d nc)), v_, iv 0] [(.ref a1)]) (fun _ k => XS.dconst0 X36.here hx rfl (hb hby own_dre02PT_35) own_dc0 (XS.dcmpS X36.here hx rfl (hb hby own_dre02PT_36) rfl (dcmpV_w (own_mgB m_nc (by decide)) (own_mgB mg50 (by decide)) _) (XS.ifNo X36.here hx rfl (hb hby own_dre02PT_37) rfl ((if0 _ _).trans (tlt (own_lcgt hc)).2.2.2) (XS.aloadN X36.here hx rfl (hb hby own_dre02PT_40) rfl rfl k)))) ?_
  obtain ⟨T51, X51, e51, st51⟩ := getF X36 hx hZ hown (host := "") (Or.inl (own_h hw 36 rfl)) Via.refl e36 f44 (g := (mkF m 41 #[rv a1, .val (.double (FP.l2d nc)), v_, iv 0] [(.ref a1)])) rfl rfl (hb hby own_dre02PT_41)
  refine own_s T51 (mkF m 44 #[rv a1, .val (.double (FP.l2d nc)), v_, iv 0] [(.int (-1))]) st51 ?_
  refine own_s T51 (mkF m 61 #[rv a1, .val (.double (FP.l2d nc)), v_, iv 0] [(.int 0), (.ref a1)]) (fun _ k => XS.ifYes X51.here hx rfl (pc0 := 44) (pc' := 59) rfl (hb hby own_dre02PT_44) rfl ((if0 _ _).trans (tlt (by decide : ((-1 : Int32) < (0 : Int32)))).1) (by decide) (by decide) (XS.aloadN X51.here hx rfl (hb hby own_dre02PT_59) rfl rfl (XS.iloadN X51.here hx rfl (hb hby own_dre02PT_60) rfl  k))) ?_
  obtain ⟨T52, h52, X52, e52, W52, st52⟩ := putF X51 hx hZ hown (host := "") (Or.inl (own_h hw 36 rfl)) Via.refl e51 f44 f37 (Or.inl (own_h hw 37 rfl)) (own_h hw 1 rfl) (ty := .int) (by decide) rfl rfl (g := (mkF m 61 #[rv a1, .val (.double (FP.l2d nc)), v_, iv 0] [(.int 0), (.ref a1)])) rfl rfl (hb hby own_dre02PT_61)
  have Fw52 := Fld.same W52 f44
  have f53 := Exa.wr W52 f37
  have f54 := Fld.other W52 f38 (Or.inr (slot_ne (Or.inr (own_h hw 10 rfl)) (Or.inl (own_h hw 37 rfl)) (by decide) (t := .int) (t' := .int) (by decide) (by decide)))
  have f55 := Fld.other W52 f39 (Or.inr (slot_ne (Or.inr (own_h hw 13 rfl)) (Or.inl (own_h hw 37 rfl)) (by decide) (t := (.array .double)) (t' := .int) (by decide) (by decide)))
  have f56 := Fld.other W52 f40 (Or.inr (slot_ne (Or.inr (own_h hw 15 rfl)) (Or.inl (own_h hw 37 rfl)) (by decide) (t := (.array .double)) (t' := .int) (by decide) (by decide)))
  have f57 := Fld.other W52 f41 (Or.inr (slot_ne (Or.inr (own_h hw 18 rfl)) (Or.inl (own_h hw 37 rfl)) (by decide) (t := (.array .long)) (t' := .int) (by decide) (by decide)))
  have f58 := Fld.other W52 f42 (Or.inr (slot_ne (Or.inr (own_h hw 21 rfl)) (Or.inl (own_h hw 37 rfl)) (by decide) (t := (.array .int)) (t' := .int) (by decide) (by decide)))
  have f59 := Fld.other W52 f43 (Or.inr (slot_ne (Or.inl (own_h hw 33 rfl)) (Or.inl (own_h hw 37 rfl)) (by decide) (t := .long) (t' := .int) (by decide) (by decide)))
  have f60 := Fld.other W52 Fw36 (Or.inr (slot_ne (Or.inl (own_h hw 35 rfl)) (Or.inl (own_h hw 37 rfl)) (by decide) (t := .int) (t' := .int) (by decide) (by decide)))
  have f61 := Fld.other W52 f45 (Or.inr (slot_ne (Or.inl (own_h hw 39 rfl)) (Or.inl (own_h hw 37 rfl)) (by decide) (t := .int) (t' := .int) (by decide) (by decide)))
  have f62 := f46.other W52 (Ne.symm ne_a1_wA)
  have f63 := f47.other W52 (Ne.symm ne_a1_bA)
  have f64 := f48.other W52 (Ne.symm ne_a1_sA)
  have f65 := f49.other W52 (Ne.symm ne_a1_hA)
  have K52 : Keep h0 h52 [a1, wA, bA, sA, hA] := K36.wr W52 (Or.inl (List.mem_of_getElem? (i := 0) rfl))
  have Z52 := Nat.le_trans Z36 (Nat.le_of_eq W52.size.symm)
  have N52 := Fr.snoc X52 N36 g_a1
  refine own_s T52 (mkF m 64 #[rv a1, .val (.double (FP.l2d nc)), v_, iv 0] []) st52 ?_
  refine own_s T52 (mkF m 65 #[rv a1, .val (.double (FP.l2d nc)), v_, iv 0] [(.double (FP.l2d nc))]) (fun _ k => XS.dloadN X52.here hx rfl (hb hby own_dre02PT_64) rfl  k) ?_
  have mg66 := own_mgLit (0 : Int64) (K := 0) rfl rfl
  refine own_s T52 (mkF m 94 #[rv a1, .val (.double (FP.l2d nc)), v_, iv 0] [(.int 0), (.ref a1)]) (fun _ k => XS.dconst0 X52.here hx rfl (hb hby own_dre02PT_65) own_dc0 (XS.dcmpS X52.here hx rfl (hb hby own_dre02PT_66) rfl (dcmpV_w (own_mgB m_nc (by decide)) (own_mgB mg66 (by decide)) _) (XS.ifYes X52.here hx rfl (pc0 := 67) (pc' := 92) rfl (hb hby own_dre02PT_67) rfl ((if0 _ _).trans (tlt (own_lcgt hc)).2.2.1) (by decide) (by decide) (XS.aloadN X52.here hx rfl (hb hby own_dre02PT_92) rfl rfl (XS.iconst X52.here hx rfl (hb hby own_dre02PT_93) k))))) ?_
  obtain ⟨v67, T67, L67, X67, hQ67, st67⟩ := own_callP X52 hx hZ (y := own_y2) (W := 0) (a := a1) hown (own_h hw 64 rfl) (own_h hw 65 rfl) (own_h hw 1 rfl) (own_h hw 66 rfl) (own_h hw 2 rfl) (own_h hw 67 rfl) (by decide) (own_rms20T l Z a0 hw [] a1 wA bA sA hA kw kb ks kh reach w0 w1 nc b1 fg s1 fg (rk + (1 : Int32)) (0 : Int32) h52 n0 Z52 ⟨f53, f54, f55, f56, f57, f58, f59, f60, Fw52, f61, f62, f63, f64, f65⟩ hNE hGE m_w0 m_w1 m_nc m_b1 hc hb1 hw0 hw1 hld) (by decide) (by decide) f53 (g := (mkF m 94 #[rv a1, .val (.double (FP.l2d nc)), v_, iv 0] [(.int 0), (.ref a1)])) rfl (by rw [hml]; rfl) (argsL := [(.int 0)]) (rest := []) rfl (lenOf own_pd2 rfl) rfl (by show 2 * 0 + _ ≤ _; exact Nat.le_of_eq rfl) (hb hby own_dre02PT_94) e52 (by decide) (by decide)
  obtain ⟨rfl, Nq67, Kq67, hq67⟩ := hQ67
  have N67 := Fr.app N52 Nq67
  have K67 : Keep h0 T67.heap [a1, wA, bA, sA, hA] := K52.trans Kq67 (allS (Or.inl (List.mem_of_getElem? (i := 0) rfl)) (allS (Or.inl (List.mem_of_getElem? (i := 1) rfl)) (allS (Or.inl (List.mem_of_getElem? (i := 2) rfl)) (allS (Or.inl (List.mem_of_getElem? (i := 3) rfl)) (allS (Or.inl (List.mem_of_getElem? (i := 4) rfl)) all0)))))
  have Z67 := Nat.le_trans Z52 Kq67.1
  obtain ⟨u68_0, u68_1, u68_2, u68_3, u68_4, u68_5, u68_6, u68_7, u68_8, u68_9, u68_10, u68_11, u68_12, u68_13⟩ := id hq67
  refine own_s T67 (mkF m 97 #[rv a1, .val (.double (FP.l2d nc)), v_, iv 0] []) st67 ?_
  exact own_finV X67 hx hret (hb hby own_dre02PT_97) (own_end (Qv := (own_Qre02PT Z a1 wA bA sA hA kw kb ks kh reach w0 w1 b0 b1 s0 s1 fg rk nc h0 n0)) X67 (fun _ => rfl) hlk (by decide) (by decide) rfl ⟨rfl, N67, K67, ⟨u68_0, u68_1, u68_2, u68_3, u68_4, u68_5, u68_6, u68_7, u68_8, u68_9, u68_10, u68_11, u68_12, u68_13⟩⟩)
theorem own_dre02PF_0 : decode prog_47_method_7_code 0 = .ok (.aload_n 0, 1) := by decide +kernel
theorem own_dre02PF_1 : decode prog_47_method_7_code 1 = .ok (.getfield 24, 3) := by decide +kernel
theorem own_dre02PF_4 : decode prog_47_method_7_code 4 = .ok (.iconst 0, 1) := by decide +kernel
theorem own_dre02PF_5 : decode prog_47_method_7_code 5 = .ok (.iaload, 1) := by decide +kernel
theorem own_dre02PF_6 : decode prog_47_method_7_code 6 = .ok (.istore_n 3, 1) := by decide +kernel
theorem own_dre02PF_7 : decode prog_47_method_7_code 7 = .ok (.aload_n 0, 1) := by decide +kernel
theorem own_dre02PF_8 : decode prog_47_method_7_code 8 = .ok (.getfield 17, 3) := by decide +kernel
theorem own_dre02PF_11 : decode prog_47_method_7_code 11 = .ok (.iload_n 3, 1) := by decide +kernel
theorem own_dre02PF_12 : decode prog_47_method_7_code 12 = .ok (.dload_n 1, 1) := by decide +kernel
theorem own_dre02PF_13 : decode prog_47_method_7_code 13 = .ok (.dastore, 1) := by decide +kernel
theorem own_dre02PF_14 : decode prog_47_method_7_code 14 = .ok (.aload_n 0, 1) := by decide +kernel
theorem own_dre02PF_15 : decode prog_47_method_7_code 15 = .ok (.getfield 20, 3) := by decide +kernel
theorem own_dre02PF_18 : decode prog_47_method_7_code 18 = .ok (.iload_n 3, 1) := by decide +kernel
theorem own_dre02PF_19 : decode prog_47_method_7_code 19 = .ok (.aload_n 0, 1) := by decide +kernel
theorem own_dre02PF_20 : decode prog_47_method_7_code 20 = .ok (.getfield 34, 3) := by decide +kernel
theorem own_dre02PF_23 : decode prog_47_method_7_code 23 = .ok (.lastore, 1) := by decide +kernel
theorem own_dre02PF_24 : decode prog_47_method_7_code 24 = .ok (.aload_n 0, 1) := by decide +kernel
theorem own_dre02PF_25 : decode prog_47_method_7_code 25 = .ok (.dup, 1) := by decide +kernel
theorem own_dre02PF_26 : decode prog_47_method_7_code 26 = .ok (.getfield 42, 3) := by decide +kernel
theorem own_dre02PF_29 : decode prog_47_method_7_code 29 = .ok (.iconst 1, 1) := by decide +kernel
theorem own_dre02PF_30 : decode prog_47_method_7_code 30 = .ok (.iadd, 1) := by decide +kernel
theorem own_dre02PF_31 : decode prog_47_method_7_code 31 = .ok (.putfield 42, 3) := by decide +kernel
theorem own_dre02PF_34 : decode prog_47_method_7_code 34 = .ok (.dload_n 1, 1) := by decide +kernel
theorem own_dre02PF_35 : decode prog_47_method_7_code 35 = .ok (.dconst 0, 1) := by decide +kernel
theorem own_dre02PF_36 : decode prog_47_method_7_code 36 = .ok (.dcmp .l, 1) := by decide +kernel
theorem own_dre02PF_37 : decode prog_47_method_7_code 37 = .ok (.ifCond .le 27, 3) := by decide +kernel
theorem own_dre02PF_40 : decode prog_47_method_7_code 40 = .ok (.aload_n 0, 1) := by decide +kernel
theorem own_dre02PF_41 : decode prog_47_method_7_code 41 = .ok (.getfield 45, 3) := by decide +kernel
theorem own_dre02PF_44 : decode prog_47_method_7_code 44 = .ok (.ifCond .lt 15, 3) := by decide +kernel
theorem own_dre02PF_59 : decode prog_47_method_7_code 59 = .ok (.aload_n 0, 1) := by decide +kernel
theorem own_dre02PF_60 : decode prog_47_method_7_code 60 = .ok (.iload_n 3, 1) := by decide +kernel
theorem own_dre02PF_61 : decode prog_47_method_7_code 61 = .ok (.putfield 45, 3) := by decide +kernel
theorem own_dre02PF_64 : decode prog_47_method_7_code 64 = .ok (.dload_n 1, 1) := by decide +kernel
theorem own_dre02PF_65 : decode prog_47_method_7_code 65 = .ok (.dconst 0, 1) := by decide +kernel
theorem own_dre02PF_66 : decode prog_47_method_7_code 66 = .ok (.dcmp .g, 1) := by decide +kernel
theorem own_dre02PF_67 : decode prog_47_method_7_code 67 = .ok (.ifCond .gt 25, 3) := by decide +kernel
theorem own_dre02PF_92 : decode prog_47_method_7_code 92 = .ok (.aload_n 0, 1) := by decide +kernel
theorem own_dre02PF_93 : decode prog_47_method_7_code 93 = .ok (.iconst 0, 1) := by decide +kernel
theorem own_dre02PF_94 : decode prog_47_method_7_code 94 = .ok (.invokevirtual 52, 3) := by decide +kernel
theorem own_dre02PF_97 : decode prog_47_method_7_code 97 = .ok (.return_, 1) := by decide +kernel
theorem own_efre02PF (m : MethodId) (x0 : Addr) (x1 : UInt64) : entryFrame m #[(.ref x0), (.double x1)] 4 = mkF m 0 #[rv x0, .val (.double x1), v_, u_] [] := by first | (simp [entryFrame, mkF, argsToLocals, Value.category]; done) | rfl
def own_Qre02PF (Z : State) (a1 : Addr) (wA bA sA hA : Addr) (kw kb ks kh : ClassId) (reach : Int32) (w0 : Int64) (w1 : Int64) (b0 : Int64) (b1 : Int64) (s0 : Int64) (s1 : Int64) (fg : Int64) (rk : Int32) (nc : Int64) (h0 : Heap) (n0 : Nat) : Option Value → Heap → List Loc → Prop := fun v h L => v = none ∧ Fr n0 L ∧ Keep h0 h [a1, wA, bA, sA, hA] ∧ own_CQ Z h a1 wA bA sA hA kw kb ks kh reach w0 w1 nc b1 fg s1 (0 : Int32) (1 : Int32) fg (rk + (1 : Int32)) (0 : Int32) (2 : Int32)
def own_Rre02PF : Room := { frames := 2, cells := 0, slots := 0, locals := 36 }
set_option maxRecDepth 65536 in
set_option maxHeartbeats 40000000 in
theorem own_rmre02PF (l : Launch) (Z : State) (a0 : Array Value) (hw : ∀ d ∈ tables_1, d.before a0 Z = true) (ws : List Jvm.Cond) (a1 : Addr) (wA bA sA hA : Addr) (kw kb ks kh : ClassId) (reach : Int32) (w0 : Int64) (w1 : Int64) (b0 : Int64) (b1 : Int64) (s0 : Int64) (s1 : Int64) (fg : Int64) (rk : Int32) (nc : Int64) (h0 : Heap) (n0 : Nat) (Z0 : n0 ≤ h0.size) (hCQ : own_CQ Z h0 a1 wA bA sA hA kw kb ks kh reach w0 w1 b0 b1 s0 s1 (0 : Int32) (1 : Int32) fg rk (-1 : Int32) (2 : Int32)) (hNE : own_NE a1 wA bA sA hA) (hGE : own_GE n0 a1 wA bA sA hA) (m_w0 : own_Mg 8 w0) (m_w1 : own_Mg 8 w1) (m_b0 : own_Mg 8 b0) (m_b1 : own_Mg 8 b1) (m_nc : own_Mg 8 nc) (hc : (0 : Int64) < nc) (hb1 : (0 : Int64) < b1) (hw0 : ¬ w0 < (0 : Int64)) (hw1 : ¬ w1 < (0 : Int64)) (hld : (own_ld (b1 * w0) (nc * w1) (1 : Int32) (0 : Int32)) = false) :
    own_Met l Z own_y6 prog_47_method_7_code 4 none ws own_Rre02PF h0 #[(.ref a1), (.double (FP.l2d nc))] (own_Qre02PF Z a1 wA bA sA hA kw kb ks kh reach w0 w1 b0 b1 s0 s1 fg rk nc h0 n0) own_Rre02PF.cells own_Rre02PF.slots := by
  refine own_start (plainFor_of_name own_pn0) ?_
  intro p e s m below meth c s₁ X0 hx hZ hby hml hret hlk hown hnm e0
  have hown : s.vm.findClass "com/example/allotrope/allotrope/procure/CoverQueue" = some m.cls := hown
  have hml : c.maxLocals = 4 := hml
  have N0 := Fr.nil n0
  refine own_cast (own_efre02PF m a1 (FP.l2d nc)) ?_
  obtain ⟨ne_a1_wA, ne_a1_bA, ne_a1_sA, ne_a1_hA, ne_wA_bA, ne_wA_sA, ne_wA_hA, ne_bA_sA, ne_bA_hA, ne_sA_hA⟩ := id hNE
  obtain ⟨g_a1, g_wA, g_bA, g_sA, g_hA⟩ := id hGE
  obtain ⟨u1_0, u1_1, u1_2, u1_3, u1_4, u1_5, u1_6, u1_7, u1_8, u1_9, u1_10, u1_11, u1_12, u1_13⟩ := id hCQ
  refine own_s s₁ (mkF m 1 #[rv a1, .val (.double (FP.l2d nc)), v_, u_] [(.ref a1)]) (fun _ k => XS.aloadN X0.here hx rfl (hb hby own_dre02PF_0) rfl rfl k) ?_
  obtain ⟨T2, X2, e2, st2⟩ := getF X0 hx hZ hown (host := "") (Or.inl (own_h hw 20 rfl)) Via.refl e0 u1_5 (g := (mkF m 1 #[rv a1, .val (.double (FP.l2d nc)), v_, u_] [(.ref a1)])) rfl rfl (hb hby own_dre02PF_1)
  refine own_s T2 (mkF m 4 #[rv a1, .val (.double (FP.l2d nc)), v_, u_] [(.ref hA)]) st2 ?_
  refine own_s T2 (mkF m 5 #[rv a1, .val (.double (FP.l2d nc)), v_, u_] [(.int 0), (.ref hA)]) (fun _ k => XS.iconst X2.here hx rfl (hb hby own_dre02PF_4) k) ?_
  obtain ⟨cl3, Ar3, q3, S3, Nn3, H3, G3⟩ := id u1_13
  have hin3 : ¬ ((0 : Int32) < 0 ∨ cl3.slots.size ≤ ((0 : Int32)).toNatClampNeg) := (inb_of S3 ⟨by decide, by decide⟩)
  refine own_s T2 (mkF m 8 #[rv a1, .val (.double (FP.l2d nc)), v_, iv 0] [(.ref a1)]) (fun _ k => X2.iaload hx (j := (0 : Int32)) (v := (.int 0)) (own_at e2 Ar3.1) (State.isArrayOf_alike hZ.alike Ar3.2.1) Ar3.2.2 hin3 (Has.at H3 hin3 rfl) (g := (mkF m 5 #[rv a1, .val (.double (FP.l2d nc)), v_, u_] [(.int 0), (.ref hA)])) rfl rfl (hb hby own_dre02PF_5) _ (XS.istoreN X2.here hx rfl (hb hby own_dre02PF_6) rfl (l' := #[rv a1, .val (.double (FP.l2d nc)), v_, iv 0]) rfl (XS.aloadN X2.here hx rfl (hb hby own_dre02PF_7) rfl rfl k))) ?_
  obtain ⟨T4, X4, e4, st4⟩ := getF X2 hx hZ hown (host := "") (Or.inl (own_h hw 14 rfl)) Via.refl e2 u1_3 (g := (mkF m 8 #[rv a1, .val (.double (FP.l2d nc)), v_, iv 0] [(.ref a1)])) rfl rfl (hb hby own_dre02PF_8)
  refine own_s T4 (mkF m 11 #[rv a1, .val (.double (FP.l2d nc)), v_, iv 0] [(.ref bA)]) st4 ?_
  refine own_s T4 (mkF m 13 #[rv a1, .val (.double (FP.l2d nc)), v_, iv 0] [(.double (FP.l2d nc)), (.int 0), (.ref bA)]) (fun _ k => XS.iloadN X4.here hx rfl (hb hby own_dre02PF_11) rfl  (XS.dloadN X4.here hx rfl (hb hby own_dre02PF_12) rfl  k)) ?_
  obtain ⟨cl5, Ar5, q5, S5, Nn5, H5, G5⟩ := id u1_11
  have hin5 : ¬ ((0 : Int32) < 0 ∨ cl5.slots.size ≤ ((0 : Int32)).toNatClampNeg) := (inb_of S5 ⟨by decide, by decide⟩)
  obtain ⟨T5, h5, X5, e5, W5, st5⟩ := stD X4 hx hZ e4 Ar5 (j := (0 : Int32)) hin5 (g := (mkF m 13 #[rv a1, .val (.double (FP.l2d nc)), v_, iv 0] [(.double (FP.l2d nc)), (.int 0), (.ref bA)])) rfl rfl (hb hby own_dre02PF_13)
  have f5 : Arv Z h5 bA kb .double (2 : Int32) [(.double (FP.l2d nc)), (.double (FP.l2d b1))] (.double (FP.l2d 0)) := Arv.set Ar5 q5 S5 Nn5 H5 G5 rfl W5 0 rfl (Nat.le_of_ble_eq_true rfl)
  have f6 := Exa.wr W5 u1_0
  have f7 := Fld.other W5 u1_1 (Or.inl ne_a1_bA)
  have f8 := Fld.other W5 u1_2 (Or.inl ne_a1_bA)
  have f9 := Fld.other W5 u1_3 (Or.inl ne_a1_bA)
  have f10 := Fld.other W5 u1_4 (Or.inl ne_a1_bA)
  have f11 := Fld.other W5 u1_5 (Or.inl ne_a1_bA)
  have f12 := Fld.other W5 u1_6 (Or.inl ne_a1_bA)
  have f13 := Fld.other W5 u1_7 (Or.inl ne_a1_bA)
  have f14 := Fld.other W5 u1_8 (Or.inl ne_a1_bA)
  have f15 := Fld.other W5 u1_9 (Or.inl ne_a1_bA)
  have f16 := u1_10.other W5 ne_wA_bA
  have f17 := u1_12.other W5 (Ne.symm ne_bA_sA)
  have f18 := u1_13.other W5 (Ne.symm ne_bA_hA)
  have K5 : Keep h0 h5 [a1, wA, bA, sA, hA] := (Keep.refl h0 [a1, wA, bA, sA, hA]).wr W5 (Or.inl (List.mem_of_getElem? (i := 2) rfl))
  have Z5 := Nat.le_trans Z0 (Nat.le_of_eq W5.size.symm)
  have N5 := Fr.snoc X5 N0 g_bA
  refine own_s T5 (mkF m 14 #[rv a1, .val (.double (FP.l2d nc)), v_, iv 0] []) st5 ?_
  refine own_s T5 (mkF m 15 #[rv a1, .val (.double (FP.l2d nc)), v_, iv 0] [(.ref a1)]) (fun _ k => XS.aloadN X5.here hx rfl (hb hby own_dre02PF_14) rfl rfl k) ?_
  obtain ⟨T19, X19, e19, st19⟩ := getF X5 hx hZ hown (host := "") (Or.inl (own_h hw 17 rfl)) Via.refl e5 f10 (g := (mkF m 15 #[rv a1, .val (.double (FP.l2d nc)), v_, iv 0] [(.ref a1)])) rfl rfl (hb hby own_dre02PF_15)
  refine own_s T19 (mkF m 18 #[rv a1, .val (.double (FP.l2d nc)), v_, iv 0] [(.ref sA)]) st19 ?_
  refine own_s T19 (mkF m 20 #[rv a1, .val (.double (FP.l2d nc)), v_, iv 0] [(.ref a1), (.int 0), (.ref sA)]) (fun _ k => XS.iloadN X19.here hx rfl (hb hby own_dre02PF_18) rfl  (XS.aloadN X19.here hx rfl (hb hby own_dre02PF_19) rfl rfl k)) ?_
  obtain ⟨T20, X20, e20, st20⟩ := getF X19 hx hZ hown (host := "") (Or.inl (own_h hw 32 rfl)) Via.refl e19 f12 (g := (mkF m 20 #[rv a1, .val (.double (FP.l2d nc)), v_, iv 0] [(.ref a1), (.int 0), (.ref sA)])) rfl rfl (hb hby own_dre02PF_20)
  refine own_s T20 (mkF m 23 #[rv a1, .val (.double (FP.l2d nc)), v_, iv 0] [(.long fg), (.int 0), (.ref sA)]) st20 ?_
  obtain ⟨cl21, Ar21, q21, S21, Nn21, H21, G21⟩ := id f17
  have hin21 : ¬ ((0 : Int32) < 0 ∨ cl21.slots.size ≤ ((0 : Int32)).toNatClampNeg) := (inb_of S21 ⟨by decide, by decide⟩)
  obtain ⟨T21, h21, X21, e21, W21, st21⟩ := stJ X20 hx hZ e20 Ar21 (j := (0 : Int32)) hin21 (g := (mkF m 23 #[rv a1, .val (.double (FP.l2d nc)), v_, iv 0] [(.long fg), (.int 0), (.ref sA)])) rfl rfl (hb hby own_dre02PF_23)
  have f21 : Arv Z h21 sA ks .long (2 : Int32) [(.long fg), (.long s1)] (.long 0) := Arv.set Ar21 q21 S21 Nn21 H21 G21 rfl W21 0 rfl (Nat.le_of_ble_eq_true rfl)
  have f22 := Exa.wr W21 f6
  have f23 := Fld.other W21 f7 (Or.inl ne_a1_sA)
  have f24 := Fld.other W21 f8 (Or.inl ne_a1_sA)
  have f25 := Fld.other W21 f9 (Or.inl ne_a1_sA)
  have f26 := Fld.other W21 f10 (Or.inl ne_a1_sA)
  have f27 := Fld.other W21 f11 (Or.inl ne_a1_sA)
  have f28 := Fld.other W21 f12 (Or.inl ne_a1_sA)
  have f29 := Fld.other W21 f13 (Or.inl ne_a1_sA)
  have f30 := Fld.other W21 f14 (Or.inl ne_a1_sA)
  have f31 := Fld.other W21 f15 (Or.inl ne_a1_sA)
  have f32 := f16.other W21 ne_wA_sA
  have f33 := f5.other W21 ne_bA_sA
  have f34 := f18.other W21 (Ne.symm ne_sA_hA)
  have K21 : Keep h0 h21 [a1, wA, bA, sA, hA] := K5.wr W21 (Or.inl (List.mem_of_getElem? (i := 3) rfl))
  have Z21 := Nat.le_trans Z5 (Nat.le_of_eq W21.size.symm)
  have N21 := Fr.snoc X21 N5 g_sA
  refine own_s T21 (mkF m 24 #[rv a1, .val (.double (FP.l2d nc)), v_, iv 0] []) st21 ?_
  refine own_s T21 (mkF m 26 #[rv a1, .val (.double (FP.l2d nc)), v_, iv 0] [(.ref a1), (.ref a1)]) (fun _ k => XS.aloadN X21.here hx rfl (hb hby own_dre02PF_24) rfl rfl (XS.dup X21.here hx rfl (hb hby own_dre02PF_25) rfl rfl k)) ?_
  obtain ⟨T35, X35, e35, st35⟩ := getF X21 hx hZ hown (host := "") (Or.inl (own_h hw 34 rfl)) Via.refl e21 f29 (g := (mkF m 26 #[rv a1, .val (.double (FP.l2d nc)), v_, iv 0] [(.ref a1), (.ref a1)])) rfl rfl (hb hby own_dre02PF_26)
  refine own_s T35 (mkF m 29 #[rv a1, .val (.double (FP.l2d nc)), v_, iv 0] [(.int rk), (.ref a1)]) st35 ?_
  refine own_s T35 (mkF m 31 #[rv a1, .val (.double (FP.l2d nc)), v_, iv 0] [(.int (rk + (1 : Int32))), (.ref a1)]) (fun _ k => XS.iconst X35.here hx rfl (hb hby own_dre02PF_29) (XS.iadd X35.here hx rfl (hb hby own_dre02PF_30) rfl k)) ?_
  obtain ⟨T36, h36, X36, e36, W36, st36⟩ := putF X35 hx hZ hown (host := "") (Or.inl (own_h hw 34 rfl)) Via.refl e35 f29 f22 (Or.inl (own_h hw 35 rfl)) (own_h hw 1 rfl) (ty := .int) (by decide) rfl rfl (g := (mkF m 31 #[rv a1, .val (.double (FP.l2d nc)), v_, iv 0] [(.int (rk + (1 : Int32))), (.ref a1)])) rfl rfl (hb hby own_dre02PF_31)
  have Fw36 := Fld.same W36 f29
  have f37 := Exa.wr W36 f22
  have f38 := Fld.other W36 f23 (Or.inr (slot_ne (Or.inr (own_h hw 10 rfl)) (Or.inl (own_h hw 35 rfl)) (by decide) (t := .int) (t' := .int) (by decide) (by decide)))
  have f39 := Fld.other W36 f24 (Or.inr (slot_ne (Or.inr (own_h hw 13 rfl)) (Or.inl (own_h hw 35 rfl)) (by decide) (t := (.array .double)) (t' := .int) (by decide) (by decide)))
  have f40 := Fld.other W36 f25 (Or.inr (slot_ne (Or.inr (own_h hw 15 rfl)) (Or.inl (own_h hw 35 rfl)) (by decide) (t := (.array .double)) (t' := .int) (by decide) (by decide)))
  have f41 := Fld.other W36 f26 (Or.inr (slot_ne (Or.inr (own_h hw 18 rfl)) (Or.inl (own_h hw 35 rfl)) (by decide) (t := (.array .long)) (t' := .int) (by decide) (by decide)))
  have f42 := Fld.other W36 f27 (Or.inr (slot_ne (Or.inr (own_h hw 21 rfl)) (Or.inl (own_h hw 35 rfl)) (by decide) (t := (.array .int)) (t' := .int) (by decide) (by decide)))
  have f43 := Fld.other W36 f28 (Or.inr (slot_ne (Or.inl (own_h hw 33 rfl)) (Or.inl (own_h hw 35 rfl)) (by decide) (t := .long) (t' := .int) (by decide) (by decide)))
  have f44 := Fld.other W36 f30 (Or.inr (slot_ne (Or.inl (own_h hw 37 rfl)) (Or.inl (own_h hw 35 rfl)) (by decide) (t := .int) (t' := .int) (by decide) (by decide)))
  have f45 := Fld.other W36 f31 (Or.inr (slot_ne (Or.inl (own_h hw 39 rfl)) (Or.inl (own_h hw 35 rfl)) (by decide) (t := .int) (t' := .int) (by decide) (by decide)))
  have f46 := f32.other W36 (Ne.symm ne_a1_wA)
  have f47 := f33.other W36 (Ne.symm ne_a1_bA)
  have f48 := f21.other W36 (Ne.symm ne_a1_sA)
  have f49 := f34.other W36 (Ne.symm ne_a1_hA)
  have K36 : Keep h0 h36 [a1, wA, bA, sA, hA] := K21.wr W36 (Or.inl (List.mem_of_getElem? (i := 0) rfl))
  have Z36 := Nat.le_trans Z21 (Nat.le_of_eq W36.size.symm)
  have N36 := Fr.snoc X36 N21 g_a1
  refine own_s T36 (mkF m 34 #[rv a1, .val (.double (FP.l2d nc)), v_, iv 0] []) st36 ?_
  refine own_s T36 (mkF m 35 #[rv a1, .val (.double (FP.l2d nc)), v_, iv 0] [(.double (FP.l2d nc))]) (fun _ k => XS.dloadN X36.here hx rfl (hb hby own_dre02PF_34) rfl  k) ?_
  have mg50 := own_mgLit (0 : Int64) (K := 0) rfl rfl
  refine own_s T36 (mkF m 41 #[rv a1, .val (.double (FP.l2d nc)), v_, iv 0] [(.ref a1)]) (fun _ k => XS.dconst0 X36.here hx rfl (hb hby own_dre02PF_35) own_dc0 (XS.dcmpS X36.here hx rfl (hb hby own_dre02PF_36) rfl (dcmpV_w (own_mgB m_nc (by decide)) (own_mgB mg50 (by decide)) _) (XS.ifNo X36.here hx rfl (hb hby own_dre02PF_37) rfl ((if0 _ _).trans (tlt (own_lcgt hc)).2.2.2) (XS.aloadN X36.here hx rfl (hb hby own_dre02PF_40) rfl rfl k)))) ?_
  obtain ⟨T51, X51, e51, st51⟩ := getF X36 hx hZ hown (host := "") (Or.inl (own_h hw 36 rfl)) Via.refl e36 f44 (g := (mkF m 41 #[rv a1, .val (.double (FP.l2d nc)), v_, iv 0] [(.ref a1)])) rfl rfl (hb hby own_dre02PF_41)
  refine own_s T51 (mkF m 44 #[rv a1, .val (.double (FP.l2d nc)), v_, iv 0] [(.int (-1))]) st51 ?_
  refine own_s T51 (mkF m 61 #[rv a1, .val (.double (FP.l2d nc)), v_, iv 0] [(.int 0), (.ref a1)]) (fun _ k => XS.ifYes X51.here hx rfl (pc0 := 44) (pc' := 59) rfl (hb hby own_dre02PF_44) rfl ((if0 _ _).trans (tlt (by decide : ((-1 : Int32) < (0 : Int32)))).1) (by decide) (by decide) (XS.aloadN X51.here hx rfl (hb hby own_dre02PF_59) rfl rfl (XS.iloadN X51.here hx rfl (hb hby own_dre02PF_60) rfl  k))) ?_
  obtain ⟨T52, h52, X52, e52, W52, st52⟩ := putF X51 hx hZ hown (host := "") (Or.inl (own_h hw 36 rfl)) Via.refl e51 f44 f37 (Or.inl (own_h hw 37 rfl)) (own_h hw 1 rfl) (ty := .int) (by decide) rfl rfl (g := (mkF m 61 #[rv a1, .val (.double (FP.l2d nc)), v_, iv 0] [(.int 0), (.ref a1)])) rfl rfl (hb hby own_dre02PF_61)
  have Fw52 := Fld.same W52 f44
  have f53 := Exa.wr W52 f37
  have f54 := Fld.other W52 f38 (Or.inr (slot_ne (Or.inr (own_h hw 10 rfl)) (Or.inl (own_h hw 37 rfl)) (by decide) (t := .int) (t' := .int) (by decide) (by decide)))
  have f55 := Fld.other W52 f39 (Or.inr (slot_ne (Or.inr (own_h hw 13 rfl)) (Or.inl (own_h hw 37 rfl)) (by decide) (t := (.array .double)) (t' := .int) (by decide) (by decide)))
  have f56 := Fld.other W52 f40 (Or.inr (slot_ne (Or.inr (own_h hw 15 rfl)) (Or.inl (own_h hw 37 rfl)) (by decide) (t := (.array .double)) (t' := .int) (by decide) (by decide)))
  have f57 := Fld.other W52 f41 (Or.inr (slot_ne (Or.inr (own_h hw 18 rfl)) (Or.inl (own_h hw 37 rfl)) (by decide) (t := (.array .long)) (t' := .int) (by decide) (by decide)))
  have f58 := Fld.other W52 f42 (Or.inr (slot_ne (Or.inr (own_h hw 21 rfl)) (Or.inl (own_h hw 37 rfl)) (by decide) (t := (.array .int)) (t' := .int) (by decide) (by decide)))
  have f59 := Fld.other W52 f43 (Or.inr (slot_ne (Or.inl (own_h hw 33 rfl)) (Or.inl (own_h hw 37 rfl)) (by decide) (t := .long) (t' := .int) (by decide) (by decide)))
  have f60 := Fld.other W52 Fw36 (Or.inr (slot_ne (Or.inl (own_h hw 35 rfl)) (Or.inl (own_h hw 37 rfl)) (by decide) (t := .int) (t' := .int) (by decide) (by decide)))
  have f61 := Fld.other W52 f45 (Or.inr (slot_ne (Or.inl (own_h hw 39 rfl)) (Or.inl (own_h hw 37 rfl)) (by decide) (t := .int) (t' := .int) (by decide) (by decide)))
  have f62 := f46.other W52 (Ne.symm ne_a1_wA)
  have f63 := f47.other W52 (Ne.symm ne_a1_bA)
  have f64 := f48.other W52 (Ne.symm ne_a1_sA)
  have f65 := f49.other W52 (Ne.symm ne_a1_hA)
  have K52 : Keep h0 h52 [a1, wA, bA, sA, hA] := K36.wr W52 (Or.inl (List.mem_of_getElem? (i := 0) rfl))
  have Z52 := Nat.le_trans Z36 (Nat.le_of_eq W52.size.symm)
  have N52 := Fr.snoc X52 N36 g_a1
  refine own_s T52 (mkF m 64 #[rv a1, .val (.double (FP.l2d nc)), v_, iv 0] []) st52 ?_
  refine own_s T52 (mkF m 65 #[rv a1, .val (.double (FP.l2d nc)), v_, iv 0] [(.double (FP.l2d nc))]) (fun _ k => XS.dloadN X52.here hx rfl (hb hby own_dre02PF_64) rfl  k) ?_
  have mg66 := own_mgLit (0 : Int64) (K := 0) rfl rfl
  refine own_s T52 (mkF m 94 #[rv a1, .val (.double (FP.l2d nc)), v_, iv 0] [(.int 0), (.ref a1)]) (fun _ k => XS.dconst0 X52.here hx rfl (hb hby own_dre02PF_65) own_dc0 (XS.dcmpS X52.here hx rfl (hb hby own_dre02PF_66) rfl (dcmpV_w (own_mgB m_nc (by decide)) (own_mgB mg66 (by decide)) _) (XS.ifYes X52.here hx rfl (pc0 := 67) (pc' := 92) rfl (hb hby own_dre02PF_67) rfl ((if0 _ _).trans (tlt (own_lcgt hc)).2.2.1) (by decide) (by decide) (XS.aloadN X52.here hx rfl (hb hby own_dre02PF_92) rfl rfl (XS.iconst X52.here hx rfl (hb hby own_dre02PF_93) k))))) ?_
  obtain ⟨v67, T67, L67, X67, hQ67, st67⟩ := own_callP X52 hx hZ (y := own_y2) (W := 0) (a := a1) hown (own_h hw 64 rfl) (own_h hw 65 rfl) (own_h hw 1 rfl) (own_h hw 66 rfl) (own_h hw 2 rfl) (own_h hw 67 rfl) (by decide) (own_rms20F l Z a0 hw [] a1 wA bA sA hA kw kb ks kh reach w0 w1 nc b1 fg s1 fg (rk + (1 : Int32)) (0 : Int32) h52 n0 Z52 ⟨f53, f54, f55, f56, f57, f58, f59, f60, Fw52, f61, f62, f63, f64, f65⟩ hNE hGE m_w0 m_w1 m_nc m_b1 hc hb1 hw0 hw1 hld) (by decide) (by decide) f53 (g := (mkF m 94 #[rv a1, .val (.double (FP.l2d nc)), v_, iv 0] [(.int 0), (.ref a1)])) rfl (by rw [hml]; rfl) (argsL := [(.int 0)]) (rest := []) rfl (lenOf own_pd2 rfl) rfl (by show 2 * 0 + _ ≤ _; exact Nat.le_of_eq rfl) (hb hby own_dre02PF_94) e52 (by decide) (by decide)
  obtain ⟨rfl, Nq67, Kq67, hq67⟩ := hQ67
  have N67 := Fr.app N52 Nq67
  have K67 : Keep h0 T67.heap [a1, wA, bA, sA, hA] := K52.trans Kq67 (allS (Or.inl (List.mem_of_getElem? (i := 0) rfl)) (allS (Or.inl (List.mem_of_getElem? (i := 1) rfl)) (allS (Or.inl (List.mem_of_getElem? (i := 2) rfl)) (allS (Or.inl (List.mem_of_getElem? (i := 3) rfl)) (allS (Or.inl (List.mem_of_getElem? (i := 4) rfl)) all0)))))
  have Z67 := Nat.le_trans Z52 Kq67.1
  obtain ⟨u68_0, u68_1, u68_2, u68_3, u68_4, u68_5, u68_6, u68_7, u68_8, u68_9, u68_10, u68_11, u68_12, u68_13⟩ := id hq67
  refine own_s T67 (mkF m 97 #[rv a1, .val (.double (FP.l2d nc)), v_, iv 0] []) st67 ?_
  exact own_finV X67 hx hret (hb hby own_dre02PF_97) (own_end (Qv := (own_Qre02PF Z a1 wA bA sA hA kw kb ks kh reach w0 w1 b0 b1 s0 s1 fg rk nc h0 n0)) X67 (fun _ => rfl) hlk (by decide) (by decide) rfl ⟨rfl, N67, K67, ⟨u68_0, u68_1, u68_2, u68_3, u68_4, u68_5, u68_6, u68_7, u68_8, u68_9, u68_10, u68_11, u68_12, u68_13⟩⟩)
theorem own_dre02N_0 : decode prog_47_method_7_code 0 = .ok (.aload_n 0, 1) := by decide +kernel
theorem own_dre02N_1 : decode prog_47_method_7_code 1 = .ok (.getfield 24, 3) := by decide +kernel
theorem own_dre02N_4 : decode prog_47_method_7_code 4 = .ok (.iconst 0, 1) := by decide +kernel
theorem own_dre02N_5 : decode prog_47_method_7_code 5 = .ok (.iaload, 1) := by decide +kernel
theorem own_dre02N_6 : decode prog_47_method_7_code 6 = .ok (.istore_n 3, 1) := by decide +kernel
theorem own_dre02N_7 : decode prog_47_method_7_code 7 = .ok (.aload_n 0, 1) := by decide +kernel
theorem own_dre02N_8 : decode prog_47_method_7_code 8 = .ok (.getfield 17, 3) := by decide +kernel
theorem own_dre02N_11 : decode prog_47_method_7_code 11 = .ok (.iload_n 3, 1) := by decide +kernel
theorem own_dre02N_12 : decode prog_47_method_7_code 12 = .ok (.dload_n 1, 1) := by decide +kernel
theorem own_dre02N_13 : decode prog_47_method_7_code 13 = .ok (.dastore, 1) := by decide +kernel
theorem own_dre02N_14 : decode prog_47_method_7_code 14 = .ok (.aload_n 0, 1) := by decide +kernel
theorem own_dre02N_15 : decode prog_47_method_7_code 15 = .ok (.getfield 20, 3) := by decide +kernel
theorem own_dre02N_18 : decode prog_47_method_7_code 18 = .ok (.iload_n 3, 1) := by decide +kernel
theorem own_dre02N_19 : decode prog_47_method_7_code 19 = .ok (.aload_n 0, 1) := by decide +kernel
theorem own_dre02N_20 : decode prog_47_method_7_code 20 = .ok (.getfield 34, 3) := by decide +kernel
theorem own_dre02N_23 : decode prog_47_method_7_code 23 = .ok (.lastore, 1) := by decide +kernel
theorem own_dre02N_24 : decode prog_47_method_7_code 24 = .ok (.aload_n 0, 1) := by decide +kernel
theorem own_dre02N_25 : decode prog_47_method_7_code 25 = .ok (.dup, 1) := by decide +kernel
theorem own_dre02N_26 : decode prog_47_method_7_code 26 = .ok (.getfield 42, 3) := by decide +kernel
theorem own_dre02N_29 : decode prog_47_method_7_code 29 = .ok (.iconst 1, 1) := by decide +kernel
theorem own_dre02N_30 : decode prog_47_method_7_code 30 = .ok (.iadd, 1) := by decide +kernel
theorem own_dre02N_31 : decode prog_47_method_7_code 31 = .ok (.putfield 42, 3) := by decide +kernel
theorem own_dre02N_34 : decode prog_47_method_7_code 34 = .ok (.dload_n 1, 1) := by decide +kernel
theorem own_dre02N_35 : decode prog_47_method_7_code 35 = .ok (.dconst 0, 1) := by decide +kernel
theorem own_dre02N_36 : decode prog_47_method_7_code 36 = .ok (.dcmp .l, 1) := by decide +kernel
theorem own_dre02N_37 : decode prog_47_method_7_code 37 = .ok (.ifCond .le 27, 3) := by decide +kernel
theorem own_dre02N_64 : decode prog_47_method_7_code 64 = .ok (.dload_n 1, 1) := by decide +kernel
theorem own_dre02N_65 : decode prog_47_method_7_code 65 = .ok (.dconst 0, 1) := by decide +kernel
theorem own_dre02N_66 : decode prog_47_method_7_code 66 = .ok (.dcmp .g, 1) := by decide +kernel
theorem own_dre02N_67 : decode prog_47_method_7_code 67 = .ok (.ifCond .gt 25, 3) := by decide +kernel
theorem own_dre02N_70 : decode prog_47_method_7_code 70 = .ok (.aload_n 0, 1) := by decide +kernel
theorem own_dre02N_71 : decode prog_47_method_7_code 71 = .ok (.getfield 24, 3) := by decide +kernel
theorem own_dre02N_74 : decode prog_47_method_7_code 74 = .ok (.iconst 0, 1) := by decide +kernel
theorem own_dre02N_75 : decode prog_47_method_7_code 75 = .ok (.aload_n 0, 1) := by decide +kernel
theorem own_dre02N_76 : decode prog_47_method_7_code 76 = .ok (.getfield 24, 3) := by decide +kernel
theorem own_dre02N_79 : decode prog_47_method_7_code 79 = .ok (.aload_n 0, 1) := by decide +kernel
theorem own_dre02N_80 : decode prog_47_method_7_code 80 = .ok (.dup, 1) := by decide +kernel
theorem own_dre02N_81 : decode prog_47_method_7_code 81 = .ok (.getfield 31, 3) := by decide +kernel
theorem own_dre02N_84 : decode prog_47_method_7_code 84 = .ok (.iconst 1, 1) := by decide +kernel
theorem own_dre02N_85 : decode prog_47_method_7_code 85 = .ok (.isub, 1) := by decide +kernel
theorem own_dre02N_86 : decode prog_47_method_7_code 86 = .ok (.dup_x1, 1) := by decide +kernel
theorem own_dre02N_87 : decode prog_47_method_7_code 87 = .ok (.putfield 31, 3) := by decide +kernel
theorem own_dre02N_90 : decode prog_47_method_7_code 90 = .ok (.iaload, 1) := by decide +kernel
theorem own_dre02N_91 : decode prog_47_method_7_code 91 = .ok (.iastore, 1) := by decide +kernel
theorem own_dre02N_92 : decode prog_47_method_7_code 92 = .ok (.aload_n 0, 1) := by decide +kernel
theorem own_dre02N_93 : decode prog_47_method_7_code 93 = .ok (.iconst 0, 1) := by decide +kernel
theorem own_dre02N_94 : decode prog_47_method_7_code 94 = .ok (.invokevirtual 52, 3) := by decide +kernel
theorem own_dre02N_97 : decode prog_47_method_7_code 97 = .ok (.return_, 1) := by decide +kernel
theorem own_efre02N (m : MethodId) (x0 : Addr) (x1 : UInt64) : entryFrame m #[(.ref x0), (.double x1)] 4 = mkF m 0 #[rv x0, .val (.double x1), v_, u_] [] := by first | (simp [entryFrame, mkF, argsToLocals, Value.category]; done) | rfl
def own_Qre02N (Z : State) (a1 : Addr) (wA bA sA hA : Addr) (kw kb ks kh : ClassId) (reach : Int32) (w0 : Int64) (w1 : Int64) (b0 : Int64) (b1 : Int64) (s0 : Int64) (s1 : Int64) (fg : Int64) (rk : Int32) (nc : Int64) (h0 : Heap) (n0 : Nat) : Option Value → Heap → List Loc → Prop := fun v h L => v = none ∧ Fr n0 L ∧ Keep h0 h [a1, wA, bA, sA, hA] ∧ own_CQ Z h a1 wA bA sA hA kw kb ks kh reach w0 w1 nc b1 fg s1 (1 : Int32) (1 : Int32) fg (rk + (1 : Int32)) (-1 : Int32) (1 : Int32)
def own_Rre02N : Room := { frames := 1, cells := 0, slots := 0, locals := 18 }
set_option maxRecDepth 65536 in
set_option maxHeartbeats 40000000 in
theorem own_rmre02N (l : Launch) (Z : State) (a0 : Array Value) (hw : ∀ d ∈ tables_1, d.before a0 Z = true) (ws : List Jvm.Cond) (a1 : Addr) (wA bA sA hA : Addr) (kw kb ks kh : ClassId) (reach : Int32) (w0 : Int64) (w1 : Int64) (b0 : Int64) (b1 : Int64) (s0 : Int64) (s1 : Int64) (fg : Int64) (rk : Int32) (nc : Int64) (h0 : Heap) (n0 : Nat) (Z0 : n0 ≤ h0.size) (hCQ : own_CQ Z h0 a1 wA bA sA hA kw kb ks kh reach w0 w1 b0 b1 s0 s1 (0 : Int32) (1 : Int32) fg rk (-1 : Int32) (2 : Int32)) (hNE : own_NE a1 wA bA sA hA) (hGE : own_GE n0 a1 wA bA sA hA) (m_w0 : own_Mg 8 w0) (m_w1 : own_Mg 8 w1) (m_b0 : own_Mg 8 b0) (m_b1 : own_Mg 8 b1) (m_nc : own_Mg 8 nc) (hc : ¬ (0 : Int64) < nc) :
    own_Met l Z own_y6 prog_47_method_7_code 4 none ws own_Rre02N h0 #[(.ref a1), (.double (FP.l2d nc))] (own_Qre02N Z a1 wA bA sA hA kw kb ks kh reach w0 w1 b0 b1 s0 s1 fg rk nc h0 n0) own_Rre02N.cells own_Rre02N.slots := by
  refine own_start (plainFor_of_name own_pn0) ?_
  intro p e s m below meth c s₁ X0 hx hZ hby hml hret hlk hown hnm e0
  have hown : s.vm.findClass "com/example/allotrope/allotrope/procure/CoverQueue" = some m.cls := hown
  have hml : c.maxLocals = 4 := hml
  have N0 := Fr.nil n0
  refine own_cast (own_efre02N m a1 (FP.l2d nc)) ?_
  obtain ⟨ne_a1_wA, ne_a1_bA, ne_a1_sA, ne_a1_hA, ne_wA_bA, ne_wA_sA, ne_wA_hA, ne_bA_sA, ne_bA_hA, ne_sA_hA⟩ := id hNE
  obtain ⟨g_a1, g_wA, g_bA, g_sA, g_hA⟩ := id hGE
  obtain ⟨u1_0, u1_1, u1_2, u1_3, u1_4, u1_5, u1_6, u1_7, u1_8, u1_9, u1_10, u1_11, u1_12, u1_13⟩ := id hCQ
  refine own_s s₁ (mkF m 1 #[rv a1, .val (.double (FP.l2d nc)), v_, u_] [(.ref a1)]) (fun _ k => XS.aloadN X0.here hx rfl (hb hby own_dre02N_0) rfl rfl k) ?_
  obtain ⟨T2, X2, e2, st2⟩ := getF X0 hx hZ hown (host := "") (Or.inl (own_h hw 20 rfl)) Via.refl e0 u1_5 (g := (mkF m 1 #[rv a1, .val (.double (FP.l2d nc)), v_, u_] [(.ref a1)])) rfl rfl (hb hby own_dre02N_1)
  refine own_s T2 (mkF m 4 #[rv a1, .val (.double (FP.l2d nc)), v_, u_] [(.ref hA)]) st2 ?_
  refine own_s T2 (mkF m 5 #[rv a1, .val (.double (FP.l2d nc)), v_, u_] [(.int 0), (.ref hA)]) (fun _ k => XS.iconst X2.here hx rfl (hb hby own_dre02N_4) k) ?_
  obtain ⟨cl3, Ar3, q3, S3, Nn3, H3, G3⟩ := id u1_13
  have hin3 : ¬ ((0 : Int32) < 0 ∨ cl3.slots.size ≤ ((0 : Int32)).toNatClampNeg) := (inb_of S3 ⟨by decide, by decide⟩)
  refine own_s T2 (mkF m 8 #[rv a1, .val (.double (FP.l2d nc)), v_, iv 0] [(.ref a1)]) (fun _ k => X2.iaload hx (j := (0 : Int32)) (v := (.int 0)) (own_at e2 Ar3.1) (State.isArrayOf_alike hZ.alike Ar3.2.1) Ar3.2.2 hin3 (Has.at H3 hin3 rfl) (g := (mkF m 5 #[rv a1, .val (.double (FP.l2d nc)), v_, u_] [(.int 0), (.ref hA)])) rfl rfl (hb hby own_dre02N_5) _ (XS.istoreN X2.here hx rfl (hb hby own_dre02N_6) rfl (l' := #[rv a1, .val (.double (FP.l2d nc)), v_, iv 0]) rfl (XS.aloadN X2.here hx rfl (hb hby own_dre02N_7) rfl rfl k))) ?_
  obtain ⟨T4, X4, e4, st4⟩ := getF X2 hx hZ hown (host := "") (Or.inl (own_h hw 14 rfl)) Via.refl e2 u1_3 (g := (mkF m 8 #[rv a1, .val (.double (FP.l2d nc)), v_, iv 0] [(.ref a1)])) rfl rfl (hb hby own_dre02N_8)
  refine own_s T4 (mkF m 11 #[rv a1, .val (.double (FP.l2d nc)), v_, iv 0] [(.ref bA)]) st4 ?_
  refine own_s T4 (mkF m 13 #[rv a1, .val (.double (FP.l2d nc)), v_, iv 0] [(.double (FP.l2d nc)), (.int 0), (.ref bA)]) (fun _ k => XS.iloadN X4.here hx rfl (hb hby own_dre02N_11) rfl  (XS.dloadN X4.here hx rfl (hb hby own_dre02N_12) rfl  k)) ?_
  obtain ⟨cl5, Ar5, q5, S5, Nn5, H5, G5⟩ := id u1_11
  have hin5 : ¬ ((0 : Int32) < 0 ∨ cl5.slots.size ≤ ((0 : Int32)).toNatClampNeg) := (inb_of S5 ⟨by decide, by decide⟩)
  obtain ⟨T5, h5, X5, e5, W5, st5⟩ := stD X4 hx hZ e4 Ar5 (j := (0 : Int32)) hin5 (g := (mkF m 13 #[rv a1, .val (.double (FP.l2d nc)), v_, iv 0] [(.double (FP.l2d nc)), (.int 0), (.ref bA)])) rfl rfl (hb hby own_dre02N_13)
  have f5 : Arv Z h5 bA kb .double (2 : Int32) [(.double (FP.l2d nc)), (.double (FP.l2d b1))] (.double (FP.l2d 0)) := Arv.set Ar5 q5 S5 Nn5 H5 G5 rfl W5 0 rfl (Nat.le_of_ble_eq_true rfl)
  have f6 := Exa.wr W5 u1_0
  have f7 := Fld.other W5 u1_1 (Or.inl ne_a1_bA)
  have f8 := Fld.other W5 u1_2 (Or.inl ne_a1_bA)
  have f9 := Fld.other W5 u1_3 (Or.inl ne_a1_bA)
  have f10 := Fld.other W5 u1_4 (Or.inl ne_a1_bA)
  have f11 := Fld.other W5 u1_5 (Or.inl ne_a1_bA)
  have f12 := Fld.other W5 u1_6 (Or.inl ne_a1_bA)
  have f13 := Fld.other W5 u1_7 (Or.inl ne_a1_bA)
  have f14 := Fld.other W5 u1_8 (Or.inl ne_a1_bA)
  have f15 := Fld.other W5 u1_9 (Or.inl ne_a1_bA)
  have f16 := u1_10.other W5 ne_wA_bA
  have f17 := u1_12.other W5 (Ne.symm ne_bA_sA)
  have f18 := u1_13.other W5 (Ne.symm ne_bA_hA)
  have K5 : Keep h0 h5 [a1, wA, bA, sA, hA] := (Keep.refl h0 [a1, wA, bA, sA, hA]).wr W5 (Or.inl (List.mem_of_getElem? (i := 2) rfl))
  have Z5 := Nat.le_trans Z0 (Nat.le_of_eq W5.size.symm)
  have N5 := Fr.snoc X5 N0 g_bA
  refine own_s T5 (mkF m 14 #[rv a1, .val (.double (FP.l2d nc)), v_, iv 0] []) st5 ?_
  refine own_s T5 (mkF m 15 #[rv a1, .val (.double (FP.l2d nc)), v_, iv 0] [(.ref a1)]) (fun _ k => XS.aloadN X5.here hx rfl (hb hby own_dre02N_14) rfl rfl k) ?_
  obtain ⟨T19, X19, e19, st19⟩ := getF X5 hx hZ hown (host := "") (Or.inl (own_h hw 17 rfl)) Via.refl e5 f10 (g := (mkF m 15 #[rv a1, .val (.double (FP.l2d nc)), v_, iv 0] [(.ref a1)])) rfl rfl (hb hby own_dre02N_15)
  refine own_s T19 (mkF m 18 #[rv a1, .val (.double (FP.l2d nc)), v_, iv 0] [(.ref sA)]) st19 ?_
  refine own_s T19 (mkF m 20 #[rv a1, .val (.double (FP.l2d nc)), v_, iv 0] [(.ref a1), (.int 0), (.ref sA)]) (fun _ k => XS.iloadN X19.here hx rfl (hb hby own_dre02N_18) rfl  (XS.aloadN X19.here hx rfl (hb hby own_dre02N_19) rfl rfl k)) ?_
  obtain ⟨T20, X20, e20, st20⟩ := getF X19 hx hZ hown (host := "") (Or.inl (own_h hw 32 rfl)) Via.refl e19 f12 (g := (mkF m 20 #[rv a1, .val (.double (FP.l2d nc)), v_, iv 0] [(.ref a1), (.int 0), (.ref sA)])) rfl rfl (hb hby own_dre02N_20)
  refine own_s T20 (mkF m 23 #[rv a1, .val (.double (FP.l2d nc)), v_, iv 0] [(.long fg), (.int 0), (.ref sA)]) st20 ?_
  obtain ⟨cl21, Ar21, q21, S21, Nn21, H21, G21⟩ := id f17
  have hin21 : ¬ ((0 : Int32) < 0 ∨ cl21.slots.size ≤ ((0 : Int32)).toNatClampNeg) := (inb_of S21 ⟨by decide, by decide⟩)
  obtain ⟨T21, h21, X21, e21, W21, st21⟩ := stJ X20 hx hZ e20 Ar21 (j := (0 : Int32)) hin21 (g := (mkF m 23 #[rv a1, .val (.double (FP.l2d nc)), v_, iv 0] [(.long fg), (.int 0), (.ref sA)])) rfl rfl (hb hby own_dre02N_23)
  have f21 : Arv Z h21 sA ks .long (2 : Int32) [(.long fg), (.long s1)] (.long 0) := Arv.set Ar21 q21 S21 Nn21 H21 G21 rfl W21 0 rfl (Nat.le_of_ble_eq_true rfl)
  have f22 := Exa.wr W21 f6
  have f23 := Fld.other W21 f7 (Or.inl ne_a1_sA)
  have f24 := Fld.other W21 f8 (Or.inl ne_a1_sA)
  have f25 := Fld.other W21 f9 (Or.inl ne_a1_sA)
  have f26 := Fld.other W21 f10 (Or.inl ne_a1_sA)
  have f27 := Fld.other W21 f11 (Or.inl ne_a1_sA)
  have f28 := Fld.other W21 f12 (Or.inl ne_a1_sA)
  have f29 := Fld.other W21 f13 (Or.inl ne_a1_sA)
  have f30 := Fld.other W21 f14 (Or.inl ne_a1_sA)
  have f31 := Fld.other W21 f15 (Or.inl ne_a1_sA)
  have f32 := f16.other W21 ne_wA_sA
  have f33 := f5.other W21 ne_bA_sA
  have f34 := f18.other W21 (Ne.symm ne_sA_hA)
  have K21 : Keep h0 h21 [a1, wA, bA, sA, hA] := K5.wr W21 (Or.inl (List.mem_of_getElem? (i := 3) rfl))
  have Z21 := Nat.le_trans Z5 (Nat.le_of_eq W21.size.symm)
  have N21 := Fr.snoc X21 N5 g_sA
  refine own_s T21 (mkF m 24 #[rv a1, .val (.double (FP.l2d nc)), v_, iv 0] []) st21 ?_
  refine own_s T21 (mkF m 26 #[rv a1, .val (.double (FP.l2d nc)), v_, iv 0] [(.ref a1), (.ref a1)]) (fun _ k => XS.aloadN X21.here hx rfl (hb hby own_dre02N_24) rfl rfl (XS.dup X21.here hx rfl (hb hby own_dre02N_25) rfl rfl k)) ?_
  obtain ⟨T35, X35, e35, st35⟩ := getF X21 hx hZ hown (host := "") (Or.inl (own_h hw 34 rfl)) Via.refl e21 f29 (g := (mkF m 26 #[rv a1, .val (.double (FP.l2d nc)), v_, iv 0] [(.ref a1), (.ref a1)])) rfl rfl (hb hby own_dre02N_26)
  refine own_s T35 (mkF m 29 #[rv a1, .val (.double (FP.l2d nc)), v_, iv 0] [(.int rk), (.ref a1)]) st35 ?_
  refine own_s T35 (mkF m 31 #[rv a1, .val (.double (FP.l2d nc)), v_, iv 0] [(.int (rk + (1 : Int32))), (.ref a1)]) (fun _ k => XS.iconst X35.here hx rfl (hb hby own_dre02N_29) (XS.iadd X35.here hx rfl (hb hby own_dre02N_30) rfl k)) ?_
  obtain ⟨T36, h36, X36, e36, W36, st36⟩ := putF X35 hx hZ hown (host := "") (Or.inl (own_h hw 34 rfl)) Via.refl e35 f29 f22 (Or.inl (own_h hw 35 rfl)) (own_h hw 1 rfl) (ty := .int) (by decide) rfl rfl (g := (mkF m 31 #[rv a1, .val (.double (FP.l2d nc)), v_, iv 0] [(.int (rk + (1 : Int32))), (.ref a1)])) rfl rfl (hb hby own_dre02N_31)
  have Fw36 := Fld.same W36 f29
  have f37 := Exa.wr W36 f22
  have f38 := Fld.other W36 f23 (Or.inr (slot_ne (Or.inr (own_h hw 10 rfl)) (Or.inl (own_h hw 35 rfl)) (by decide) (t := .int) (t' := .int) (by decide) (by decide)))
  have f39 := Fld.other W36 f24 (Or.inr (slot_ne (Or.inr (own_h hw 13 rfl)) (Or.inl (own_h hw 35 rfl)) (by decide) (t := (.array .double)) (t' := .int) (by decide) (by decide)))
  have f40 := Fld.other W36 f25 (Or.inr (slot_ne (Or.inr (own_h hw 15 rfl)) (Or.inl (own_h hw 35 rfl)) (by decide) (t := (.array .double)) (t' := .int) (by decide) (by decide)))
  have f41 := Fld.other W36 f26 (Or.inr (slot_ne (Or.inr (own_h hw 18 rfl)) (Or.inl (own_h hw 35 rfl)) (by decide) (t := (.array .long)) (t' := .int) (by decide) (by decide)))
  have f42 := Fld.other W36 f27 (Or.inr (slot_ne (Or.inr (own_h hw 21 rfl)) (Or.inl (own_h hw 35 rfl)) (by decide) (t := (.array .int)) (t' := .int) (by decide) (by decide)))
  have f43 := Fld.other W36 f28 (Or.inr (slot_ne (Or.inl (own_h hw 33 rfl)) (Or.inl (own_h hw 35 rfl)) (by decide) (t := .long) (t' := .int) (by decide) (by decide)))
  have f44 := Fld.other W36 f30 (Or.inr (slot_ne (Or.inl (own_h hw 37 rfl)) (Or.inl (own_h hw 35 rfl)) (by decide) (t := .int) (t' := .int) (by decide) (by decide)))
  have f45 := Fld.other W36 f31 (Or.inr (slot_ne (Or.inl (own_h hw 39 rfl)) (Or.inl (own_h hw 35 rfl)) (by decide) (t := .int) (t' := .int) (by decide) (by decide)))
  have f46 := f32.other W36 (Ne.symm ne_a1_wA)
  have f47 := f33.other W36 (Ne.symm ne_a1_bA)
  have f48 := f21.other W36 (Ne.symm ne_a1_sA)
  have f49 := f34.other W36 (Ne.symm ne_a1_hA)
  have K36 : Keep h0 h36 [a1, wA, bA, sA, hA] := K21.wr W36 (Or.inl (List.mem_of_getElem? (i := 0) rfl))
  have Z36 := Nat.le_trans Z21 (Nat.le_of_eq W36.size.symm)
  have N36 := Fr.snoc X36 N21 g_a1
  refine own_s T36 (mkF m 34 #[rv a1, .val (.double (FP.l2d nc)), v_, iv 0] []) st36 ?_
  refine own_s T36 (mkF m 35 #[rv a1, .val (.double (FP.l2d nc)), v_, iv 0] [(.double (FP.l2d nc))]) (fun _ k => XS.dloadN X36.here hx rfl (hb hby own_dre02N_34) rfl  k) ?_
  have mg50 := own_mgLit (0 : Int64) (K := 0) rfl rfl
  refine own_s T36 (mkF m 65 #[rv a1, .val (.double (FP.l2d nc)), v_, iv 0] [(.double (FP.l2d nc))]) (fun _ k => XS.dconst0 X36.here hx rfl (hb hby own_dre02N_35) own_dc0 (XS.dcmpS X36.here hx rfl (hb hby own_dre02N_36) rfl (dcmpV_w (own_mgB m_nc (by decide)) (own_mgB mg50 (by decide)) _) (XS.ifYes X36.here hx rfl (pc0 := 37) (pc' := 64) rfl (hb hby own_dre02N_37) rfl ((if0 _ _).trans (flt (own_lcgtN hc)).2.2.2) (by decide) (by decide) (XS.dloadN X36.here hx rfl (hb hby own_dre02N_64) rfl  k)))) ?_
  have mg51 := own_mgLit (0 : Int64) (K := 0) rfl rfl
  refine own_s T36 (mkF m 71 #[rv a1, .val (.double (FP.l2d nc)), v_, iv 0] [(.ref a1)]) (fun _ k => XS.dconst0 X36.here hx rfl (hb hby own_dre02N_65) own_dc0 (XS.dcmpS X36.here hx rfl (hb hby own_dre02N_66) rfl (dcmpV_w (own_mgB m_nc (by decide)) (own_mgB mg51 (by decide)) _) (XS.ifNo X36.here hx rfl (hb hby own_dre02N_67) rfl ((if0 _ _).trans (flt (own_lcgtN hc)).2.2.1) (XS.aloadN X36.here hx rfl (hb hby own_dre02N_70) rfl rfl k)))) ?_
  obtain ⟨T52, X52, e52, st52⟩ := getF X36 hx hZ hown (host := "") (Or.inl (own_h hw 20 rfl)) Via.refl e36 f42 (g := (mkF m 71 #[rv a1, .val (.double (FP.l2d nc)), v_, iv 0] [(.ref a1)])) rfl rfl (hb hby own_dre02N_71)
  refine own_s T52 (mkF m 74 #[rv a1, .val (.double (FP.l2d nc)), v_, iv 0] [(.ref hA)]) st52 ?_
  refine own_s T52 (mkF m 76 #[rv a1, .val (.double (FP.l2d nc)), v_, iv 0] [(.ref a1), (.int 0), (.ref hA)]) (fun _ k => XS.iconst X52.here hx rfl (hb hby own_dre02N_74) (XS.aloadN X52.here hx rfl (hb hby own_dre02N_75) rfl rfl k)) ?_
  obtain ⟨T53, X53, e53, st53⟩ := getF X52 hx hZ hown (host := "") (Or.inl (own_h hw 20 rfl)) Via.refl e52 f42 (g := (mkF m 76 #[rv a1, .val (.double (FP.l2d nc)), v_, iv 0] [(.ref a1), (.int 0), (.ref hA)])) rfl rfl (hb hby own_dre02N_76)
  refine own_s T53 (mkF m 79 #[rv a1, .val (.double (FP.l2d nc)), v_, iv 0] [(.ref hA), (.int 0), (.ref hA)]) st53 ?_
  refine own_s T53 (mkF m 81 #[rv a1, .val (.double (FP.l2d nc)), v_, iv 0] [(.ref a1), (.ref a1), (.ref hA), (.int 0), (.ref hA)]) (fun _ k => XS.aloadN X53.here hx rfl (hb hby own_dre02N_79) rfl rfl (XS.dup X53.here hx rfl (hb hby own_dre02N_80) rfl rfl k)) ?_
  obtain ⟨T54, X54, e54, st54⟩ := getF X53 hx hZ hown (host := "") (Or.inl (own_h hw 38 rfl)) Via.refl e53 f45 (g := (mkF m 81 #[rv a1, .val (.double (FP.l2d nc)), v_, iv 0] [(.ref a1), (.ref a1), (.ref hA), (.int 0), (.ref hA)])) rfl rfl (hb hby own_dre02N_81)
  refine own_s T54 (mkF m 84 #[rv a1, .val (.double (FP.l2d nc)), v_, iv 0] [(.int 2), (.ref a1), (.ref hA), (.int 0), (.ref hA)]) st54 ?_
  refine own_s T54 (mkF m 87 #[rv a1, .val (.double (FP.l2d nc)), v_, iv 0] [(.int 1), (.ref a1), (.int 1), (.ref hA), (.int 0), (.ref hA)]) (fun _ k => XS.iconst X54.here hx rfl (hb hby own_dre02N_84) (XS.isub X54.here hx rfl (hb hby own_dre02N_85) rfl (XS.dupX1 X54.here hx rfl (hb hby own_dre02N_86) rfl rfl rfl k))) ?_
  obtain ⟨T55, h55, X55, e55, W55, st55⟩ := putF X54 hx hZ hown (host := "") (Or.inl (own_h hw 38 rfl)) Via.refl e54 f45 f37 (Or.inl (own_h hw 39 rfl)) (own_h hw 1 rfl) (ty := .int) (by decide) rfl rfl (g := (mkF m 87 #[rv a1, .val (.double (FP.l2d nc)), v_, iv 0] [(.int 1), (.ref a1), (.int 1), (.ref hA), (.int 0), (.ref hA)])) rfl rfl (hb hby own_dre02N_87)
  have Fw55 := Fld.same W55 f45
  have f56 := Exa.wr W55 f37
  have f57 := Fld.other W55 f38 (Or.inr (slot_ne (Or.inr (own_h hw 10 rfl)) (Or.inl (own_h hw 39 rfl)) (by decide) (t := .int) (t' := .int) (by decide) (by decide)))
  have f58 := Fld.other W55 f39 (Or.inr (slot_ne (Or.inr (own_h hw 13 rfl)) (Or.inl (own_h hw 39 rfl)) (by decide) (t := (.array .double)) (t' := .int) (by decide) (by decide)))
  have f59 := Fld.other W55 f40 (Or.inr (slot_ne (Or.inr (own_h hw 15 rfl)) (Or.inl (own_h hw 39 rfl)) (by decide) (t := (.array .double)) (t' := .int) (by decide) (by decide)))
  have f60 := Fld.other W55 f41 (Or.inr (slot_ne (Or.inr (own_h hw 18 rfl)) (Or.inl (own_h hw 39 rfl)) (by decide) (t := (.array .long)) (t' := .int) (by decide) (by decide)))
  have f61 := Fld.other W55 f42 (Or.inr (slot_ne (Or.inr (own_h hw 21 rfl)) (Or.inl (own_h hw 39 rfl)) (by decide) (t := (.array .int)) (t' := .int) (by decide) (by decide)))
  have f62 := Fld.other W55 f43 (Or.inr (slot_ne (Or.inl (own_h hw 33 rfl)) (Or.inl (own_h hw 39 rfl)) (by decide) (t := .long) (t' := .int) (by decide) (by decide)))
  have f63 := Fld.other W55 Fw36 (Or.inr (slot_ne (Or.inl (own_h hw 35 rfl)) (Or.inl (own_h hw 39 rfl)) (by decide) (t := .int) (t' := .int) (by decide) (by decide)))
  have f64 := Fld.other W55 f44 (Or.inr (slot_ne (Or.inl (own_h hw 37 rfl)) (Or.inl (own_h hw 39 rfl)) (by decide) (t := .int) (t' := .int) (by decide) (by decide)))
  have f65 := f46.other W55 (Ne.symm ne_a1_wA)
  have f66 := f47.other W55 (Ne.symm ne_a1_bA)
  have f67 := f48.other W55 (Ne.symm ne_a1_sA)
  have f68 := f49.other W55 (Ne.symm ne_a1_hA)
  have K55 : Keep h0 h55 [a1, wA, bA, sA, hA] := K36.wr W55 (Or.inl (List.mem_of_getElem? (i := 0) rfl))
  have Z55 := Nat.le_trans Z36 (Nat.le_of_eq W55.size.symm)
  have N55 := Fr.snoc X55 N36 g_a1
  refine own_s T55 (mkF m 90 #[rv a1, .val (.double (FP.l2d nc)), v_, iv 0] [(.int 1), (.ref hA), (.int 0), (.ref hA)]) st55 ?_
  obtain ⟨cl69, Ar69, q69, S69, Nn69, H69, G69⟩ := id f68
  have hin69 : ¬ ((1 : Int32) < 0 ∨ cl69.slots.size ≤ ((1 : Int32)).toNatClampNeg) := (inb_of S69 ⟨by decide, by decide⟩)
  refine own_s T55 (mkF m 91 #[rv a1, .val (.double (FP.l2d nc)), v_, iv 0] [(.int 1), (.int 0), (.ref hA)]) (fun _ k => X55.iaload hx (j := (1 : Int32)) (v := (.int 1)) (own_at e55 Ar69.1) (State.isArrayOf_alike hZ.alike Ar69.2.1) Ar69.2.2 hin69 (Has.at H69 hin69 rfl) (g := (mkF m 90 #[rv a1, .val (.double (FP.l2d nc)), v_, iv 0] [(.int 1), (.ref hA), (.int 0), (.ref hA)])) rfl rfl (hb hby own_dre02N_90) _ k) ?_
  obtain ⟨cl70, Ar70, q70, S70, Nn70, H70, G70⟩ := id f68
  have hin70 : ¬ ((0 : Int32) < 0 ∨ cl70.slots.size ≤ ((0 : Int32)).toNatClampNeg) := (inb_of S70 ⟨by decide, by decide⟩)
  obtain ⟨T70, h70, X70, e70, W70, st70⟩ := stI X55 hx hZ e55 Ar70 (j := (0 : Int32)) hin70 (g := (mkF m 91 #[rv a1, .val (.double (FP.l2d nc)), v_, iv 0] [(.int 1), (.int 0), (.ref hA)])) rfl rfl (hb hby own_dre02N_91)
  have f70 : Arv Z h70 hA kh .int (2 : Int32) [(.int 1), (.int 1)] (.int 0) := Arv.set Ar70 q70 S70 Nn70 H70 G70 rfl W70 0 rfl (Nat.le_of_ble_eq_true rfl)
  have f71 := Exa.wr W70 f56
  have f72 := Fld.other W70 f57 (Or.inl ne_a1_hA)
  have f73 := Fld.other W70 f58 (Or.inl ne_a1_hA)
  have f74 := Fld.other W70 f59 (Or.inl ne_a1_hA)
  have f75 := Fld.other W70 f60 (Or.inl ne_a1_hA)
  have f76 := Fld.other W70 f61 (Or.inl ne_a1_hA)
  have f77 := Fld.other W70 f62 (Or.inl ne_a1_hA)
  have f78 := Fld.other W70 f63 (Or.inl ne_a1_hA)
  have f79 := Fld.other W70 f64 (Or.inl ne_a1_hA)
  have f80 := Fld.other W70 Fw55 (Or.inl ne_a1_hA)
  have f81 := f65.other W70 ne_wA_hA
  have f82 := f66.other W70 ne_bA_hA
  have f83 := f67.other W70 ne_sA_hA
  have K70 : Keep h0 h70 [a1, wA, bA, sA, hA] := K55.wr W70 (Or.inl (List.mem_of_getElem? (i := 4) rfl))
  have Z70 := Nat.le_trans Z55 (Nat.le_of_eq W70.size.symm)
  have N70 := Fr.snoc X70 N55 g_hA
  refine own_s T70 (mkF m 92 #[rv a1, .val (.double (FP.l2d nc)), v_, iv 0] []) st70 ?_
  refine own_s T70 (mkF m 94 #[rv a1, .val (.double (FP.l2d nc)), v_, iv 0] [(.int 0), (.ref a1)]) (fun _ k => XS.aloadN X70.here hx rfl (hb hby own_dre02N_92) rfl rfl (XS.iconst X70.here hx rfl (hb hby own_dre02N_93) k)) ?_
  obtain ⟨v84, T84, L84, X84, hQ84, st84⟩ := own_callP X70 hx hZ (y := own_y2) (W := 0) (a := a1) hown (own_h hw 64 rfl) (own_h hw 65 rfl) (own_h hw 1 rfl) (own_h hw 66 rfl) (own_h hw 2 rfl) (own_h hw 67 rfl) (by decide) (own_rms1 l Z a0 hw [] a1 wA bA sA hA kw kb ks kh reach w0 w1 nc b1 fg s1 (1 : Int32) (1 : Int32) fg (rk + (1 : Int32)) (-1 : Int32) h70 n0 Z70 ⟨f71, f72, f73, f74, f75, f76, f77, f78, f79, f80, f81, f82, f83, f70⟩ hNE hGE m_w0 m_w1 m_nc m_b1) (by decide) (by decide) f71 (g := (mkF m 94 #[rv a1, .val (.double (FP.l2d nc)), v_, iv 0] [(.int 0), (.ref a1)])) rfl (by rw [hml]; rfl) (argsL := [(.int 0)]) (rest := []) rfl (lenOf own_pd2 rfl) rfl (by show 2 * 0 + _ ≤ _; exact Nat.le_of_eq rfl) (hb hby own_dre02N_94) e70 (by decide) (by decide)
  obtain ⟨rfl, Nq84, Kq84, hq84⟩ := hQ84
  have N84 := Fr.app N70 Nq84
  have K84 : Keep h0 T84.heap [a1, wA, bA, sA, hA] := K70.trans Kq84 (allS (Or.inl (List.mem_of_getElem? (i := 0) rfl)) (allS (Or.inl (List.mem_of_getElem? (i := 1) rfl)) (allS (Or.inl (List.mem_of_getElem? (i := 2) rfl)) (allS (Or.inl (List.mem_of_getElem? (i := 3) rfl)) (allS (Or.inl (List.mem_of_getElem? (i := 4) rfl)) all0)))))
  have Z84 := Nat.le_trans Z70 Kq84.1
  obtain ⟨u85_0, u85_1, u85_2, u85_3, u85_4, u85_5, u85_6, u85_7, u85_8, u85_9, u85_10, u85_11, u85_12, u85_13⟩ := id hq84
  refine own_s T84 (mkF m 97 #[rv a1, .val (.double (FP.l2d nc)), v_, iv 0] []) st84 ?_
  exact own_finV X84 hx hret (hb hby own_dre02N_97) (own_end (Qv := (own_Qre02N Z a1 wA bA sA hA kw kb ks kh reach w0 w1 b0 b1 s0 s1 fg rk nc h0 n0)) X84 (fun _ => rfl) hlk (by decide) (by decide) rfl ⟨rfl, N84, K84, ⟨u85_0, u85_1, u85_2, u85_3, u85_4, u85_5, u85_6, u85_7, u85_8, u85_9, u85_10, u85_11, u85_12, u85_13⟩⟩)
theorem own_dre11P_0 : decode prog_47_method_7_code 0 = .ok (.aload_n 0, 1) := by decide +kernel
theorem own_dre11P_1 : decode prog_47_method_7_code 1 = .ok (.getfield 24, 3) := by decide +kernel
theorem own_dre11P_4 : decode prog_47_method_7_code 4 = .ok (.iconst 0, 1) := by decide +kernel
theorem own_dre11P_5 : decode prog_47_method_7_code 5 = .ok (.iaload, 1) := by decide +kernel
theorem own_dre11P_6 : decode prog_47_method_7_code 6 = .ok (.istore_n 3, 1) := by decide +kernel
theorem own_dre11P_7 : decode prog_47_method_7_code 7 = .ok (.aload_n 0, 1) := by decide +kernel
theorem own_dre11P_8 : decode prog_47_method_7_code 8 = .ok (.getfield 17, 3) := by decide +kernel
theorem own_dre11P_11 : decode prog_47_method_7_code 11 = .ok (.iload_n 3, 1) := by decide +kernel
theorem own_dre11P_12 : decode prog_47_method_7_code 12 = .ok (.dload_n 1, 1) := by decide +kernel
theorem own_dre11P_13 : decode prog_47_method_7_code 13 = .ok (.dastore, 1) := by decide +kernel
theorem own_dre11P_14 : decode prog_47_method_7_code 14 = .ok (.aload_n 0, 1) := by decide +kernel
theorem own_dre11P_15 : decode prog_47_method_7_code 15 = .ok (.getfield 20, 3) := by decide +kernel
theorem own_dre11P_18 : decode prog_47_method_7_code 18 = .ok (.iload_n 3, 1) := by decide +kernel
theorem own_dre11P_19 : decode prog_47_method_7_code 19 = .ok (.aload_n 0, 1) := by decide +kernel
theorem own_dre11P_20 : decode prog_47_method_7_code 20 = .ok (.getfield 34, 3) := by decide +kernel
theorem own_dre11P_23 : decode prog_47_method_7_code 23 = .ok (.lastore, 1) := by decide +kernel
theorem own_dre11P_24 : decode prog_47_method_7_code 24 = .ok (.aload_n 0, 1) := by decide +kernel
theorem own_dre11P_25 : decode prog_47_method_7_code 25 = .ok (.dup, 1) := by decide +kernel
theorem own_dre11P_26 : decode prog_47_method_7_code 26 = .ok (.getfield 42, 3) := by decide +kernel
theorem own_dre11P_29 : decode prog_47_method_7_code 29 = .ok (.iconst 1, 1) := by decide +kernel
theorem own_dre11P_30 : decode prog_47_method_7_code 30 = .ok (.iadd, 1) := by decide +kernel
theorem own_dre11P_31 : decode prog_47_method_7_code 31 = .ok (.putfield 42, 3) := by decide +kernel
theorem own_dre11P_34 : decode prog_47_method_7_code 34 = .ok (.dload_n 1, 1) := by decide +kernel
theorem own_dre11P_35 : decode prog_47_method_7_code 35 = .ok (.dconst 0, 1) := by decide +kernel
theorem own_dre11P_36 : decode prog_47_method_7_code 36 = .ok (.dcmp .l, 1) := by decide +kernel
theorem own_dre11P_37 : decode prog_47_method_7_code 37 = .ok (.ifCond .le 27, 3) := by decide +kernel
theorem own_dre11P_40 : decode prog_47_method_7_code 40 = .ok (.aload_n 0, 1) := by decide +kernel
theorem own_dre11P_41 : decode prog_47_method_7_code 41 = .ok (.getfield 45, 3) := by decide +kernel
theorem own_dre11P_44 : decode prog_47_method_7_code 44 = .ok (.ifCond .lt 15, 3) := by decide +kernel
theorem own_dre11P_59 : decode prog_47_method_7_code 59 = .ok (.aload_n 0, 1) := by decide +kernel
theorem own_dre11P_60 : decode prog_47_method_7_code 60 = .ok (.iload_n 3, 1) := by decide +kernel
theorem own_dre11P_61 : decode prog_47_method_7_code 61 = .ok (.putfield 45, 3) := by decide +kernel
theorem own_dre11P_64 : decode prog_47_method_7_code 64 = .ok (.dload_n 1, 1) := by decide +kernel
theorem own_dre11P_65 : decode prog_47_method_7_code 65 = .ok (.dconst 0, 1) := by decide +kernel
theorem own_dre11P_66 : decode prog_47_method_7_code 66 = .ok (.dcmp .g, 1) := by decide +kernel
theorem own_dre11P_67 : decode prog_47_method_7_code 67 = .ok (.ifCond .gt 25, 3) := by decide +kernel
theorem own_dre11P_92 : decode prog_47_method_7_code 92 = .ok (.aload_n 0, 1) := by decide +kernel
theorem own_dre11P_93 : decode prog_47_method_7_code 93 = .ok (.iconst 0, 1) := by decide +kernel
theorem own_dre11P_94 : decode prog_47_method_7_code 94 = .ok (.invokevirtual 52, 3) := by decide +kernel
theorem own_dre11P_97 : decode prog_47_method_7_code 97 = .ok (.return_, 1) := by decide +kernel
theorem own_efre11P (m : MethodId) (x0 : Addr) (x1 : UInt64) : entryFrame m #[(.ref x0), (.double x1)] 4 = mkF m 0 #[rv x0, .val (.double x1), v_, u_] [] := by first | (simp [entryFrame, mkF, argsToLocals, Value.category]; done) | rfl
def own_Qre11P (Z : State) (a1 : Addr) (wA bA sA hA : Addr) (kw kb ks kh : ClassId) (reach : Int32) (w0 : Int64) (w1 : Int64) (b0 : Int64) (b1 : Int64) (s0 : Int64) (s1 : Int64) (t1 : Int32) (fg : Int64) (rk : Int32) (nc : Int64) (h0 : Heap) (n0 : Nat) : Option Value → Heap → List Loc → Prop := fun v h L => v = none ∧ Fr n0 L ∧ Keep h0 h [a1, wA, bA, sA, hA] ∧ own_CQ Z h a1 wA bA sA hA kw kb ks kh reach w0 w1 b0 nc s0 fg (1 : Int32) t1 fg (rk + (1 : Int32)) (1 : Int32) (1 : Int32)
def own_Rre11P : Room := { frames := 1, cells := 0, slots := 0, locals := 18 }
set_option maxRecDepth 65536 in
set_option maxHeartbeats 40000000 in
theorem own_rmre11P (l : Launch) (Z : State) (a0 : Array Value) (hw : ∀ d ∈ tables_1, d.before a0 Z = true) (ws : List Jvm.Cond) (a1 : Addr) (wA bA sA hA : Addr) (kw kb ks kh : ClassId) (reach : Int32) (w0 : Int64) (w1 : Int64) (b0 : Int64) (b1 : Int64) (s0 : Int64) (s1 : Int64) (t1 : Int32) (fg : Int64) (rk : Int32) (nc : Int64) (h0 : Heap) (n0 : Nat) (Z0 : n0 ≤ h0.size) (hCQ : own_CQ Z h0 a1 wA bA sA hA kw kb ks kh reach w0 w1 b0 b1 s0 s1 (1 : Int32) t1 fg rk (-1 : Int32) (1 : Int32)) (hNE : own_NE a1 wA bA sA hA) (hGE : own_GE n0 a1 wA bA sA hA) (m_w0 : own_Mg 8 w0) (m_w1 : own_Mg 8 w1) (m_b0 : own_Mg 8 b0) (m_b1 : own_Mg 8 b1) (m_nc : own_Mg 8 nc) (hc : (0 : Int64) < nc) :
    own_Met l Z own_y6 prog_47_method_7_code 4 none ws own_Rre11P h0 #[(.ref a1), (.double (FP.l2d nc))] (own_Qre11P Z a1 wA bA sA hA kw kb ks kh reach w0 w1 b0 b1 s0 s1 t1 fg rk nc h0 n0) own_Rre11P.cells own_Rre11P.slots := by
  refine own_start (plainFor_of_name own_pn0) ?_
  intro p e s m below meth c s₁ X0 hx hZ hby hml hret hlk hown hnm e0
  have hown : s.vm.findClass "com/example/allotrope/allotrope/procure/CoverQueue" = some m.cls := hown
  have hml : c.maxLocals = 4 := hml
  have N0 := Fr.nil n0
  refine own_cast (own_efre11P m a1 (FP.l2d nc)) ?_
  obtain ⟨ne_a1_wA, ne_a1_bA, ne_a1_sA, ne_a1_hA, ne_wA_bA, ne_wA_sA, ne_wA_hA, ne_bA_sA, ne_bA_hA, ne_sA_hA⟩ := id hNE
  obtain ⟨g_a1, g_wA, g_bA, g_sA, g_hA⟩ := id hGE
  obtain ⟨u1_0, u1_1, u1_2, u1_3, u1_4, u1_5, u1_6, u1_7, u1_8, u1_9, u1_10, u1_11, u1_12, u1_13⟩ := id hCQ
  refine own_s s₁ (mkF m 1 #[rv a1, .val (.double (FP.l2d nc)), v_, u_] [(.ref a1)]) (fun _ k => XS.aloadN X0.here hx rfl (hb hby own_dre11P_0) rfl rfl k) ?_
  obtain ⟨T2, X2, e2, st2⟩ := getF X0 hx hZ hown (host := "") (Or.inl (own_h hw 20 rfl)) Via.refl e0 u1_5 (g := (mkF m 1 #[rv a1, .val (.double (FP.l2d nc)), v_, u_] [(.ref a1)])) rfl rfl (hb hby own_dre11P_1)
  refine own_s T2 (mkF m 4 #[rv a1, .val (.double (FP.l2d nc)), v_, u_] [(.ref hA)]) st2 ?_
  refine own_s T2 (mkF m 5 #[rv a1, .val (.double (FP.l2d nc)), v_, u_] [(.int 0), (.ref hA)]) (fun _ k => XS.iconst X2.here hx rfl (hb hby own_dre11P_4) k) ?_
  obtain ⟨cl3, Ar3, q3, S3, Nn3, H3, G3⟩ := id u1_13
  have hin3 : ¬ ((0 : Int32) < 0 ∨ cl3.slots.size ≤ ((0 : Int32)).toNatClampNeg) := (inb_of S3 ⟨by decide, by decide⟩)
  refine own_s T2 (mkF m 8 #[rv a1, .val (.double (FP.l2d nc)), v_, iv 1] [(.ref a1)]) (fun _ k => X2.iaload hx (j := (0 : Int32)) (v := (.int 1)) (own_at e2 Ar3.1) (State.isArrayOf_alike hZ.alike Ar3.2.1) Ar3.2.2 hin3 (Has.at H3 hin3 rfl) (g := (mkF m 5 #[rv a1, .val (.double (FP.l2d nc)), v_, u_] [(.int 0), (.ref hA)])) rfl rfl (hb hby own_dre11P_5) _ (XS.istoreN X2.here hx rfl (hb hby own_dre11P_6) rfl (l' := #[rv a1, .val (.double (FP.l2d nc)), v_, iv 1]) rfl (XS.aloadN X2.here hx rfl (hb hby own_dre11P_7) rfl rfl k))) ?_
  obtain ⟨T4, X4, e4, st4⟩ := getF X2 hx hZ hown (host := "") (Or.inl (own_h hw 14 rfl)) Via.refl e2 u1_3 (g := (mkF m 8 #[rv a1, .val (.double (FP.l2d nc)), v_, iv 1] [(.ref a1)])) rfl rfl (hb hby own_dre11P_8)
  refine own_s T4 (mkF m 11 #[rv a1, .val (.double (FP.l2d nc)), v_, iv 1] [(.ref bA)]) st4 ?_
  refine own_s T4 (mkF m 13 #[rv a1, .val (.double (FP.l2d nc)), v_, iv 1] [(.double (FP.l2d nc)), (.int 1), (.ref bA)]) (fun _ k => XS.iloadN X4.here hx rfl (hb hby own_dre11P_11) rfl  (XS.dloadN X4.here hx rfl (hb hby own_dre11P_12) rfl  k)) ?_
  obtain ⟨cl5, Ar5, q5, S5, Nn5, H5, G5⟩ := id u1_11
  have hin5 : ¬ ((1 : Int32) < 0 ∨ cl5.slots.size ≤ ((1 : Int32)).toNatClampNeg) := (inb_of S5 ⟨by decide, by decide⟩)
  obtain ⟨T5, h5, X5, e5, W5, st5⟩ := stD X4 hx hZ e4 Ar5 (j := (1 : Int32)) hin5 (g := (mkF m 13 #[rv a1, .val (.double (FP.l2d nc)), v_, iv 1] [(.double (FP.l2d nc)), (.int 1), (.ref bA)])) rfl rfl (hb hby own_dre11P_13)
  have f5 : Arv Z h5 bA kb .double (2 : Int32) [(.double (FP.l2d b0)), (.double (FP.l2d nc))] (.double (FP.l2d 0)) := Arv.set Ar5 q5 S5 Nn5 H5 G5 rfl W5 1 rfl (Nat.le_of_ble_eq_true rfl)
  have f6 := Exa.wr W5 u1_0
  have f7 := Fld.other W5 u1_1 (Or.inl ne_a1_bA)
  have f8 := Fld.other W5 u1_2 (Or.inl ne_a1_bA)
  have f9 := Fld.other W5 u1_3 (Or.inl ne_a1_bA)
  have f10 := Fld.other W5 u1_4 (Or.inl ne_a1_bA)
  have f11 := Fld.other W5 u1_5 (Or.inl ne_a1_bA)
  have f12 := Fld.other W5 u1_6 (Or.inl ne_a1_bA)
  have f13 := Fld.other W5 u1_7 (Or.inl ne_a1_bA)
  have f14 := Fld.other W5 u1_8 (Or.inl ne_a1_bA)
  have f15 := Fld.other W5 u1_9 (Or.inl ne_a1_bA)
  have f16 := u1_10.other W5 ne_wA_bA
  have f17 := u1_12.other W5 (Ne.symm ne_bA_sA)
  have f18 := u1_13.other W5 (Ne.symm ne_bA_hA)
  have K5 : Keep h0 h5 [a1, wA, bA, sA, hA] := (Keep.refl h0 [a1, wA, bA, sA, hA]).wr W5 (Or.inl (List.mem_of_getElem? (i := 2) rfl))
  have Z5 := Nat.le_trans Z0 (Nat.le_of_eq W5.size.symm)
  have N5 := Fr.snoc X5 N0 g_bA
  refine own_s T5 (mkF m 14 #[rv a1, .val (.double (FP.l2d nc)), v_, iv 1] []) st5 ?_
  refine own_s T5 (mkF m 15 #[rv a1, .val (.double (FP.l2d nc)), v_, iv 1] [(.ref a1)]) (fun _ k => XS.aloadN X5.here hx rfl (hb hby own_dre11P_14) rfl rfl k) ?_
  obtain ⟨T19, X19, e19, st19⟩ := getF X5 hx hZ hown (host := "") (Or.inl (own_h hw 17 rfl)) Via.refl e5 f10 (g := (mkF m 15 #[rv a1, .val (.double (FP.l2d nc)), v_, iv 1] [(.ref a1)])) rfl rfl (hb hby own_dre11P_15)
  refine own_s T19 (mkF m 18 #[rv a1, .val (.double (FP.l2d nc)), v_, iv 1] [(.ref sA)]) st19 ?_
  refine own_s T19 (mkF m 20 #[rv a1, .val (.double (FP.l2d nc)), v_, iv 1] [(.ref a1), (.int 1), (.ref sA)]) (fun _ k => XS.iloadN X19.here hx rfl (hb hby own_dre11P_18) rfl  (XS.aloadN X19.here hx rfl (hb hby own_dre11P_19) rfl rfl k)) ?_
  obtain ⟨T20, X20, e20, st20⟩ := getF X19 hx hZ hown (host := "") (Or.inl (own_h hw 32 rfl)) Via.refl e19 f12 (g := (mkF m 20 #[rv a1, .val (.double (FP.l2d nc)), v_, iv 1] [(.ref a1), (.int 1), (.ref sA)])) rfl rfl (hb hby own_dre11P_20)
  refine own_s T20 (mkF m 23 #[rv a1, .val (.double (FP.l2d nc)), v_, iv 1] [(.long fg), (.int 1), (.ref sA)]) st20 ?_
  obtain ⟨cl21, Ar21, q21, S21, Nn21, H21, G21⟩ := id f17
  have hin21 : ¬ ((1 : Int32) < 0 ∨ cl21.slots.size ≤ ((1 : Int32)).toNatClampNeg) := (inb_of S21 ⟨by decide, by decide⟩)
  obtain ⟨T21, h21, X21, e21, W21, st21⟩ := stJ X20 hx hZ e20 Ar21 (j := (1 : Int32)) hin21 (g := (mkF m 23 #[rv a1, .val (.double (FP.l2d nc)), v_, iv 1] [(.long fg), (.int 1), (.ref sA)])) rfl rfl (hb hby own_dre11P_23)
  have f21 : Arv Z h21 sA ks .long (2 : Int32) [(.long s0), (.long fg)] (.long 0) := Arv.set Ar21 q21 S21 Nn21 H21 G21 rfl W21 1 rfl (Nat.le_of_ble_eq_true rfl)
  have f22 := Exa.wr W21 f6
  have f23 := Fld.other W21 f7 (Or.inl ne_a1_sA)
  have f24 := Fld.other W21 f8 (Or.inl ne_a1_sA)
  have f25 := Fld.other W21 f9 (Or.inl ne_a1_sA)
  have f26 := Fld.other W21 f10 (Or.inl ne_a1_sA)
  have f27 := Fld.other W21 f11 (Or.inl ne_a1_sA)
  have f28 := Fld.other W21 f12 (Or.inl ne_a1_sA)
  have f29 := Fld.other W21 f13 (Or.inl ne_a1_sA)
  have f30 := Fld.other W21 f14 (Or.inl ne_a1_sA)
  have f31 := Fld.other W21 f15 (Or.inl ne_a1_sA)
  have f32 := f16.other W21 ne_wA_sA
  have f33 := f5.other W21 ne_bA_sA
  have f34 := f18.other W21 (Ne.symm ne_sA_hA)
  have K21 : Keep h0 h21 [a1, wA, bA, sA, hA] := K5.wr W21 (Or.inl (List.mem_of_getElem? (i := 3) rfl))
  have Z21 := Nat.le_trans Z5 (Nat.le_of_eq W21.size.symm)
  have N21 := Fr.snoc X21 N5 g_sA
  refine own_s T21 (mkF m 24 #[rv a1, .val (.double (FP.l2d nc)), v_, iv 1] []) st21 ?_
  refine own_s T21 (mkF m 26 #[rv a1, .val (.double (FP.l2d nc)), v_, iv 1] [(.ref a1), (.ref a1)]) (fun _ k => XS.aloadN X21.here hx rfl (hb hby own_dre11P_24) rfl rfl (XS.dup X21.here hx rfl (hb hby own_dre11P_25) rfl rfl k)) ?_
  obtain ⟨T35, X35, e35, st35⟩ := getF X21 hx hZ hown (host := "") (Or.inl (own_h hw 34 rfl)) Via.refl e21 f29 (g := (mkF m 26 #[rv a1, .val (.double (FP.l2d nc)), v_, iv 1] [(.ref a1), (.ref a1)])) rfl rfl (hb hby own_dre11P_26)
  refine own_s T35 (mkF m 29 #[rv a1, .val (.double (FP.l2d nc)), v_, iv 1] [(.int rk), (.ref a1)]) st35 ?_
  refine own_s T35 (mkF m 31 #[rv a1, .val (.double (FP.l2d nc)), v_, iv 1] [(.int (rk + (1 : Int32))), (.ref a1)]) (fun _ k => XS.iconst X35.here hx rfl (hb hby own_dre11P_29) (XS.iadd X35.here hx rfl (hb hby own_dre11P_30) rfl k)) ?_
  obtain ⟨T36, h36, X36, e36, W36, st36⟩ := putF X35 hx hZ hown (host := "") (Or.inl (own_h hw 34 rfl)) Via.refl e35 f29 f22 (Or.inl (own_h hw 35 rfl)) (own_h hw 1 rfl) (ty := .int) (by decide) rfl rfl (g := (mkF m 31 #[rv a1, .val (.double (FP.l2d nc)), v_, iv 1] [(.int (rk + (1 : Int32))), (.ref a1)])) rfl rfl (hb hby own_dre11P_31)
  have Fw36 := Fld.same W36 f29
  have f37 := Exa.wr W36 f22
  have f38 := Fld.other W36 f23 (Or.inr (slot_ne (Or.inr (own_h hw 10 rfl)) (Or.inl (own_h hw 35 rfl)) (by decide) (t := .int) (t' := .int) (by decide) (by decide)))
  have f39 := Fld.other W36 f24 (Or.inr (slot_ne (Or.inr (own_h hw 13 rfl)) (Or.inl (own_h hw 35 rfl)) (by decide) (t := (.array .double)) (t' := .int) (by decide) (by decide)))
  have f40 := Fld.other W36 f25 (Or.inr (slot_ne (Or.inr (own_h hw 15 rfl)) (Or.inl (own_h hw 35 rfl)) (by decide) (t := (.array .double)) (t' := .int) (by decide) (by decide)))
  have f41 := Fld.other W36 f26 (Or.inr (slot_ne (Or.inr (own_h hw 18 rfl)) (Or.inl (own_h hw 35 rfl)) (by decide) (t := (.array .long)) (t' := .int) (by decide) (by decide)))
  have f42 := Fld.other W36 f27 (Or.inr (slot_ne (Or.inr (own_h hw 21 rfl)) (Or.inl (own_h hw 35 rfl)) (by decide) (t := (.array .int)) (t' := .int) (by decide) (by decide)))
  have f43 := Fld.other W36 f28 (Or.inr (slot_ne (Or.inl (own_h hw 33 rfl)) (Or.inl (own_h hw 35 rfl)) (by decide) (t := .long) (t' := .int) (by decide) (by decide)))
  have f44 := Fld.other W36 f30 (Or.inr (slot_ne (Or.inl (own_h hw 37 rfl)) (Or.inl (own_h hw 35 rfl)) (by decide) (t := .int) (t' := .int) (by decide) (by decide)))
  have f45 := Fld.other W36 f31 (Or.inr (slot_ne (Or.inl (own_h hw 39 rfl)) (Or.inl (own_h hw 35 rfl)) (by decide) (t := .int) (t' := .int) (by decide) (by decide)))
  have f46 := f32.other W36 (Ne.symm ne_a1_wA)
  have f47 := f33.other W36 (Ne.symm ne_a1_bA)
  have f48 := f21.other W36 (Ne.symm ne_a1_sA)
  have f49 := f34.other W36 (Ne.symm ne_a1_hA)
  have K36 : Keep h0 h36 [a1, wA, bA, sA, hA] := K21.wr W36 (Or.inl (List.mem_of_getElem? (i := 0) rfl))
  have Z36 := Nat.le_trans Z21 (Nat.le_of_eq W36.size.symm)
  have N36 := Fr.snoc X36 N21 g_a1
  refine own_s T36 (mkF m 34 #[rv a1, .val (.double (FP.l2d nc)), v_, iv 1] []) st36 ?_
  refine own_s T36 (mkF m 35 #[rv a1, .val (.double (FP.l2d nc)), v_, iv 1] [(.double (FP.l2d nc))]) (fun _ k => XS.dloadN X36.here hx rfl (hb hby own_dre11P_34) rfl  k) ?_
  have mg50 := own_mgLit (0 : Int64) (K := 0) rfl rfl
  refine own_s T36 (mkF m 41 #[rv a1, .val (.double (FP.l2d nc)), v_, iv 1] [(.ref a1)]) (fun _ k => XS.dconst0 X36.here hx rfl (hb hby own_dre11P_35) own_dc0 (XS.dcmpS X36.here hx rfl (hb hby own_dre11P_36) rfl (dcmpV_w (own_mgB m_nc (by decide)) (own_mgB mg50 (by decide)) _) (XS.ifNo X36.here hx rfl (hb hby own_dre11P_37) rfl ((if0 _ _).trans (tlt (own_lcgt hc)).2.2.2) (XS.aloadN X36.here hx rfl (hb hby own_dre11P_40) rfl rfl k)))) ?_
  obtain ⟨T51, X51, e51, st51⟩ := getF X36 hx hZ hown (host := "") (Or.inl (own_h hw 36 rfl)) Via.refl e36 f44 (g := (mkF m 41 #[rv a1, .val (.double (FP.l2d nc)), v_, iv 1] [(.ref a1)])) rfl rfl (hb hby own_dre11P_41)
  refine own_s T51 (mkF m 44 #[rv a1, .val (.double (FP.l2d nc)), v_, iv 1] [(.int (-1))]) st51 ?_
  refine own_s T51 (mkF m 61 #[rv a1, .val (.double (FP.l2d nc)), v_, iv 1] [(.int 1), (.ref a1)]) (fun _ k => XS.ifYes X51.here hx rfl (pc0 := 44) (pc' := 59) rfl (hb hby own_dre11P_44) rfl ((if0 _ _).trans (tlt (by decide : ((-1 : Int32) < (0 : Int32)))).1) (by decide) (by decide) (XS.aloadN X51.here hx rfl (hb hby own_dre11P_59) rfl rfl (XS.iloadN X51.here hx rfl (hb hby own_dre11P_60) rfl  k))) ?_
  obtain ⟨T52, h52, X52, e52, W52, st52⟩ := putF X51 hx hZ hown (host := "") (Or.inl (own_h hw 36 rfl)) Via.refl e51 f44 f37 (Or.inl (own_h hw 37 rfl)) (own_h hw 1 rfl) (ty := .int) (by decide) rfl rfl (g := (mkF m 61 #[rv a1, .val (.double (FP.l2d nc)), v_, iv 1] [(.int 1), (.ref a1)])) rfl rfl (hb hby own_dre11P_61)
  have Fw52 := Fld.same W52 f44
  have f53 := Exa.wr W52 f37
  have f54 := Fld.other W52 f38 (Or.inr (slot_ne (Or.inr (own_h hw 10 rfl)) (Or.inl (own_h hw 37 rfl)) (by decide) (t := .int) (t' := .int) (by decide) (by decide)))
  have f55 := Fld.other W52 f39 (Or.inr (slot_ne (Or.inr (own_h hw 13 rfl)) (Or.inl (own_h hw 37 rfl)) (by decide) (t := (.array .double)) (t' := .int) (by decide) (by decide)))
  have f56 := Fld.other W52 f40 (Or.inr (slot_ne (Or.inr (own_h hw 15 rfl)) (Or.inl (own_h hw 37 rfl)) (by decide) (t := (.array .double)) (t' := .int) (by decide) (by decide)))
  have f57 := Fld.other W52 f41 (Or.inr (slot_ne (Or.inr (own_h hw 18 rfl)) (Or.inl (own_h hw 37 rfl)) (by decide) (t := (.array .long)) (t' := .int) (by decide) (by decide)))
  have f58 := Fld.other W52 f42 (Or.inr (slot_ne (Or.inr (own_h hw 21 rfl)) (Or.inl (own_h hw 37 rfl)) (by decide) (t := (.array .int)) (t' := .int) (by decide) (by decide)))
  have f59 := Fld.other W52 f43 (Or.inr (slot_ne (Or.inl (own_h hw 33 rfl)) (Or.inl (own_h hw 37 rfl)) (by decide) (t := .long) (t' := .int) (by decide) (by decide)))
  have f60 := Fld.other W52 Fw36 (Or.inr (slot_ne (Or.inl (own_h hw 35 rfl)) (Or.inl (own_h hw 37 rfl)) (by decide) (t := .int) (t' := .int) (by decide) (by decide)))
  have f61 := Fld.other W52 f45 (Or.inr (slot_ne (Or.inl (own_h hw 39 rfl)) (Or.inl (own_h hw 37 rfl)) (by decide) (t := .int) (t' := .int) (by decide) (by decide)))
  have f62 := f46.other W52 (Ne.symm ne_a1_wA)
  have f63 := f47.other W52 (Ne.symm ne_a1_bA)
  have f64 := f48.other W52 (Ne.symm ne_a1_sA)
  have f65 := f49.other W52 (Ne.symm ne_a1_hA)
  have K52 : Keep h0 h52 [a1, wA, bA, sA, hA] := K36.wr W52 (Or.inl (List.mem_of_getElem? (i := 0) rfl))
  have Z52 := Nat.le_trans Z36 (Nat.le_of_eq W52.size.symm)
  have N52 := Fr.snoc X52 N36 g_a1
  refine own_s T52 (mkF m 64 #[rv a1, .val (.double (FP.l2d nc)), v_, iv 1] []) st52 ?_
  refine own_s T52 (mkF m 65 #[rv a1, .val (.double (FP.l2d nc)), v_, iv 1] [(.double (FP.l2d nc))]) (fun _ k => XS.dloadN X52.here hx rfl (hb hby own_dre11P_64) rfl  k) ?_
  have mg66 := own_mgLit (0 : Int64) (K := 0) rfl rfl
  refine own_s T52 (mkF m 94 #[rv a1, .val (.double (FP.l2d nc)), v_, iv 1] [(.int 0), (.ref a1)]) (fun _ k => XS.dconst0 X52.here hx rfl (hb hby own_dre11P_65) own_dc0 (XS.dcmpS X52.here hx rfl (hb hby own_dre11P_66) rfl (dcmpV_w (own_mgB m_nc (by decide)) (own_mgB mg66 (by decide)) _) (XS.ifYes X52.here hx rfl (pc0 := 67) (pc' := 92) rfl (hb hby own_dre11P_67) rfl ((if0 _ _).trans (tlt (own_lcgt hc)).2.2.1) (by decide) (by decide) (XS.aloadN X52.here hx rfl (hb hby own_dre11P_92) rfl rfl (XS.iconst X52.here hx rfl (hb hby own_dre11P_93) k))))) ?_
  obtain ⟨v67, T67, L67, X67, hQ67, st67⟩ := own_callP X52 hx hZ (y := own_y2) (W := 0) (a := a1) hown (own_h hw 64 rfl) (own_h hw 65 rfl) (own_h hw 1 rfl) (own_h hw 66 rfl) (own_h hw 2 rfl) (own_h hw 67 rfl) (by decide) (own_rms1 l Z a0 hw [] a1 wA bA sA hA kw kb ks kh reach w0 w1 b0 nc s0 fg (1 : Int32) t1 fg (rk + (1 : Int32)) (1 : Int32) h52 n0 Z52 ⟨f53, f54, f55, f56, f57, f58, f59, f60, Fw52, f61, f62, f63, f64, f65⟩ hNE hGE m_w0 m_w1 m_b0 m_nc) (by decide) (by decide) f53 (g := (mkF m 94 #[rv a1, .val (.double (FP.l2d nc)), v_, iv 1] [(.int 0), (.ref a1)])) rfl (by rw [hml]; rfl) (argsL := [(.int 0)]) (rest := []) rfl (lenOf own_pd2 rfl) rfl (by show 2 * 0 + _ ≤ _; exact Nat.le_of_eq rfl) (hb hby own_dre11P_94) e52 (by decide) (by decide)
  obtain ⟨rfl, Nq67, Kq67, hq67⟩ := hQ67
  have N67 := Fr.app N52 Nq67
  have K67 : Keep h0 T67.heap [a1, wA, bA, sA, hA] := K52.trans Kq67 (allS (Or.inl (List.mem_of_getElem? (i := 0) rfl)) (allS (Or.inl (List.mem_of_getElem? (i := 1) rfl)) (allS (Or.inl (List.mem_of_getElem? (i := 2) rfl)) (allS (Or.inl (List.mem_of_getElem? (i := 3) rfl)) (allS (Or.inl (List.mem_of_getElem? (i := 4) rfl)) all0)))))
  have Z67 := Nat.le_trans Z52 Kq67.1
  obtain ⟨u68_0, u68_1, u68_2, u68_3, u68_4, u68_5, u68_6, u68_7, u68_8, u68_9, u68_10, u68_11, u68_12, u68_13⟩ := id hq67
  refine own_s T67 (mkF m 97 #[rv a1, .val (.double (FP.l2d nc)), v_, iv 1] []) st67 ?_
  exact own_finV X67 hx hret (hb hby own_dre11P_97) (own_end (Qv := (own_Qre11P Z a1 wA bA sA hA kw kb ks kh reach w0 w1 b0 b1 s0 s1 t1 fg rk nc h0 n0)) X67 (fun _ => rfl) hlk (by decide) (by decide) rfl ⟨rfl, N67, K67, ⟨u68_0, u68_1, u68_2, u68_3, u68_4, u68_5, u68_6, u68_7, u68_8, u68_9, u68_10, u68_11, u68_12, u68_13⟩⟩)
theorem own_dre11N_0 : decode prog_47_method_7_code 0 = .ok (.aload_n 0, 1) := by decide +kernel
theorem own_dre11N_1 : decode prog_47_method_7_code 1 = .ok (.getfield 24, 3) := by decide +kernel
theorem own_dre11N_4 : decode prog_47_method_7_code 4 = .ok (.iconst 0, 1) := by decide +kernel
theorem own_dre11N_5 : decode prog_47_method_7_code 5 = .ok (.iaload, 1) := by decide +kernel
theorem own_dre11N_6 : decode prog_47_method_7_code 6 = .ok (.istore_n 3, 1) := by decide +kernel
theorem own_dre11N_7 : decode prog_47_method_7_code 7 = .ok (.aload_n 0, 1) := by decide +kernel
theorem own_dre11N_8 : decode prog_47_method_7_code 8 = .ok (.getfield 17, 3) := by decide +kernel
theorem own_dre11N_11 : decode prog_47_method_7_code 11 = .ok (.iload_n 3, 1) := by decide +kernel
theorem own_dre11N_12 : decode prog_47_method_7_code 12 = .ok (.dload_n 1, 1) := by decide +kernel
theorem own_dre11N_13 : decode prog_47_method_7_code 13 = .ok (.dastore, 1) := by decide +kernel
theorem own_dre11N_14 : decode prog_47_method_7_code 14 = .ok (.aload_n 0, 1) := by decide +kernel
theorem own_dre11N_15 : decode prog_47_method_7_code 15 = .ok (.getfield 20, 3) := by decide +kernel
theorem own_dre11N_18 : decode prog_47_method_7_code 18 = .ok (.iload_n 3, 1) := by decide +kernel
theorem own_dre11N_19 : decode prog_47_method_7_code 19 = .ok (.aload_n 0, 1) := by decide +kernel
theorem own_dre11N_20 : decode prog_47_method_7_code 20 = .ok (.getfield 34, 3) := by decide +kernel
theorem own_dre11N_23 : decode prog_47_method_7_code 23 = .ok (.lastore, 1) := by decide +kernel
theorem own_dre11N_24 : decode prog_47_method_7_code 24 = .ok (.aload_n 0, 1) := by decide +kernel
theorem own_dre11N_25 : decode prog_47_method_7_code 25 = .ok (.dup, 1) := by decide +kernel
theorem own_dre11N_26 : decode prog_47_method_7_code 26 = .ok (.getfield 42, 3) := by decide +kernel
theorem own_dre11N_29 : decode prog_47_method_7_code 29 = .ok (.iconst 1, 1) := by decide +kernel
theorem own_dre11N_30 : decode prog_47_method_7_code 30 = .ok (.iadd, 1) := by decide +kernel
theorem own_dre11N_31 : decode prog_47_method_7_code 31 = .ok (.putfield 42, 3) := by decide +kernel
theorem own_dre11N_34 : decode prog_47_method_7_code 34 = .ok (.dload_n 1, 1) := by decide +kernel
theorem own_dre11N_35 : decode prog_47_method_7_code 35 = .ok (.dconst 0, 1) := by decide +kernel
theorem own_dre11N_36 : decode prog_47_method_7_code 36 = .ok (.dcmp .l, 1) := by decide +kernel
theorem own_dre11N_37 : decode prog_47_method_7_code 37 = .ok (.ifCond .le 27, 3) := by decide +kernel
theorem own_dre11N_64 : decode prog_47_method_7_code 64 = .ok (.dload_n 1, 1) := by decide +kernel
theorem own_dre11N_65 : decode prog_47_method_7_code 65 = .ok (.dconst 0, 1) := by decide +kernel
theorem own_dre11N_66 : decode prog_47_method_7_code 66 = .ok (.dcmp .g, 1) := by decide +kernel
theorem own_dre11N_67 : decode prog_47_method_7_code 67 = .ok (.ifCond .gt 25, 3) := by decide +kernel
theorem own_dre11N_70 : decode prog_47_method_7_code 70 = .ok (.aload_n 0, 1) := by decide +kernel
theorem own_dre11N_71 : decode prog_47_method_7_code 71 = .ok (.getfield 24, 3) := by decide +kernel
theorem own_dre11N_74 : decode prog_47_method_7_code 74 = .ok (.iconst 0, 1) := by decide +kernel
theorem own_dre11N_75 : decode prog_47_method_7_code 75 = .ok (.aload_n 0, 1) := by decide +kernel
theorem own_dre11N_76 : decode prog_47_method_7_code 76 = .ok (.getfield 24, 3) := by decide +kernel
theorem own_dre11N_79 : decode prog_47_method_7_code 79 = .ok (.aload_n 0, 1) := by decide +kernel
theorem own_dre11N_80 : decode prog_47_method_7_code 80 = .ok (.dup, 1) := by decide +kernel
theorem own_dre11N_81 : decode prog_47_method_7_code 81 = .ok (.getfield 31, 3) := by decide +kernel
theorem own_dre11N_84 : decode prog_47_method_7_code 84 = .ok (.iconst 1, 1) := by decide +kernel
theorem own_dre11N_85 : decode prog_47_method_7_code 85 = .ok (.isub, 1) := by decide +kernel
theorem own_dre11N_86 : decode prog_47_method_7_code 86 = .ok (.dup_x1, 1) := by decide +kernel
theorem own_dre11N_87 : decode prog_47_method_7_code 87 = .ok (.putfield 31, 3) := by decide +kernel
theorem own_dre11N_90 : decode prog_47_method_7_code 90 = .ok (.iaload, 1) := by decide +kernel
theorem own_dre11N_91 : decode prog_47_method_7_code 91 = .ok (.iastore, 1) := by decide +kernel
theorem own_dre11N_92 : decode prog_47_method_7_code 92 = .ok (.aload_n 0, 1) := by decide +kernel
theorem own_dre11N_93 : decode prog_47_method_7_code 93 = .ok (.iconst 0, 1) := by decide +kernel
theorem own_dre11N_94 : decode prog_47_method_7_code 94 = .ok (.invokevirtual 52, 3) := by decide +kernel
theorem own_dre11N_97 : decode prog_47_method_7_code 97 = .ok (.return_, 1) := by decide +kernel
theorem own_efre11N (m : MethodId) (x0 : Addr) (x1 : UInt64) : entryFrame m #[(.ref x0), (.double x1)] 4 = mkF m 0 #[rv x0, .val (.double x1), v_, u_] [] := by first | (simp [entryFrame, mkF, argsToLocals, Value.category]; done) | rfl
def own_Qre11N (Z : State) (a1 : Addr) (wA bA sA hA : Addr) (kw kb ks kh : ClassId) (reach : Int32) (w0 : Int64) (w1 : Int64) (b0 : Int64) (b1 : Int64) (s0 : Int64) (s1 : Int64) (t1 : Int32) (fg : Int64) (rk : Int32) (nc : Int64) (h0 : Heap) (n0 : Nat) : Option Value → Heap → List Loc → Prop := fun v h L => v = none ∧ Fr n0 L ∧ Keep h0 h [a1, wA, bA, sA, hA] ∧ own_CQ Z h a1 wA bA sA hA kw kb ks kh reach w0 w1 b0 nc s0 fg (1 : Int32) t1 fg (rk + (1 : Int32)) (-1 : Int32) (0 : Int32)
def own_Rre11N : Room := { frames := 1, cells := 0, slots := 0, locals := 18 }
set_option maxRecDepth 65536 in
set_option maxHeartbeats 40000000 in
theorem own_rmre11N (l : Launch) (Z : State) (a0 : Array Value) (hw : ∀ d ∈ tables_1, d.before a0 Z = true) (ws : List Jvm.Cond) (a1 : Addr) (wA bA sA hA : Addr) (kw kb ks kh : ClassId) (reach : Int32) (w0 : Int64) (w1 : Int64) (b0 : Int64) (b1 : Int64) (s0 : Int64) (s1 : Int64) (t1 : Int32) (fg : Int64) (rk : Int32) (nc : Int64) (h0 : Heap) (n0 : Nat) (Z0 : n0 ≤ h0.size) (hCQ : own_CQ Z h0 a1 wA bA sA hA kw kb ks kh reach w0 w1 b0 b1 s0 s1 (1 : Int32) t1 fg rk (-1 : Int32) (1 : Int32)) (hNE : own_NE a1 wA bA sA hA) (hGE : own_GE n0 a1 wA bA sA hA) (m_w0 : own_Mg 8 w0) (m_w1 : own_Mg 8 w1) (m_b0 : own_Mg 8 b0) (m_b1 : own_Mg 8 b1) (m_nc : own_Mg 8 nc) (hc : ¬ (0 : Int64) < nc) :
    own_Met l Z own_y6 prog_47_method_7_code 4 none ws own_Rre11N h0 #[(.ref a1), (.double (FP.l2d nc))] (own_Qre11N Z a1 wA bA sA hA kw kb ks kh reach w0 w1 b0 b1 s0 s1 t1 fg rk nc h0 n0) own_Rre11N.cells own_Rre11N.slots := by
  refine own_start (plainFor_of_name own_pn0) ?_
  intro p e s m below meth c s₁ X0 hx hZ hby hml hret hlk hown hnm e0
  have hown : s.vm.findClass "com/example/allotrope/allotrope/procure/CoverQueue" = some m.cls := hown
  have hml : c.maxLocals = 4 := hml
  have N0 := Fr.nil n0
  refine own_cast (own_efre11N m a1 (FP.l2d nc)) ?_
  obtain ⟨ne_a1_wA, ne_a1_bA, ne_a1_sA, ne_a1_hA, ne_wA_bA, ne_wA_sA, ne_wA_hA, ne_bA_sA, ne_bA_hA, ne_sA_hA⟩ := id hNE
  obtain ⟨g_a1, g_wA, g_bA, g_sA, g_hA⟩ := id hGE
  obtain ⟨u1_0, u1_1, u1_2, u1_3, u1_4, u1_5, u1_6, u1_7, u1_8, u1_9, u1_10, u1_11, u1_12, u1_13⟩ := id hCQ
  refine own_s s₁ (mkF m 1 #[rv a1, .val (.double (FP.l2d nc)), v_, u_] [(.ref a1)]) (fun _ k => XS.aloadN X0.here hx rfl (hb hby own_dre11N_0) rfl rfl k) ?_
  obtain ⟨T2, X2, e2, st2⟩ := getF X0 hx hZ hown (host := "") (Or.inl (own_h hw 20 rfl)) Via.refl e0 u1_5 (g := (mkF m 1 #[rv a1, .val (.double (FP.l2d nc)), v_, u_] [(.ref a1)])) rfl rfl (hb hby own_dre11N_1)
  refine own_s T2 (mkF m 4 #[rv a1, .val (.double (FP.l2d nc)), v_, u_] [(.ref hA)]) st2 ?_
  refine own_s T2 (mkF m 5 #[rv a1, .val (.double (FP.l2d nc)), v_, u_] [(.int 0), (.ref hA)]) (fun _ k => XS.iconst X2.here hx rfl (hb hby own_dre11N_4) k) ?_
  obtain ⟨cl3, Ar3, q3, S3, Nn3, H3, G3⟩ := id u1_13
  have hin3 : ¬ ((0 : Int32) < 0 ∨ cl3.slots.size ≤ ((0 : Int32)).toNatClampNeg) := (inb_of S3 ⟨by decide, by decide⟩)
  refine own_s T2 (mkF m 8 #[rv a1, .val (.double (FP.l2d nc)), v_, iv 1] [(.ref a1)]) (fun _ k => X2.iaload hx (j := (0 : Int32)) (v := (.int 1)) (own_at e2 Ar3.1) (State.isArrayOf_alike hZ.alike Ar3.2.1) Ar3.2.2 hin3 (Has.at H3 hin3 rfl) (g := (mkF m 5 #[rv a1, .val (.double (FP.l2d nc)), v_, u_] [(.int 0), (.ref hA)])) rfl rfl (hb hby own_dre11N_5) _ (XS.istoreN X2.here hx rfl (hb hby own_dre11N_6) rfl (l' := #[rv a1, .val (.double (FP.l2d nc)), v_, iv 1]) rfl (XS.aloadN X2.here hx rfl (hb hby own_dre11N_7) rfl rfl k))) ?_
  obtain ⟨T4, X4, e4, st4⟩ := getF X2 hx hZ hown (host := "") (Or.inl (own_h hw 14 rfl)) Via.refl e2 u1_3 (g := (mkF m 8 #[rv a1, .val (.double (FP.l2d nc)), v_, iv 1] [(.ref a1)])) rfl rfl (hb hby own_dre11N_8)
  refine own_s T4 (mkF m 11 #[rv a1, .val (.double (FP.l2d nc)), v_, iv 1] [(.ref bA)]) st4 ?_
  refine own_s T4 (mkF m 13 #[rv a1, .val (.double (FP.l2d nc)), v_, iv 1] [(.double (FP.l2d nc)), (.int 1), (.ref bA)]) (fun _ k => XS.iloadN X4.here hx rfl (hb hby own_dre11N_11) rfl  (XS.dloadN X4.here hx rfl (hb hby own_dre11N_12) rfl  k)) ?_
  obtain ⟨cl5, Ar5, q5, S5, Nn5, H5, G5⟩ := id u1_11
  have hin5 : ¬ ((1 : Int32) < 0 ∨ cl5.slots.size ≤ ((1 : Int32)).toNatClampNeg) := (inb_of S5 ⟨by decide, by decide⟩)
  obtain ⟨T5, h5, X5, e5, W5, st5⟩ := stD X4 hx hZ e4 Ar5 (j := (1 : Int32)) hin5 (g := (mkF m 13 #[rv a1, .val (.double (FP.l2d nc)), v_, iv 1] [(.double (FP.l2d nc)), (.int 1), (.ref bA)])) rfl rfl (hb hby own_dre11N_13)
  have f5 : Arv Z h5 bA kb .double (2 : Int32) [(.double (FP.l2d b0)), (.double (FP.l2d nc))] (.double (FP.l2d 0)) := Arv.set Ar5 q5 S5 Nn5 H5 G5 rfl W5 1 rfl (Nat.le_of_ble_eq_true rfl)
  have f6 := Exa.wr W5 u1_0
  have f7 := Fld.other W5 u1_1 (Or.inl ne_a1_bA)
  have f8 := Fld.other W5 u1_2 (Or.inl ne_a1_bA)
  have f9 := Fld.other W5 u1_3 (Or.inl ne_a1_bA)
  have f10 := Fld.other W5 u1_4 (Or.inl ne_a1_bA)
  have f11 := Fld.other W5 u1_5 (Or.inl ne_a1_bA)
  have f12 := Fld.other W5 u1_6 (Or.inl ne_a1_bA)
  have f13 := Fld.other W5 u1_7 (Or.inl ne_a1_bA)
  have f14 := Fld.other W5 u1_8 (Or.inl ne_a1_bA)
  have f15 := Fld.other W5 u1_9 (Or.inl ne_a1_bA)
  have f16 := u1_10.other W5 ne_wA_bA
  have f17 := u1_12.other W5 (Ne.symm ne_bA_sA)
  have f18 := u1_13.other W5 (Ne.symm ne_bA_hA)
  have K5 : Keep h0 h5 [a1, wA, bA, sA, hA] := (Keep.refl h0 [a1, wA, bA, sA, hA]).wr W5 (Or.inl (List.mem_of_getElem? (i := 2) rfl))
  have Z5 := Nat.le_trans Z0 (Nat.le_of_eq W5.size.symm)
  have N5 := Fr.snoc X5 N0 g_bA
  refine own_s T5 (mkF m 14 #[rv a1, .val (.double (FP.l2d nc)), v_, iv 1] []) st5 ?_
  refine own_s T5 (mkF m 15 #[rv a1, .val (.double (FP.l2d nc)), v_, iv 1] [(.ref a1)]) (fun _ k => XS.aloadN X5.here hx rfl (hb hby own_dre11N_14) rfl rfl k) ?_
  obtain ⟨T19, X19, e19, st19⟩ := getF X5 hx hZ hown (host := "") (Or.inl (own_h hw 17 rfl)) Via.refl e5 f10 (g := (mkF m 15 #[rv a1, .val (.double (FP.l2d nc)), v_, iv 1] [(.ref a1)])) rfl rfl (hb hby own_dre11N_15)
  refine own_s T19 (mkF m 18 #[rv a1, .val (.double (FP.l2d nc)), v_, iv 1] [(.ref sA)]) st19 ?_
  refine own_s T19 (mkF m 20 #[rv a1, .val (.double (FP.l2d nc)), v_, iv 1] [(.ref a1), (.int 1), (.ref sA)]) (fun _ k => XS.iloadN X19.here hx rfl (hb hby own_dre11N_18) rfl  (XS.aloadN X19.here hx rfl (hb hby own_dre11N_19) rfl rfl k)) ?_
  obtain ⟨T20, X20, e20, st20⟩ := getF X19 hx hZ hown (host := "") (Or.inl (own_h hw 32 rfl)) Via.refl e19 f12 (g := (mkF m 20 #[rv a1, .val (.double (FP.l2d nc)), v_, iv 1] [(.ref a1), (.int 1), (.ref sA)])) rfl rfl (hb hby own_dre11N_20)
  refine own_s T20 (mkF m 23 #[rv a1, .val (.double (FP.l2d nc)), v_, iv 1] [(.long fg), (.int 1), (.ref sA)]) st20 ?_
  obtain ⟨cl21, Ar21, q21, S21, Nn21, H21, G21⟩ := id f17
  have hin21 : ¬ ((1 : Int32) < 0 ∨ cl21.slots.size ≤ ((1 : Int32)).toNatClampNeg) := (inb_of S21 ⟨by decide, by decide⟩)
  obtain ⟨T21, h21, X21, e21, W21, st21⟩ := stJ X20 hx hZ e20 Ar21 (j := (1 : Int32)) hin21 (g := (mkF m 23 #[rv a1, .val (.double (FP.l2d nc)), v_, iv 1] [(.long fg), (.int 1), (.ref sA)])) rfl rfl (hb hby own_dre11N_23)
  have f21 : Arv Z h21 sA ks .long (2 : Int32) [(.long s0), (.long fg)] (.long 0) := Arv.set Ar21 q21 S21 Nn21 H21 G21 rfl W21 1 rfl (Nat.le_of_ble_eq_true rfl)
  have f22 := Exa.wr W21 f6
  have f23 := Fld.other W21 f7 (Or.inl ne_a1_sA)
  have f24 := Fld.other W21 f8 (Or.inl ne_a1_sA)
  have f25 := Fld.other W21 f9 (Or.inl ne_a1_sA)
  have f26 := Fld.other W21 f10 (Or.inl ne_a1_sA)
  have f27 := Fld.other W21 f11 (Or.inl ne_a1_sA)
  have f28 := Fld.other W21 f12 (Or.inl ne_a1_sA)
  have f29 := Fld.other W21 f13 (Or.inl ne_a1_sA)
  have f30 := Fld.other W21 f14 (Or.inl ne_a1_sA)
  have f31 := Fld.other W21 f15 (Or.inl ne_a1_sA)
  have f32 := f16.other W21 ne_wA_sA
  have f33 := f5.other W21 ne_bA_sA
  have f34 := f18.other W21 (Ne.symm ne_sA_hA)
  have K21 : Keep h0 h21 [a1, wA, bA, sA, hA] := K5.wr W21 (Or.inl (List.mem_of_getElem? (i := 3) rfl))
  have Z21 := Nat.le_trans Z5 (Nat.le_of_eq W21.size.symm)
  have N21 := Fr.snoc X21 N5 g_sA
  refine own_s T21 (mkF m 24 #[rv a1, .val (.double (FP.l2d nc)), v_, iv 1] []) st21 ?_
  refine own_s T21 (mkF m 26 #[rv a1, .val (.double (FP.l2d nc)), v_, iv 1] [(.ref a1), (.ref a1)]) (fun _ k => XS.aloadN X21.here hx rfl (hb hby own_dre11N_24) rfl rfl (XS.dup X21.here hx rfl (hb hby own_dre11N_25) rfl rfl k)) ?_
  obtain ⟨T35, X35, e35, st35⟩ := getF X21 hx hZ hown (host := "") (Or.inl (own_h hw 34 rfl)) Via.refl e21 f29 (g := (mkF m 26 #[rv a1, .val (.double (FP.l2d nc)), v_, iv 1] [(.ref a1), (.ref a1)])) rfl rfl (hb hby own_dre11N_26)
  refine own_s T35 (mkF m 29 #[rv a1, .val (.double (FP.l2d nc)), v_, iv 1] [(.int rk), (.ref a1)]) st35 ?_
  refine own_s T35 (mkF m 31 #[rv a1, .val (.double (FP.l2d nc)), v_, iv 1] [(.int (rk + (1 : Int32))), (.ref a1)]) (fun _ k => XS.iconst X35.here hx rfl (hb hby own_dre11N_29) (XS.iadd X35.here hx rfl (hb hby own_dre11N_30) rfl k)) ?_
  obtain ⟨T36, h36, X36, e36, W36, st36⟩ := putF X35 hx hZ hown (host := "") (Or.inl (own_h hw 34 rfl)) Via.refl e35 f29 f22 (Or.inl (own_h hw 35 rfl)) (own_h hw 1 rfl) (ty := .int) (by decide) rfl rfl (g := (mkF m 31 #[rv a1, .val (.double (FP.l2d nc)), v_, iv 1] [(.int (rk + (1 : Int32))), (.ref a1)])) rfl rfl (hb hby own_dre11N_31)
  have Fw36 := Fld.same W36 f29
  have f37 := Exa.wr W36 f22
  have f38 := Fld.other W36 f23 (Or.inr (slot_ne (Or.inr (own_h hw 10 rfl)) (Or.inl (own_h hw 35 rfl)) (by decide) (t := .int) (t' := .int) (by decide) (by decide)))
  have f39 := Fld.other W36 f24 (Or.inr (slot_ne (Or.inr (own_h hw 13 rfl)) (Or.inl (own_h hw 35 rfl)) (by decide) (t := (.array .double)) (t' := .int) (by decide) (by decide)))
  have f40 := Fld.other W36 f25 (Or.inr (slot_ne (Or.inr (own_h hw 15 rfl)) (Or.inl (own_h hw 35 rfl)) (by decide) (t := (.array .double)) (t' := .int) (by decide) (by decide)))
  have f41 := Fld.other W36 f26 (Or.inr (slot_ne (Or.inr (own_h hw 18 rfl)) (Or.inl (own_h hw 35 rfl)) (by decide) (t := (.array .long)) (t' := .int) (by decide) (by decide)))
  have f42 := Fld.other W36 f27 (Or.inr (slot_ne (Or.inr (own_h hw 21 rfl)) (Or.inl (own_h hw 35 rfl)) (by decide) (t := (.array .int)) (t' := .int) (by decide) (by decide)))
  have f43 := Fld.other W36 f28 (Or.inr (slot_ne (Or.inl (own_h hw 33 rfl)) (Or.inl (own_h hw 35 rfl)) (by decide) (t := .long) (t' := .int) (by decide) (by decide)))
  have f44 := Fld.other W36 f30 (Or.inr (slot_ne (Or.inl (own_h hw 37 rfl)) (Or.inl (own_h hw 35 rfl)) (by decide) (t := .int) (t' := .int) (by decide) (by decide)))
  have f45 := Fld.other W36 f31 (Or.inr (slot_ne (Or.inl (own_h hw 39 rfl)) (Or.inl (own_h hw 35 rfl)) (by decide) (t := .int) (t' := .int) (by decide) (by decide)))
  have f46 := f32.other W36 (Ne.symm ne_a1_wA)
  have f47 := f33.other W36 (Ne.symm ne_a1_bA)
  have f48 := f21.other W36 (Ne.symm ne_a1_sA)
  have f49 := f34.other W36 (Ne.symm ne_a1_hA)
  have K36 : Keep h0 h36 [a1, wA, bA, sA, hA] := K21.wr W36 (Or.inl (List.mem_of_getElem? (i := 0) rfl))
  have Z36 := Nat.le_trans Z21 (Nat.le_of_eq W36.size.symm)
  have N36 := Fr.snoc X36 N21 g_a1
  refine own_s T36 (mkF m 34 #[rv a1, .val (.double (FP.l2d nc)), v_, iv 1] []) st36 ?_
  refine own_s T36 (mkF m 35 #[rv a1, .val (.double (FP.l2d nc)), v_, iv 1] [(.double (FP.l2d nc))]) (fun _ k => XS.dloadN X36.here hx rfl (hb hby own_dre11N_34) rfl  k) ?_
  have mg50 := own_mgLit (0 : Int64) (K := 0) rfl rfl
  refine own_s T36 (mkF m 65 #[rv a1, .val (.double (FP.l2d nc)), v_, iv 1] [(.double (FP.l2d nc))]) (fun _ k => XS.dconst0 X36.here hx rfl (hb hby own_dre11N_35) own_dc0 (XS.dcmpS X36.here hx rfl (hb hby own_dre11N_36) rfl (dcmpV_w (own_mgB m_nc (by decide)) (own_mgB mg50 (by decide)) _) (XS.ifYes X36.here hx rfl (pc0 := 37) (pc' := 64) rfl (hb hby own_dre11N_37) rfl ((if0 _ _).trans (flt (own_lcgtN hc)).2.2.2) (by decide) (by decide) (XS.dloadN X36.here hx rfl (hb hby own_dre11N_64) rfl  k)))) ?_
  have mg51 := own_mgLit (0 : Int64) (K := 0) rfl rfl
  refine own_s T36 (mkF m 71 #[rv a1, .val (.double (FP.l2d nc)), v_, iv 1] [(.ref a1)]) (fun _ k => XS.dconst0 X36.here hx rfl (hb hby own_dre11N_65) own_dc0 (XS.dcmpS X36.here hx rfl (hb hby own_dre11N_66) rfl (dcmpV_w (own_mgB m_nc (by decide)) (own_mgB mg51 (by decide)) _) (XS.ifNo X36.here hx rfl (hb hby own_dre11N_67) rfl ((if0 _ _).trans (flt (own_lcgtN hc)).2.2.1) (XS.aloadN X36.here hx rfl (hb hby own_dre11N_70) rfl rfl k)))) ?_
  obtain ⟨T52, X52, e52, st52⟩ := getF X36 hx hZ hown (host := "") (Or.inl (own_h hw 20 rfl)) Via.refl e36 f42 (g := (mkF m 71 #[rv a1, .val (.double (FP.l2d nc)), v_, iv 1] [(.ref a1)])) rfl rfl (hb hby own_dre11N_71)
  refine own_s T52 (mkF m 74 #[rv a1, .val (.double (FP.l2d nc)), v_, iv 1] [(.ref hA)]) st52 ?_
  refine own_s T52 (mkF m 76 #[rv a1, .val (.double (FP.l2d nc)), v_, iv 1] [(.ref a1), (.int 0), (.ref hA)]) (fun _ k => XS.iconst X52.here hx rfl (hb hby own_dre11N_74) (XS.aloadN X52.here hx rfl (hb hby own_dre11N_75) rfl rfl k)) ?_
  obtain ⟨T53, X53, e53, st53⟩ := getF X52 hx hZ hown (host := "") (Or.inl (own_h hw 20 rfl)) Via.refl e52 f42 (g := (mkF m 76 #[rv a1, .val (.double (FP.l2d nc)), v_, iv 1] [(.ref a1), (.int 0), (.ref hA)])) rfl rfl (hb hby own_dre11N_76)
  refine own_s T53 (mkF m 79 #[rv a1, .val (.double (FP.l2d nc)), v_, iv 1] [(.ref hA), (.int 0), (.ref hA)]) st53 ?_
  refine own_s T53 (mkF m 81 #[rv a1, .val (.double (FP.l2d nc)), v_, iv 1] [(.ref a1), (.ref a1), (.ref hA), (.int 0), (.ref hA)]) (fun _ k => XS.aloadN X53.here hx rfl (hb hby own_dre11N_79) rfl rfl (XS.dup X53.here hx rfl (hb hby own_dre11N_80) rfl rfl k)) ?_
  obtain ⟨T54, X54, e54, st54⟩ := getF X53 hx hZ hown (host := "") (Or.inl (own_h hw 38 rfl)) Via.refl e53 f45 (g := (mkF m 81 #[rv a1, .val (.double (FP.l2d nc)), v_, iv 1] [(.ref a1), (.ref a1), (.ref hA), (.int 0), (.ref hA)])) rfl rfl (hb hby own_dre11N_81)
  refine own_s T54 (mkF m 84 #[rv a1, .val (.double (FP.l2d nc)), v_, iv 1] [(.int 1), (.ref a1), (.ref hA), (.int 0), (.ref hA)]) st54 ?_
  refine own_s T54 (mkF m 87 #[rv a1, .val (.double (FP.l2d nc)), v_, iv 1] [(.int 0), (.ref a1), (.int 0), (.ref hA), (.int 0), (.ref hA)]) (fun _ k => XS.iconst X54.here hx rfl (hb hby own_dre11N_84) (XS.isub X54.here hx rfl (hb hby own_dre11N_85) rfl (XS.dupX1 X54.here hx rfl (hb hby own_dre11N_86) rfl rfl rfl k))) ?_
  obtain ⟨T55, h55, X55, e55, W55, st55⟩ := putF X54 hx hZ hown (host := "") (Or.inl (own_h hw 38 rfl)) Via.refl e54 f45 f37 (Or.inl (own_h hw 39 rfl)) (own_h hw 1 rfl) (ty := .int) (by decide) rfl rfl (g := (mkF m 87 #[rv a1, .val (.double (FP.l2d nc)), v_, iv 1] [(.int 0), (.ref a1), (.int 0), (.ref hA), (.int 0), (.ref hA)])) rfl rfl (hb hby own_dre11N_87)
  have Fw55 := Fld.same W55 f45
  have f56 := Exa.wr W55 f37
  have f57 := Fld.other W55 f38 (Or.inr (slot_ne (Or.inr (own_h hw 10 rfl)) (Or.inl (own_h hw 39 rfl)) (by decide) (t := .int) (t' := .int) (by decide) (by decide)))
  have f58 := Fld.other W55 f39 (Or.inr (slot_ne (Or.inr (own_h hw 13 rfl)) (Or.inl (own_h hw 39 rfl)) (by decide) (t := (.array .double)) (t' := .int) (by decide) (by decide)))
  have f59 := Fld.other W55 f40 (Or.inr (slot_ne (Or.inr (own_h hw 15 rfl)) (Or.inl (own_h hw 39 rfl)) (by decide) (t := (.array .double)) (t' := .int) (by decide) (by decide)))
  have f60 := Fld.other W55 f41 (Or.inr (slot_ne (Or.inr (own_h hw 18 rfl)) (Or.inl (own_h hw 39 rfl)) (by decide) (t := (.array .long)) (t' := .int) (by decide) (by decide)))
  have f61 := Fld.other W55 f42 (Or.inr (slot_ne (Or.inr (own_h hw 21 rfl)) (Or.inl (own_h hw 39 rfl)) (by decide) (t := (.array .int)) (t' := .int) (by decide) (by decide)))
  have f62 := Fld.other W55 f43 (Or.inr (slot_ne (Or.inl (own_h hw 33 rfl)) (Or.inl (own_h hw 39 rfl)) (by decide) (t := .long) (t' := .int) (by decide) (by decide)))
  have f63 := Fld.other W55 Fw36 (Or.inr (slot_ne (Or.inl (own_h hw 35 rfl)) (Or.inl (own_h hw 39 rfl)) (by decide) (t := .int) (t' := .int) (by decide) (by decide)))
  have f64 := Fld.other W55 f44 (Or.inr (slot_ne (Or.inl (own_h hw 37 rfl)) (Or.inl (own_h hw 39 rfl)) (by decide) (t := .int) (t' := .int) (by decide) (by decide)))
  have f65 := f46.other W55 (Ne.symm ne_a1_wA)
  have f66 := f47.other W55 (Ne.symm ne_a1_bA)
  have f67 := f48.other W55 (Ne.symm ne_a1_sA)
  have f68 := f49.other W55 (Ne.symm ne_a1_hA)
  have K55 : Keep h0 h55 [a1, wA, bA, sA, hA] := K36.wr W55 (Or.inl (List.mem_of_getElem? (i := 0) rfl))
  have Z55 := Nat.le_trans Z36 (Nat.le_of_eq W55.size.symm)
  have N55 := Fr.snoc X55 N36 g_a1
  refine own_s T55 (mkF m 90 #[rv a1, .val (.double (FP.l2d nc)), v_, iv 1] [(.int 0), (.ref hA), (.int 0), (.ref hA)]) st55 ?_
  obtain ⟨cl69, Ar69, q69, S69, Nn69, H69, G69⟩ := id f68
  have hin69 : ¬ ((0 : Int32) < 0 ∨ cl69.slots.size ≤ ((0 : Int32)).toNatClampNeg) := (inb_of S69 ⟨by decide, by decide⟩)
  refine own_s T55 (mkF m 91 #[rv a1, .val (.double (FP.l2d nc)), v_, iv 1] [(.int 1), (.int 0), (.ref hA)]) (fun _ k => X55.iaload hx (j := (0 : Int32)) (v := (.int 1)) (own_at e55 Ar69.1) (State.isArrayOf_alike hZ.alike Ar69.2.1) Ar69.2.2 hin69 (Has.at H69 hin69 rfl) (g := (mkF m 90 #[rv a1, .val (.double (FP.l2d nc)), v_, iv 1] [(.int 0), (.ref hA), (.int 0), (.ref hA)])) rfl rfl (hb hby own_dre11N_90) _ k) ?_
  obtain ⟨cl70, Ar70, q70, S70, Nn70, H70, G70⟩ := id f68
  have hin70 : ¬ ((0 : Int32) < 0 ∨ cl70.slots.size ≤ ((0 : Int32)).toNatClampNeg) := (inb_of S70 ⟨by decide, by decide⟩)
  obtain ⟨T70, h70, X70, e70, W70, st70⟩ := stI X55 hx hZ e55 Ar70 (j := (0 : Int32)) hin70 (g := (mkF m 91 #[rv a1, .val (.double (FP.l2d nc)), v_, iv 1] [(.int 1), (.int 0), (.ref hA)])) rfl rfl (hb hby own_dre11N_91)
  have f70 : Arv Z h70 hA kh .int (2 : Int32) [(.int 1), (.int t1)] (.int 0) := Arv.set Ar70 q70 S70 Nn70 H70 G70 rfl W70 0 rfl (Nat.le_of_ble_eq_true rfl)
  have f71 := Exa.wr W70 f56
  have f72 := Fld.other W70 f57 (Or.inl ne_a1_hA)
  have f73 := Fld.other W70 f58 (Or.inl ne_a1_hA)
  have f74 := Fld.other W70 f59 (Or.inl ne_a1_hA)
  have f75 := Fld.other W70 f60 (Or.inl ne_a1_hA)
  have f76 := Fld.other W70 f61 (Or.inl ne_a1_hA)
  have f77 := Fld.other W70 f62 (Or.inl ne_a1_hA)
  have f78 := Fld.other W70 f63 (Or.inl ne_a1_hA)
  have f79 := Fld.other W70 f64 (Or.inl ne_a1_hA)
  have f80 := Fld.other W70 Fw55 (Or.inl ne_a1_hA)
  have f81 := f65.other W70 ne_wA_hA
  have f82 := f66.other W70 ne_bA_hA
  have f83 := f67.other W70 ne_sA_hA
  have K70 : Keep h0 h70 [a1, wA, bA, sA, hA] := K55.wr W70 (Or.inl (List.mem_of_getElem? (i := 4) rfl))
  have Z70 := Nat.le_trans Z55 (Nat.le_of_eq W70.size.symm)
  have N70 := Fr.snoc X70 N55 g_hA
  refine own_s T70 (mkF m 92 #[rv a1, .val (.double (FP.l2d nc)), v_, iv 1] []) st70 ?_
  refine own_s T70 (mkF m 94 #[rv a1, .val (.double (FP.l2d nc)), v_, iv 1] [(.int 0), (.ref a1)]) (fun _ k => XS.aloadN X70.here hx rfl (hb hby own_dre11N_92) rfl rfl (XS.iconst X70.here hx rfl (hb hby own_dre11N_93) k)) ?_
  obtain ⟨v84, T84, L84, X84, hQ84, st84⟩ := own_callP X70 hx hZ (y := own_y2) (W := 0) (a := a1) hown (own_h hw 64 rfl) (own_h hw 65 rfl) (own_h hw 1 rfl) (own_h hw 66 rfl) (own_h hw 2 rfl) (own_h hw 67 rfl) (by decide) (own_rms0 l Z a0 hw [] a1 wA bA sA hA kw kb ks kh reach w0 w1 b0 nc s0 fg (1 : Int32) t1 fg (rk + (1 : Int32)) (-1 : Int32) h70 n0 Z70 ⟨f71, f72, f73, f74, f75, f76, f77, f78, f79, f80, f81, f82, f83, f70⟩ hNE hGE m_w0 m_w1 m_b0 m_nc) (by decide) (by decide) f71 (g := (mkF m 94 #[rv a1, .val (.double (FP.l2d nc)), v_, iv 1] [(.int 0), (.ref a1)])) rfl (by rw [hml]; rfl) (argsL := [(.int 0)]) (rest := []) rfl (lenOf own_pd2 rfl) rfl (by show 2 * 0 + _ ≤ _; exact Nat.le_of_eq rfl) (hb hby own_dre11N_94) e70 (by decide) (by decide)
  obtain ⟨rfl, Nq84, Kq84, hq84⟩ := hQ84
  have N84 := Fr.app N70 Nq84
  have K84 : Keep h0 T84.heap [a1, wA, bA, sA, hA] := K70.trans Kq84 (allS (Or.inl (List.mem_of_getElem? (i := 0) rfl)) (allS (Or.inl (List.mem_of_getElem? (i := 1) rfl)) (allS (Or.inl (List.mem_of_getElem? (i := 2) rfl)) (allS (Or.inl (List.mem_of_getElem? (i := 3) rfl)) (allS (Or.inl (List.mem_of_getElem? (i := 4) rfl)) all0)))))
  have Z84 := Nat.le_trans Z70 Kq84.1
  obtain ⟨u85_0, u85_1, u85_2, u85_3, u85_4, u85_5, u85_6, u85_7, u85_8, u85_9, u85_10, u85_11, u85_12, u85_13⟩ := id hq84
  refine own_s T84 (mkF m 97 #[rv a1, .val (.double (FP.l2d nc)), v_, iv 1] []) st84 ?_
  exact own_finV X84 hx hret (hb hby own_dre11N_97) (own_end (Qv := (own_Qre11N Z a1 wA bA sA hA kw kb ks kh reach w0 w1 b0 b1 s0 s1 t1 fg rk nc h0 n0)) X84 (fun _ => rfl) hlk (by decide) (by decide) rfl ⟨rfl, N84, K84, ⟨u85_0, u85_1, u85_2, u85_3, u85_4, u85_5, u85_6, u85_7, u85_8, u85_9, u85_10, u85_11, u85_12, u85_13⟩⟩)
theorem own_dre12PT_0 : decode prog_47_method_7_code 0 = .ok (.aload_n 0, 1) := by decide +kernel
theorem own_dre12PT_1 : decode prog_47_method_7_code 1 = .ok (.getfield 24, 3) := by decide +kernel
theorem own_dre12PT_4 : decode prog_47_method_7_code 4 = .ok (.iconst 0, 1) := by decide +kernel
theorem own_dre12PT_5 : decode prog_47_method_7_code 5 = .ok (.iaload, 1) := by decide +kernel
theorem own_dre12PT_6 : decode prog_47_method_7_code 6 = .ok (.istore_n 3, 1) := by decide +kernel
theorem own_dre12PT_7 : decode prog_47_method_7_code 7 = .ok (.aload_n 0, 1) := by decide +kernel
theorem own_dre12PT_8 : decode prog_47_method_7_code 8 = .ok (.getfield 17, 3) := by decide +kernel
theorem own_dre12PT_11 : decode prog_47_method_7_code 11 = .ok (.iload_n 3, 1) := by decide +kernel
theorem own_dre12PT_12 : decode prog_47_method_7_code 12 = .ok (.dload_n 1, 1) := by decide +kernel
theorem own_dre12PT_13 : decode prog_47_method_7_code 13 = .ok (.dastore, 1) := by decide +kernel
theorem own_dre12PT_14 : decode prog_47_method_7_code 14 = .ok (.aload_n 0, 1) := by decide +kernel
theorem own_dre12PT_15 : decode prog_47_method_7_code 15 = .ok (.getfield 20, 3) := by decide +kernel
theorem own_dre12PT_18 : decode prog_47_method_7_code 18 = .ok (.iload_n 3, 1) := by decide +kernel
theorem own_dre12PT_19 : decode prog_47_method_7_code 19 = .ok (.aload_n 0, 1) := by decide +kernel
theorem own_dre12PT_20 : decode prog_47_method_7_code 20 = .ok (.getfield 34, 3) := by decide +kernel
theorem own_dre12PT_23 : decode prog_47_method_7_code 23 = .ok (.lastore, 1) := by decide +kernel
theorem own_dre12PT_24 : decode prog_47_method_7_code 24 = .ok (.aload_n 0, 1) := by decide +kernel
theorem own_dre12PT_25 : decode prog_47_method_7_code 25 = .ok (.dup, 1) := by decide +kernel
theorem own_dre12PT_26 : decode prog_47_method_7_code 26 = .ok (.getfield 42, 3) := by decide +kernel
theorem own_dre12PT_29 : decode prog_47_method_7_code 29 = .ok (.iconst 1, 1) := by decide +kernel
theorem own_dre12PT_30 : decode prog_47_method_7_code 30 = .ok (.iadd, 1) := by decide +kernel
theorem own_dre12PT_31 : decode prog_47_method_7_code 31 = .ok (.putfield 42, 3) := by decide +kernel
theorem own_dre12PT_34 : decode prog_47_method_7_code 34 = .ok (.dload_n 1, 1) := by decide +kernel
theorem own_dre12PT_35 : decode prog_47_method_7_code 35 = .ok (.dconst 0, 1) := by decide +kernel
theorem own_dre12PT_36 : decode prog_47_method_7_code 36 = .ok (.dcmp .l, 1) := by decide +kernel
theorem own_dre12PT_37 : decode prog_47_method_7_code 37 = .ok (.ifCond .le 27, 3) := by decide +kernel
theorem own_dre12PT_40 : decode prog_47_method_7_code 40 = .ok (.aload_n 0, 1) := by decide +kernel
theorem own_dre12PT_41 : decode prog_47_method_7_code 41 = .ok (.getfield 45, 3) := by decide +kernel
theorem own_dre12PT_44 : decode prog_47_method_7_code 44 = .ok (.ifCond .lt 15, 3) := by decide +kernel
theorem own_dre12PT_59 : decode prog_47_method_7_code 59 = .ok (.aload_n 0, 1) := by decide +kernel
theorem own_dre12PT_60 : decode prog_47_method_7_code 60 = .ok (.iload_n 3, 1) := by decide +kernel
theorem own_dre12PT_61 : decode prog_47_method_7_code 61 = .ok (.putfield 45, 3) := by decide +kernel
theorem own_dre12PT_64 : decode prog_47_method_7_code 64 = .ok (.dload_n 1, 1) := by decide +kernel
theorem own_dre12PT_65 : decode prog_47_method_7_code 65 = .ok (.dconst 0, 1) := by decide +kernel
theorem own_dre12PT_66 : decode prog_47_method_7_code 66 = .ok (.dcmp .g, 1) := by decide +kernel
theorem own_dre12PT_67 : decode prog_47_method_7_code 67 = .ok (.ifCond .gt 25, 3) := by decide +kernel
theorem own_dre12PT_92 : decode prog_47_method_7_code 92 = .ok (.aload_n 0, 1) := by decide +kernel
theorem own_dre12PT_93 : decode prog_47_method_7_code 93 = .ok (.iconst 0, 1) := by decide +kernel
theorem own_dre12PT_94 : decode prog_47_method_7_code 94 = .ok (.invokevirtual 52, 3) := by decide +kernel
theorem own_dre12PT_97 : decode prog_47_method_7_code 97 = .ok (.return_, 1) := by decide +kernel
theorem own_efre12PT (m : MethodId) (x0 : Addr) (x1 : UInt64) : entryFrame m #[(.ref x0), (.double x1)] 4 = mkF m 0 #[rv x0, .val (.double x1), v_, u_] [] := by first | (simp [entryFrame, mkF, argsToLocals, Value.category]; done) | rfl
def own_Qre12PT (Z : State) (a1 : Addr) (wA bA sA hA : Addr) (kw kb ks kh : ClassId) (reach : Int32) (w0 : Int64) (w1 : Int64) (b0 : Int64) (b1 : Int64) (s0 : Int64) (s1 : Int64) (fg : Int64) (rk : Int32) (nc : Int64) (h0 : Heap) (n0 : Nat) : Option Value → Heap → List Loc → Prop := fun v h L => v = none ∧ Fr n0 L ∧ Keep h0 h [a1, wA, bA, sA, hA] ∧ own_CQ Z h a1 wA bA sA hA kw kb ks kh reach w0 w1 b0 nc s0 fg (0 : Int32) (1 : Int32) fg (rk + (1 : Int32)) (1 : Int32) (2 : Int32)
def own_Rre12PT : Room := { frames := 2, cells := 0, slots := 0, locals := 36 }
set_option maxRecDepth 65536 in
set_option maxHeartbeats 40000000 in
theorem own_rmre12PT (l : Launch) (Z : State) (a0 : Array Value) (hw : ∀ d ∈ tables_1, d.before a0 Z = true) (ws : List Jvm.Cond) (a1 : Addr) (wA bA sA hA : Addr) (kw kb ks kh : ClassId) (reach : Int32) (w0 : Int64) (w1 : Int64) (b0 : Int64) (b1 : Int64) (s0 : Int64) (s1 : Int64) (fg : Int64) (rk : Int32) (nc : Int64) (h0 : Heap) (n0 : Nat) (Z0 : n0 ≤ h0.size) (hCQ : own_CQ Z h0 a1 wA bA sA hA kw kb ks kh reach w0 w1 b0 b1 s0 s1 (1 : Int32) (0 : Int32) fg rk (-1 : Int32) (2 : Int32)) (hNE : own_NE a1 wA bA sA hA) (hGE : own_GE n0 a1 wA bA sA hA) (m_w0 : own_Mg 8 w0) (m_w1 : own_Mg 8 w1) (m_b0 : own_Mg 8 b0) (m_b1 : own_Mg 8 b1) (m_nc : own_Mg 8 nc) (hc : (0 : Int64) < nc) (hb0 : (0 : Int64) < b0) (hw0 : ¬ w0 < (0 : Int64)) (hw1 : ¬ w1 < (0 : Int64)) (hld : (own_ld (b0 * w1) (nc * w0) (0 : Int32) (1 : Int32)) = true) :
    own_Met l Z own_y6 prog_47_method_7_code 4 none ws own_Rre12PT h0 #[(.ref a1), (.double (FP.l2d nc))] (own_Qre12PT Z a1 wA bA sA hA kw kb ks kh reach w0 w1 b0 b1 s0 s1 fg rk nc h0 n0) own_Rre12PT.cells own_Rre12PT.slots := by
  refine own_start (plainFor_of_name own_pn0) ?_
  intro p e s m below meth c s₁ X0 hx hZ hby hml hret hlk hown hnm e0
  have hown : s.vm.findClass "com/example/allotrope/allotrope/procure/CoverQueue" = some m.cls := hown
  have hml : c.maxLocals = 4 := hml
  have N0 := Fr.nil n0
  refine own_cast (own_efre12PT m a1 (FP.l2d nc)) ?_
  obtain ⟨ne_a1_wA, ne_a1_bA, ne_a1_sA, ne_a1_hA, ne_wA_bA, ne_wA_sA, ne_wA_hA, ne_bA_sA, ne_bA_hA, ne_sA_hA⟩ := id hNE
  obtain ⟨g_a1, g_wA, g_bA, g_sA, g_hA⟩ := id hGE
  obtain ⟨u1_0, u1_1, u1_2, u1_3, u1_4, u1_5, u1_6, u1_7, u1_8, u1_9, u1_10, u1_11, u1_12, u1_13⟩ := id hCQ
  refine own_s s₁ (mkF m 1 #[rv a1, .val (.double (FP.l2d nc)), v_, u_] [(.ref a1)]) (fun _ k => XS.aloadN X0.here hx rfl (hb hby own_dre12PT_0) rfl rfl k) ?_
  obtain ⟨T2, X2, e2, st2⟩ := getF X0 hx hZ hown (host := "") (Or.inl (own_h hw 20 rfl)) Via.refl e0 u1_5 (g := (mkF m 1 #[rv a1, .val (.double (FP.l2d nc)), v_, u_] [(.ref a1)])) rfl rfl (hb hby own_dre12PT_1)
  refine own_s T2 (mkF m 4 #[rv a1, .val (.double (FP.l2d nc)), v_, u_] [(.ref hA)]) st2 ?_
  refine own_s T2 (mkF m 5 #[rv a1, .val (.double (FP.l2d nc)), v_, u_] [(.int 0), (.ref hA)]) (fun _ k => XS.iconst X2.here hx rfl (hb hby own_dre12PT_4) k) ?_
  obtain ⟨cl3, Ar3, q3, S3, Nn3, H3, G3⟩ := id u1_13
  have hin3 : ¬ ((0 : Int32) < 0 ∨ cl3.slots.size ≤ ((0 : Int32)).toNatClampNeg) := (inb_of S3 ⟨by decide, by decide⟩)
  refine own_s T2 (mkF m 8 #[rv a1, .val (.double (FP.l2d nc)), v_, iv 1] [(.ref a1)]) (fun _ k => X2.iaload hx (j := (0 : Int32)) (v := (.int 1)) (own_at e2 Ar3.1) (State.isArrayOf_alike hZ.alike Ar3.2.1) Ar3.2.2 hin3 (Has.at H3 hin3 rfl) (g := (mkF m 5 #[rv a1, .val (.double (FP.l2d nc)), v_, u_] [(.int 0), (.ref hA)])) rfl rfl (hb hby own_dre12PT_5) _ (XS.istoreN X2.here hx rfl (hb hby own_dre12PT_6) rfl (l' := #[rv a1, .val (.double (FP.l2d nc)), v_, iv 1]) rfl (XS.aloadN X2.here hx rfl (hb hby own_dre12PT_7) rfl rfl k))) ?_
  obtain ⟨T4, X4, e4, st4⟩ := getF X2 hx hZ hown (host := "") (Or.inl (own_h hw 14 rfl)) Via.refl e2 u1_3 (g := (mkF m 8 #[rv a1, .val (.double (FP.l2d nc)), v_, iv 1] [(.ref a1)])) rfl rfl (hb hby own_dre12PT_8)
  refine own_s T4 (mkF m 11 #[rv a1, .val (.double (FP.l2d nc)), v_, iv 1] [(.ref bA)]) st4 ?_
  refine own_s T4 (mkF m 13 #[rv a1, .val (.double (FP.l2d nc)), v_, iv 1] [(.double (FP.l2d nc)), (.int 1), (.ref bA)]) (fun _ k => XS.iloadN X4.here hx rfl (hb hby own_dre12PT_11) rfl  (XS.dloadN X4.here hx rfl (hb hby own_dre12PT_12) rfl  k)) ?_
  obtain ⟨cl5, Ar5, q5, S5, Nn5, H5, G5⟩ := id u1_11
  have hin5 : ¬ ((1 : Int32) < 0 ∨ cl5.slots.size ≤ ((1 : Int32)).toNatClampNeg) := (inb_of S5 ⟨by decide, by decide⟩)
  obtain ⟨T5, h5, X5, e5, W5, st5⟩ := stD X4 hx hZ e4 Ar5 (j := (1 : Int32)) hin5 (g := (mkF m 13 #[rv a1, .val (.double (FP.l2d nc)), v_, iv 1] [(.double (FP.l2d nc)), (.int 1), (.ref bA)])) rfl rfl (hb hby own_dre12PT_13)
  have f5 : Arv Z h5 bA kb .double (2 : Int32) [(.double (FP.l2d b0)), (.double (FP.l2d nc))] (.double (FP.l2d 0)) := Arv.set Ar5 q5 S5 Nn5 H5 G5 rfl W5 1 rfl (Nat.le_of_ble_eq_true rfl)
  have f6 := Exa.wr W5 u1_0
  have f7 := Fld.other W5 u1_1 (Or.inl ne_a1_bA)
  have f8 := Fld.other W5 u1_2 (Or.inl ne_a1_bA)
  have f9 := Fld.other W5 u1_3 (Or.inl ne_a1_bA)
  have f10 := Fld.other W5 u1_4 (Or.inl ne_a1_bA)
  have f11 := Fld.other W5 u1_5 (Or.inl ne_a1_bA)
  have f12 := Fld.other W5 u1_6 (Or.inl ne_a1_bA)
  have f13 := Fld.other W5 u1_7 (Or.inl ne_a1_bA)
  have f14 := Fld.other W5 u1_8 (Or.inl ne_a1_bA)
  have f15 := Fld.other W5 u1_9 (Or.inl ne_a1_bA)
  have f16 := u1_10.other W5 ne_wA_bA
  have f17 := u1_12.other W5 (Ne.symm ne_bA_sA)
  have f18 := u1_13.other W5 (Ne.symm ne_bA_hA)
  have K5 : Keep h0 h5 [a1, wA, bA, sA, hA] := (Keep.refl h0 [a1, wA, bA, sA, hA]).wr W5 (Or.inl (List.mem_of_getElem? (i := 2) rfl))
  have Z5 := Nat.le_trans Z0 (Nat.le_of_eq W5.size.symm)
  have N5 := Fr.snoc X5 N0 g_bA
  refine own_s T5 (mkF m 14 #[rv a1, .val (.double (FP.l2d nc)), v_, iv 1] []) st5 ?_
  refine own_s T5 (mkF m 15 #[rv a1, .val (.double (FP.l2d nc)), v_, iv 1] [(.ref a1)]) (fun _ k => XS.aloadN X5.here hx rfl (hb hby own_dre12PT_14) rfl rfl k) ?_
  obtain ⟨T19, X19, e19, st19⟩ := getF X5 hx hZ hown (host := "") (Or.inl (own_h hw 17 rfl)) Via.refl e5 f10 (g := (mkF m 15 #[rv a1, .val (.double (FP.l2d nc)), v_, iv 1] [(.ref a1)])) rfl rfl (hb hby own_dre12PT_15)
  refine own_s T19 (mkF m 18 #[rv a1, .val (.double (FP.l2d nc)), v_, iv 1] [(.ref sA)]) st19 ?_
  refine own_s T19 (mkF m 20 #[rv a1, .val (.double (FP.l2d nc)), v_, iv 1] [(.ref a1), (.int 1), (.ref sA)]) (fun _ k => XS.iloadN X19.here hx rfl (hb hby own_dre12PT_18) rfl  (XS.aloadN X19.here hx rfl (hb hby own_dre12PT_19) rfl rfl k)) ?_
  obtain ⟨T20, X20, e20, st20⟩ := getF X19 hx hZ hown (host := "") (Or.inl (own_h hw 32 rfl)) Via.refl e19 f12 (g := (mkF m 20 #[rv a1, .val (.double (FP.l2d nc)), v_, iv 1] [(.ref a1), (.int 1), (.ref sA)])) rfl rfl (hb hby own_dre12PT_20)
  refine own_s T20 (mkF m 23 #[rv a1, .val (.double (FP.l2d nc)), v_, iv 1] [(.long fg), (.int 1), (.ref sA)]) st20 ?_
  obtain ⟨cl21, Ar21, q21, S21, Nn21, H21, G21⟩ := id f17
  have hin21 : ¬ ((1 : Int32) < 0 ∨ cl21.slots.size ≤ ((1 : Int32)).toNatClampNeg) := (inb_of S21 ⟨by decide, by decide⟩)
  obtain ⟨T21, h21, X21, e21, W21, st21⟩ := stJ X20 hx hZ e20 Ar21 (j := (1 : Int32)) hin21 (g := (mkF m 23 #[rv a1, .val (.double (FP.l2d nc)), v_, iv 1] [(.long fg), (.int 1), (.ref sA)])) rfl rfl (hb hby own_dre12PT_23)
  have f21 : Arv Z h21 sA ks .long (2 : Int32) [(.long s0), (.long fg)] (.long 0) := Arv.set Ar21 q21 S21 Nn21 H21 G21 rfl W21 1 rfl (Nat.le_of_ble_eq_true rfl)
  have f22 := Exa.wr W21 f6
  have f23 := Fld.other W21 f7 (Or.inl ne_a1_sA)
  have f24 := Fld.other W21 f8 (Or.inl ne_a1_sA)
  have f25 := Fld.other W21 f9 (Or.inl ne_a1_sA)
  have f26 := Fld.other W21 f10 (Or.inl ne_a1_sA)
  have f27 := Fld.other W21 f11 (Or.inl ne_a1_sA)
  have f28 := Fld.other W21 f12 (Or.inl ne_a1_sA)
  have f29 := Fld.other W21 f13 (Or.inl ne_a1_sA)
  have f30 := Fld.other W21 f14 (Or.inl ne_a1_sA)
  have f31 := Fld.other W21 f15 (Or.inl ne_a1_sA)
  have f32 := f16.other W21 ne_wA_sA
  have f33 := f5.other W21 ne_bA_sA
  have f34 := f18.other W21 (Ne.symm ne_sA_hA)
  have K21 : Keep h0 h21 [a1, wA, bA, sA, hA] := K5.wr W21 (Or.inl (List.mem_of_getElem? (i := 3) rfl))
  have Z21 := Nat.le_trans Z5 (Nat.le_of_eq W21.size.symm)
  have N21 := Fr.snoc X21 N5 g_sA
  refine own_s T21 (mkF m 24 #[rv a1, .val (.double (FP.l2d nc)), v_, iv 1] []) st21 ?_
  refine own_s T21 (mkF m 26 #[rv a1, .val (.double (FP.l2d nc)), v_, iv 1] [(.ref a1), (.ref a1)]) (fun _ k => XS.aloadN X21.here hx rfl (hb hby own_dre12PT_24) rfl rfl (XS.dup X21.here hx rfl (hb hby own_dre12PT_25) rfl rfl k)) ?_
  obtain ⟨T35, X35, e35, st35⟩ := getF X21 hx hZ hown (host := "") (Or.inl (own_h hw 34 rfl)) Via.refl e21 f29 (g := (mkF m 26 #[rv a1, .val (.double (FP.l2d nc)), v_, iv 1] [(.ref a1), (.ref a1)])) rfl rfl (hb hby own_dre12PT_26)
  refine own_s T35 (mkF m 29 #[rv a1, .val (.double (FP.l2d nc)), v_, iv 1] [(.int rk), (.ref a1)]) st35 ?_
  refine own_s T35 (mkF m 31 #[rv a1, .val (.double (FP.l2d nc)), v_, iv 1] [(.int (rk + (1 : Int32))), (.ref a1)]) (fun _ k => XS.iconst X35.here hx rfl (hb hby own_dre12PT_29) (XS.iadd X35.here hx rfl (hb hby own_dre12PT_30) rfl k)) ?_
  obtain ⟨T36, h36, X36, e36, W36, st36⟩ := putF X35 hx hZ hown (host := "") (Or.inl (own_h hw 34 rfl)) Via.refl e35 f29 f22 (Or.inl (own_h hw 35 rfl)) (own_h hw 1 rfl) (ty := .int) (by decide) rfl rfl (g := (mkF m 31 #[rv a1, .val (.double (FP.l2d nc)), v_, iv 1] [(.int (rk + (1 : Int32))), (.ref a1)])) rfl rfl (hb hby own_dre12PT_31)
  have Fw36 := Fld.same W36 f29
  have f37 := Exa.wr W36 f22
  have f38 := Fld.other W36 f23 (Or.inr (slot_ne (Or.inr (own_h hw 10 rfl)) (Or.inl (own_h hw 35 rfl)) (by decide) (t := .int) (t' := .int) (by decide) (by decide)))
  have f39 := Fld.other W36 f24 (Or.inr (slot_ne (Or.inr (own_h hw 13 rfl)) (Or.inl (own_h hw 35 rfl)) (by decide) (t := (.array .double)) (t' := .int) (by decide) (by decide)))
  have f40 := Fld.other W36 f25 (Or.inr (slot_ne (Or.inr (own_h hw 15 rfl)) (Or.inl (own_h hw 35 rfl)) (by decide) (t := (.array .double)) (t' := .int) (by decide) (by decide)))
  have f41 := Fld.other W36 f26 (Or.inr (slot_ne (Or.inr (own_h hw 18 rfl)) (Or.inl (own_h hw 35 rfl)) (by decide) (t := (.array .long)) (t' := .int) (by decide) (by decide)))
  have f42 := Fld.other W36 f27 (Or.inr (slot_ne (Or.inr (own_h hw 21 rfl)) (Or.inl (own_h hw 35 rfl)) (by decide) (t := (.array .int)) (t' := .int) (by decide) (by decide)))
  have f43 := Fld.other W36 f28 (Or.inr (slot_ne (Or.inl (own_h hw 33 rfl)) (Or.inl (own_h hw 35 rfl)) (by decide) (t := .long) (t' := .int) (by decide) (by decide)))
  have f44 := Fld.other W36 f30 (Or.inr (slot_ne (Or.inl (own_h hw 37 rfl)) (Or.inl (own_h hw 35 rfl)) (by decide) (t := .int) (t' := .int) (by decide) (by decide)))
  have f45 := Fld.other W36 f31 (Or.inr (slot_ne (Or.inl (own_h hw 39 rfl)) (Or.inl (own_h hw 35 rfl)) (by decide) (t := .int) (t' := .int) (by decide) (by decide)))
  have f46 := f32.other W36 (Ne.symm ne_a1_wA)
  have f47 := f33.other W36 (Ne.symm ne_a1_bA)
  have f48 := f21.other W36 (Ne.symm ne_a1_sA)
  have f49 := f34.other W36 (Ne.symm ne_a1_hA)
  have K36 : Keep h0 h36 [a1, wA, bA, sA, hA] := K21.wr W36 (Or.inl (List.mem_of_getElem? (i := 0) rfl))
  have Z36 := Nat.le_trans Z21 (Nat.le_of_eq W36.size.symm)
  have N36 := Fr.snoc X36 N21 g_a1
  refine own_s T36 (mkF m 34 #[rv a1, .val (.double (FP.l2d nc)), v_, iv 1] []) st36 ?_
  refine own_s T36 (mkF m 35 #[rv a1, .val (.double (FP.l2d nc)), v_, iv 1] [(.double (FP.l2d nc))]) (fun _ k => XS.dloadN X36.here hx rfl (hb hby own_dre12PT_34) rfl  k) ?_
  have mg50 := own_mgLit (0 : Int64) (K := 0) rfl rfl
  refine own_s T36 (mkF m 41 #[rv a1, .val (.double (FP.l2d nc)), v_, iv 1] [(.ref a1)]) (fun _ k => XS.dconst0 X36.here hx rfl (hb hby own_dre12PT_35) own_dc0 (XS.dcmpS X36.here hx rfl (hb hby own_dre12PT_36) rfl (dcmpV_w (own_mgB m_nc (by decide)) (own_mgB mg50 (by decide)) _) (XS.ifNo X36.here hx rfl (hb hby own_dre12PT_37) rfl ((if0 _ _).trans (tlt (own_lcgt hc)).2.2.2) (XS.aloadN X36.here hx rfl (hb hby own_dre12PT_40) rfl rfl k)))) ?_
  obtain ⟨T51, X51, e51, st51⟩ := getF X36 hx hZ hown (host := "") (Or.inl (own_h hw 36 rfl)) Via.refl e36 f44 (g := (mkF m 41 #[rv a1, .val (.double (FP.l2d nc)), v_, iv 1] [(.ref a1)])) rfl rfl (hb hby own_dre12PT_41)
  refine own_s T51 (mkF m 44 #[rv a1, .val (.double (FP.l2d nc)), v_, iv 1] [(.int (-1))]) st51 ?_
  refine own_s T51 (mkF m 61 #[rv a1, .val (.double (FP.l2d nc)), v_, iv 1] [(.int 1), (.ref a1)]) (fun _ k => XS.ifYes X51.here hx rfl (pc0 := 44) (pc' := 59) rfl (hb hby own_dre12PT_44) rfl ((if0 _ _).trans (tlt (by decide : ((-1 : Int32) < (0 : Int32)))).1) (by decide) (by decide) (XS.aloadN X51.here hx rfl (hb hby own_dre12PT_59) rfl rfl (XS.iloadN X51.here hx rfl (hb hby own_dre12PT_60) rfl  k))) ?_
  obtain ⟨T52, h52, X52, e52, W52, st52⟩ := putF X51 hx hZ hown (host := "") (Or.inl (own_h hw 36 rfl)) Via.refl e51 f44 f37 (Or.inl (own_h hw 37 rfl)) (own_h hw 1 rfl) (ty := .int) (by decide) rfl rfl (g := (mkF m 61 #[rv a1, .val (.double (FP.l2d nc)), v_, iv 1] [(.int 1), (.ref a1)])) rfl rfl (hb hby own_dre12PT_61)
  have Fw52 := Fld.same W52 f44
  have f53 := Exa.wr W52 f37
  have f54 := Fld.other W52 f38 (Or.inr (slot_ne (Or.inr (own_h hw 10 rfl)) (Or.inl (own_h hw 37 rfl)) (by decide) (t := .int) (t' := .int) (by decide) (by decide)))
  have f55 := Fld.other W52 f39 (Or.inr (slot_ne (Or.inr (own_h hw 13 rfl)) (Or.inl (own_h hw 37 rfl)) (by decide) (t := (.array .double)) (t' := .int) (by decide) (by decide)))
  have f56 := Fld.other W52 f40 (Or.inr (slot_ne (Or.inr (own_h hw 15 rfl)) (Or.inl (own_h hw 37 rfl)) (by decide) (t := (.array .double)) (t' := .int) (by decide) (by decide)))
  have f57 := Fld.other W52 f41 (Or.inr (slot_ne (Or.inr (own_h hw 18 rfl)) (Or.inl (own_h hw 37 rfl)) (by decide) (t := (.array .long)) (t' := .int) (by decide) (by decide)))
  have f58 := Fld.other W52 f42 (Or.inr (slot_ne (Or.inr (own_h hw 21 rfl)) (Or.inl (own_h hw 37 rfl)) (by decide) (t := (.array .int)) (t' := .int) (by decide) (by decide)))
  have f59 := Fld.other W52 f43 (Or.inr (slot_ne (Or.inl (own_h hw 33 rfl)) (Or.inl (own_h hw 37 rfl)) (by decide) (t := .long) (t' := .int) (by decide) (by decide)))
  have f60 := Fld.other W52 Fw36 (Or.inr (slot_ne (Or.inl (own_h hw 35 rfl)) (Or.inl (own_h hw 37 rfl)) (by decide) (t := .int) (t' := .int) (by decide) (by decide)))
  have f61 := Fld.other W52 f45 (Or.inr (slot_ne (Or.inl (own_h hw 39 rfl)) (Or.inl (own_h hw 37 rfl)) (by decide) (t := .int) (t' := .int) (by decide) (by decide)))
  have f62 := f46.other W52 (Ne.symm ne_a1_wA)
  have f63 := f47.other W52 (Ne.symm ne_a1_bA)
  have f64 := f48.other W52 (Ne.symm ne_a1_sA)
  have f65 := f49.other W52 (Ne.symm ne_a1_hA)
  have K52 : Keep h0 h52 [a1, wA, bA, sA, hA] := K36.wr W52 (Or.inl (List.mem_of_getElem? (i := 0) rfl))
  have Z52 := Nat.le_trans Z36 (Nat.le_of_eq W52.size.symm)
  have N52 := Fr.snoc X52 N36 g_a1
  refine own_s T52 (mkF m 64 #[rv a1, .val (.double (FP.l2d nc)), v_, iv 1] []) st52 ?_
  refine own_s T52 (mkF m 65 #[rv a1, .val (.double (FP.l2d nc)), v_, iv 1] [(.double (FP.l2d nc))]) (fun _ k => XS.dloadN X52.here hx rfl (hb hby own_dre12PT_64) rfl  k) ?_
  have mg66 := own_mgLit (0 : Int64) (K := 0) rfl rfl
  refine own_s T52 (mkF m 94 #[rv a1, .val (.double (FP.l2d nc)), v_, iv 1] [(.int 0), (.ref a1)]) (fun _ k => XS.dconst0 X52.here hx rfl (hb hby own_dre12PT_65) own_dc0 (XS.dcmpS X52.here hx rfl (hb hby own_dre12PT_66) rfl (dcmpV_w (own_mgB m_nc (by decide)) (own_mgB mg66 (by decide)) _) (XS.ifYes X52.here hx rfl (pc0 := 67) (pc' := 92) rfl (hb hby own_dre12PT_67) rfl ((if0 _ _).trans (tlt (own_lcgt hc)).2.2.1) (by decide) (by decide) (XS.aloadN X52.here hx rfl (hb hby own_dre12PT_92) rfl rfl (XS.iconst X52.here hx rfl (hb hby own_dre12PT_93) k))))) ?_
  obtain ⟨v67, T67, L67, X67, hQ67, st67⟩ := own_callP X52 hx hZ (y := own_y2) (W := 0) (a := a1) hown (own_h hw 64 rfl) (own_h hw 65 rfl) (own_h hw 1 rfl) (own_h hw 66 rfl) (own_h hw 2 rfl) (own_h hw 67 rfl) (by decide) (own_rms21T l Z a0 hw [] a1 wA bA sA hA kw kb ks kh reach w0 w1 b0 nc s0 fg fg (rk + (1 : Int32)) (1 : Int32) h52 n0 Z52 ⟨f53, f54, f55, f56, f57, f58, f59, f60, Fw52, f61, f62, f63, f64, f65⟩ hNE hGE m_w0 m_w1 m_b0 m_nc hb0 hc hw0 hw1 hld) (by decide) (by decide) f53 (g := (mkF m 94 #[rv a1, .val (.double (FP.l2d nc)), v_, iv 1] [(.int 0), (.ref a1)])) rfl (by rw [hml]; rfl) (argsL := [(.int 0)]) (rest := []) rfl (lenOf own_pd2 rfl) rfl (by show 2 * 0 + _ ≤ _; exact Nat.le_of_eq rfl) (hb hby own_dre12PT_94) e52 (by decide) (by decide)
  obtain ⟨rfl, Nq67, Kq67, hq67⟩ := hQ67
  have N67 := Fr.app N52 Nq67
  have K67 : Keep h0 T67.heap [a1, wA, bA, sA, hA] := K52.trans Kq67 (allS (Or.inl (List.mem_of_getElem? (i := 0) rfl)) (allS (Or.inl (List.mem_of_getElem? (i := 1) rfl)) (allS (Or.inl (List.mem_of_getElem? (i := 2) rfl)) (allS (Or.inl (List.mem_of_getElem? (i := 3) rfl)) (allS (Or.inl (List.mem_of_getElem? (i := 4) rfl)) all0)))))
  have Z67 := Nat.le_trans Z52 Kq67.1
  obtain ⟨u68_0, u68_1, u68_2, u68_3, u68_4, u68_5, u68_6, u68_7, u68_8, u68_9, u68_10, u68_11, u68_12, u68_13⟩ := id hq67
  refine own_s T67 (mkF m 97 #[rv a1, .val (.double (FP.l2d nc)), v_, iv 1] []) st67 ?_
  exact own_finV X67 hx hret (hb hby own_dre12PT_97) (own_end (Qv := (own_Qre12PT Z a1 wA bA sA hA kw kb ks kh reach w0 w1 b0 b1 s0 s1 fg rk nc h0 n0)) X67 (fun _ => rfl) hlk (by decide) (by decide) rfl ⟨rfl, N67, K67, ⟨u68_0, u68_1, u68_2, u68_3, u68_4, u68_5, u68_6, u68_7, u68_8, u68_9, u68_10, u68_11, u68_12, u68_13⟩⟩)
theorem own_dre12PF_0 : decode prog_47_method_7_code 0 = .ok (.aload_n 0, 1) := by decide +kernel
theorem own_dre12PF_1 : decode prog_47_method_7_code 1 = .ok (.getfield 24, 3) := by decide +kernel
theorem own_dre12PF_4 : decode prog_47_method_7_code 4 = .ok (.iconst 0, 1) := by decide +kernel
theorem own_dre12PF_5 : decode prog_47_method_7_code 5 = .ok (.iaload, 1) := by decide +kernel
theorem own_dre12PF_6 : decode prog_47_method_7_code 6 = .ok (.istore_n 3, 1) := by decide +kernel
theorem own_dre12PF_7 : decode prog_47_method_7_code 7 = .ok (.aload_n 0, 1) := by decide +kernel
theorem own_dre12PF_8 : decode prog_47_method_7_code 8 = .ok (.getfield 17, 3) := by decide +kernel
theorem own_dre12PF_11 : decode prog_47_method_7_code 11 = .ok (.iload_n 3, 1) := by decide +kernel
theorem own_dre12PF_12 : decode prog_47_method_7_code 12 = .ok (.dload_n 1, 1) := by decide +kernel
theorem own_dre12PF_13 : decode prog_47_method_7_code 13 = .ok (.dastore, 1) := by decide +kernel
theorem own_dre12PF_14 : decode prog_47_method_7_code 14 = .ok (.aload_n 0, 1) := by decide +kernel
theorem own_dre12PF_15 : decode prog_47_method_7_code 15 = .ok (.getfield 20, 3) := by decide +kernel
theorem own_dre12PF_18 : decode prog_47_method_7_code 18 = .ok (.iload_n 3, 1) := by decide +kernel
theorem own_dre12PF_19 : decode prog_47_method_7_code 19 = .ok (.aload_n 0, 1) := by decide +kernel
theorem own_dre12PF_20 : decode prog_47_method_7_code 20 = .ok (.getfield 34, 3) := by decide +kernel
theorem own_dre12PF_23 : decode prog_47_method_7_code 23 = .ok (.lastore, 1) := by decide +kernel
theorem own_dre12PF_24 : decode prog_47_method_7_code 24 = .ok (.aload_n 0, 1) := by decide +kernel
theorem own_dre12PF_25 : decode prog_47_method_7_code 25 = .ok (.dup, 1) := by decide +kernel
theorem own_dre12PF_26 : decode prog_47_method_7_code 26 = .ok (.getfield 42, 3) := by decide +kernel
theorem own_dre12PF_29 : decode prog_47_method_7_code 29 = .ok (.iconst 1, 1) := by decide +kernel
theorem own_dre12PF_30 : decode prog_47_method_7_code 30 = .ok (.iadd, 1) := by decide +kernel
theorem own_dre12PF_31 : decode prog_47_method_7_code 31 = .ok (.putfield 42, 3) := by decide +kernel
theorem own_dre12PF_34 : decode prog_47_method_7_code 34 = .ok (.dload_n 1, 1) := by decide +kernel
theorem own_dre12PF_35 : decode prog_47_method_7_code 35 = .ok (.dconst 0, 1) := by decide +kernel
theorem own_dre12PF_36 : decode prog_47_method_7_code 36 = .ok (.dcmp .l, 1) := by decide +kernel
theorem own_dre12PF_37 : decode prog_47_method_7_code 37 = .ok (.ifCond .le 27, 3) := by decide +kernel
theorem own_dre12PF_40 : decode prog_47_method_7_code 40 = .ok (.aload_n 0, 1) := by decide +kernel
theorem own_dre12PF_41 : decode prog_47_method_7_code 41 = .ok (.getfield 45, 3) := by decide +kernel
theorem own_dre12PF_44 : decode prog_47_method_7_code 44 = .ok (.ifCond .lt 15, 3) := by decide +kernel
theorem own_dre12PF_59 : decode prog_47_method_7_code 59 = .ok (.aload_n 0, 1) := by decide +kernel
theorem own_dre12PF_60 : decode prog_47_method_7_code 60 = .ok (.iload_n 3, 1) := by decide +kernel
theorem own_dre12PF_61 : decode prog_47_method_7_code 61 = .ok (.putfield 45, 3) := by decide +kernel
theorem own_dre12PF_64 : decode prog_47_method_7_code 64 = .ok (.dload_n 1, 1) := by decide +kernel
theorem own_dre12PF_65 : decode prog_47_method_7_code 65 = .ok (.dconst 0, 1) := by decide +kernel
theorem own_dre12PF_66 : decode prog_47_method_7_code 66 = .ok (.dcmp .g, 1) := by decide +kernel
theorem own_dre12PF_67 : decode prog_47_method_7_code 67 = .ok (.ifCond .gt 25, 3) := by decide +kernel
theorem own_dre12PF_92 : decode prog_47_method_7_code 92 = .ok (.aload_n 0, 1) := by decide +kernel
theorem own_dre12PF_93 : decode prog_47_method_7_code 93 = .ok (.iconst 0, 1) := by decide +kernel
theorem own_dre12PF_94 : decode prog_47_method_7_code 94 = .ok (.invokevirtual 52, 3) := by decide +kernel
theorem own_dre12PF_97 : decode prog_47_method_7_code 97 = .ok (.return_, 1) := by decide +kernel
theorem own_efre12PF (m : MethodId) (x0 : Addr) (x1 : UInt64) : entryFrame m #[(.ref x0), (.double x1)] 4 = mkF m 0 #[rv x0, .val (.double x1), v_, u_] [] := by first | (simp [entryFrame, mkF, argsToLocals, Value.category]; done) | rfl
def own_Qre12PF (Z : State) (a1 : Addr) (wA bA sA hA : Addr) (kw kb ks kh : ClassId) (reach : Int32) (w0 : Int64) (w1 : Int64) (b0 : Int64) (b1 : Int64) (s0 : Int64) (s1 : Int64) (fg : Int64) (rk : Int32) (nc : Int64) (h0 : Heap) (n0 : Nat) : Option Value → Heap → List Loc → Prop := fun v h L => v = none ∧ Fr n0 L ∧ Keep h0 h [a1, wA, bA, sA, hA] ∧ own_CQ Z h a1 wA bA sA hA kw kb ks kh reach w0 w1 b0 nc s0 fg (1 : Int32) (0 : Int32) fg (rk + (1 : Int32)) (1 : Int32) (2 : Int32)
def own_Rre12PF : Room := { frames := 2, cells := 0, slots := 0, locals := 36 }
set_option maxRecDepth 65536 in
set_option maxHeartbeats 40000000 in
theorem own_rmre12PF (l : Launch) (Z : State) (a0 : Array Value) (hw : ∀ d ∈ tables_1, d.before a0 Z = true) (ws : List Jvm.Cond) (a1 : Addr) (wA bA sA hA : Addr) (kw kb ks kh : ClassId) (reach : Int32) (w0 : Int64) (w1 : Int64) (b0 : Int64) (b1 : Int64) (s0 : Int64) (s1 : Int64) (fg : Int64) (rk : Int32) (nc : Int64) (h0 : Heap) (n0 : Nat) (Z0 : n0 ≤ h0.size) (hCQ : own_CQ Z h0 a1 wA bA sA hA kw kb ks kh reach w0 w1 b0 b1 s0 s1 (1 : Int32) (0 : Int32) fg rk (-1 : Int32) (2 : Int32)) (hNE : own_NE a1 wA bA sA hA) (hGE : own_GE n0 a1 wA bA sA hA) (m_w0 : own_Mg 8 w0) (m_w1 : own_Mg 8 w1) (m_b0 : own_Mg 8 b0) (m_b1 : own_Mg 8 b1) (m_nc : own_Mg 8 nc) (hc : (0 : Int64) < nc) (hb0 : (0 : Int64) < b0) (hw0 : ¬ w0 < (0 : Int64)) (hw1 : ¬ w1 < (0 : Int64)) (hld : (own_ld (b0 * w1) (nc * w0) (0 : Int32) (1 : Int32)) = false) :
    own_Met l Z own_y6 prog_47_method_7_code 4 none ws own_Rre12PF h0 #[(.ref a1), (.double (FP.l2d nc))] (own_Qre12PF Z a1 wA bA sA hA kw kb ks kh reach w0 w1 b0 b1 s0 s1 fg rk nc h0 n0) own_Rre12PF.cells own_Rre12PF.slots := by
  refine own_start (plainFor_of_name own_pn0) ?_
  intro p e s m below meth c s₁ X0 hx hZ hby hml hret hlk hown hnm e0
  have hown : s.vm.findClass "com/example/allotrope/allotrope/procure/CoverQueue" = some m.cls := hown
  have hml : c.maxLocals = 4 := hml
  have N0 := Fr.nil n0
  refine own_cast (own_efre12PF m a1 (FP.l2d nc)) ?_
  obtain ⟨ne_a1_wA, ne_a1_bA, ne_a1_sA, ne_a1_hA, ne_wA_bA, ne_wA_sA, ne_wA_hA, ne_bA_sA, ne_bA_hA, ne_sA_hA⟩ := id hNE
  obtain ⟨g_a1, g_wA, g_bA, g_sA, g_hA⟩ := id hGE
  obtain ⟨u1_0, u1_1, u1_2, u1_3, u1_4, u1_5, u1_6, u1_7, u1_8, u1_9, u1_10, u1_11, u1_12, u1_13⟩ := id hCQ
  refine own_s s₁ (mkF m 1 #[rv a1, .val (.double (FP.l2d nc)), v_, u_] [(.ref a1)]) (fun _ k => XS.aloadN X0.here hx rfl (hb hby own_dre12PF_0) rfl rfl k) ?_
  obtain ⟨T2, X2, e2, st2⟩ := getF X0 hx hZ hown (host := "") (Or.inl (own_h hw 20 rfl)) Via.refl e0 u1_5 (g := (mkF m 1 #[rv a1, .val (.double (FP.l2d nc)), v_, u_] [(.ref a1)])) rfl rfl (hb hby own_dre12PF_1)
  refine own_s T2 (mkF m 4 #[rv a1, .val (.double (FP.l2d nc)), v_, u_] [(.ref hA)]) st2 ?_
  refine own_s T2 (mkF m 5 #[rv a1, .val (.double (FP.l2d nc)), v_, u_] [(.int 0), (.ref hA)]) (fun _ k => XS.iconst X2.here hx rfl (hb hby own_dre12PF_4) k) ?_
  obtain ⟨cl3, Ar3, q3, S3, Nn3, H3, G3⟩ := id u1_13
  have hin3 : ¬ ((0 : Int32) < 0 ∨ cl3.slots.size ≤ ((0 : Int32)).toNatClampNeg) := (inb_of S3 ⟨by decide, by decide⟩)
  refine own_s T2 (mkF m 8 #[rv a1, .val (.double (FP.l2d nc)), v_, iv 1] [(.ref a1)]) (fun _ k => X2.iaload hx (j := (0 : Int32)) (v := (.int 1)) (own_at e2 Ar3.1) (State.isArrayOf_alike hZ.alike Ar3.2.1) Ar3.2.2 hin3 (Has.at H3 hin3 rfl) (g := (mkF m 5 #[rv a1, .val (.double (FP.l2d nc)), v_, u_] [(.int 0), (.ref hA)])) rfl rfl (hb hby own_dre12PF_5) _ (XS.istoreN X2.here hx rfl (hb hby own_dre12PF_6) rfl (l' := #[rv a1, .val (.double (FP.l2d nc)), v_, iv 1]) rfl (XS.aloadN X2.here hx rfl (hb hby own_dre12PF_7) rfl rfl k))) ?_
  obtain ⟨T4, X4, e4, st4⟩ := getF X2 hx hZ hown (host := "") (Or.inl (own_h hw 14 rfl)) Via.refl e2 u1_3 (g := (mkF m 8 #[rv a1, .val (.double (FP.l2d nc)), v_, iv 1] [(.ref a1)])) rfl rfl (hb hby own_dre12PF_8)
  refine own_s T4 (mkF m 11 #[rv a1, .val (.double (FP.l2d nc)), v_, iv 1] [(.ref bA)]) st4 ?_
  refine own_s T4 (mkF m 13 #[rv a1, .val (.double (FP.l2d nc)), v_, iv 1] [(.double (FP.l2d nc)), (.int 1), (.ref bA)]) (fun _ k => XS.iloadN X4.here hx rfl (hb hby own_dre12PF_11) rfl  (XS.dloadN X4.here hx rfl (hb hby own_dre12PF_12) rfl  k)) ?_
  obtain ⟨cl5, Ar5, q5, S5, Nn5, H5, G5⟩ := id u1_11
  have hin5 : ¬ ((1 : Int32) < 0 ∨ cl5.slots.size ≤ ((1 : Int32)).toNatClampNeg) := (inb_of S5 ⟨by decide, by decide⟩)
  obtain ⟨T5, h5, X5, e5, W5, st5⟩ := stD X4 hx hZ e4 Ar5 (j := (1 : Int32)) hin5 (g := (mkF m 13 #[rv a1, .val (.double (FP.l2d nc)), v_, iv 1] [(.double (FP.l2d nc)), (.int 1), (.ref bA)])) rfl rfl (hb hby own_dre12PF_13)
  have f5 : Arv Z h5 bA kb .double (2 : Int32) [(.double (FP.l2d b0)), (.double (FP.l2d nc))] (.double (FP.l2d 0)) := Arv.set Ar5 q5 S5 Nn5 H5 G5 rfl W5 1 rfl (Nat.le_of_ble_eq_true rfl)
  have f6 := Exa.wr W5 u1_0
  have f7 := Fld.other W5 u1_1 (Or.inl ne_a1_bA)
  have f8 := Fld.other W5 u1_2 (Or.inl ne_a1_bA)
  have f9 := Fld.other W5 u1_3 (Or.inl ne_a1_bA)
  have f10 := Fld.other W5 u1_4 (Or.inl ne_a1_bA)
  have f11 := Fld.other W5 u1_5 (Or.inl ne_a1_bA)
  have f12 := Fld.other W5 u1_6 (Or.inl ne_a1_bA)
  have f13 := Fld.other W5 u1_7 (Or.inl ne_a1_bA)
  have f14 := Fld.other W5 u1_8 (Or.inl ne_a1_bA)
  have f15 := Fld.other W5 u1_9 (Or.inl ne_a1_bA)
  have f16 := u1_10.other W5 ne_wA_bA
  have f17 := u1_12.other W5 (Ne.symm ne_bA_sA)
  have f18 := u1_13.other W5 (Ne.symm ne_bA_hA)
  have K5 : Keep h0 h5 [a1, wA, bA, sA, hA] := (Keep.refl h0 [a1, wA, bA, sA, hA]).wr W5 (Or.inl (List.mem_of_getElem? (i := 2) rfl))
  have Z5 := Nat.le_trans Z0 (Nat.le_of_eq W5.size.symm)
  have N5 := Fr.snoc X5 N0 g_bA
  refine own_s T5 (mkF m 14 #[rv a1, .val (.double (FP.l2d nc)), v_, iv 1] []) st5 ?_
  refine own_s T5 (mkF m 15 #[rv a1, .val (.double (FP.l2d nc)), v_, iv 1] [(.ref a1)]) (fun _ k => XS.aloadN X5.here hx rfl (hb hby own_dre12PF_14) rfl rfl k) ?_
  obtain ⟨T19, X19, e19, st19⟩ := getF X5 hx hZ hown (host := "") (Or.inl (own_h hw 17 rfl)) Via.refl e5 f10 (g := (mkF m 15 #[rv a1, .val (.double (FP.l2d nc)), v_, iv 1] [(.ref a1)])) rfl rfl (hb hby own_dre12PF_15)
  refine own_s T19 (mkF m 18 #[rv a1, .val (.double (FP.l2d nc)), v_, iv 1] [(.ref sA)]) st19 ?_
  refine own_s T19 (mkF m 20 #[rv a1, .val (.double (FP.l2d nc)), v_, iv 1] [(.ref a1), (.int 1), (.ref sA)]) (fun _ k => XS.iloadN X19.here hx rfl (hb hby own_dre12PF_18) rfl  (XS.aloadN X19.here hx rfl (hb hby own_dre12PF_19) rfl rfl k)) ?_
  obtain ⟨T20, X20, e20, st20⟩ := getF X19 hx hZ hown (host := "") (Or.inl (own_h hw 32 rfl)) Via.refl e19 f12 (g := (mkF m 20 #[rv a1, .val (.double (FP.l2d nc)), v_, iv 1] [(.ref a1), (.int 1), (.ref sA)])) rfl rfl (hb hby own_dre12PF_20)
  refine own_s T20 (mkF m 23 #[rv a1, .val (.double (FP.l2d nc)), v_, iv 1] [(.long fg), (.int 1), (.ref sA)]) st20 ?_
  obtain ⟨cl21, Ar21, q21, S21, Nn21, H21, G21⟩ := id f17
  have hin21 : ¬ ((1 : Int32) < 0 ∨ cl21.slots.size ≤ ((1 : Int32)).toNatClampNeg) := (inb_of S21 ⟨by decide, by decide⟩)
  obtain ⟨T21, h21, X21, e21, W21, st21⟩ := stJ X20 hx hZ e20 Ar21 (j := (1 : Int32)) hin21 (g := (mkF m 23 #[rv a1, .val (.double (FP.l2d nc)), v_, iv 1] [(.long fg), (.int 1), (.ref sA)])) rfl rfl (hb hby own_dre12PF_23)
  have f21 : Arv Z h21 sA ks .long (2 : Int32) [(.long s0), (.long fg)] (.long 0) := Arv.set Ar21 q21 S21 Nn21 H21 G21 rfl W21 1 rfl (Nat.le_of_ble_eq_true rfl)
  have f22 := Exa.wr W21 f6
  have f23 := Fld.other W21 f7 (Or.inl ne_a1_sA)
  have f24 := Fld.other W21 f8 (Or.inl ne_a1_sA)
  have f25 := Fld.other W21 f9 (Or.inl ne_a1_sA)
  have f26 := Fld.other W21 f10 (Or.inl ne_a1_sA)
  have f27 := Fld.other W21 f11 (Or.inl ne_a1_sA)
  have f28 := Fld.other W21 f12 (Or.inl ne_a1_sA)
  have f29 := Fld.other W21 f13 (Or.inl ne_a1_sA)
  have f30 := Fld.other W21 f14 (Or.inl ne_a1_sA)
  have f31 := Fld.other W21 f15 (Or.inl ne_a1_sA)
  have f32 := f16.other W21 ne_wA_sA
  have f33 := f5.other W21 ne_bA_sA
  have f34 := f18.other W21 (Ne.symm ne_sA_hA)
  have K21 : Keep h0 h21 [a1, wA, bA, sA, hA] := K5.wr W21 (Or.inl (List.mem_of_getElem? (i := 3) rfl))
  have Z21 := Nat.le_trans Z5 (Nat.le_of_eq W21.size.symm)
  have N21 := Fr.snoc X21 N5 g_sA
  refine own_s T21 (mkF m 24 #[rv a1, .val (.double (FP.l2d nc)), v_, iv 1] []) st21 ?_
  refine own_s T21 (mkF m 26 #[rv a1, .val (.double (FP.l2d nc)), v_, iv 1] [(.ref a1), (.ref a1)]) (fun _ k => XS.aloadN X21.here hx rfl (hb hby own_dre12PF_24) rfl rfl (XS.dup X21.here hx rfl (hb hby own_dre12PF_25) rfl rfl k)) ?_
  obtain ⟨T35, X35, e35, st35⟩ := getF X21 hx hZ hown (host := "") (Or.inl (own_h hw 34 rfl)) Via.refl e21 f29 (g := (mkF m 26 #[rv a1, .val (.double (FP.l2d nc)), v_, iv 1] [(.ref a1), (.ref a1)])) rfl rfl (hb hby own_dre12PF_26)
  refine own_s T35 (mkF m 29 #[rv a1, .val (.double (FP.l2d nc)), v_, iv 1] [(.int rk), (.ref a1)]) st35 ?_
  refine own_s T35 (mkF m 31 #[rv a1, .val (.double (FP.l2d nc)), v_, iv 1] [(.int (rk + (1 : Int32))), (.ref a1)]) (fun _ k => XS.iconst X35.here hx rfl (hb hby own_dre12PF_29) (XS.iadd X35.here hx rfl (hb hby own_dre12PF_30) rfl k)) ?_
  obtain ⟨T36, h36, X36, e36, W36, st36⟩ := putF X35 hx hZ hown (host := "") (Or.inl (own_h hw 34 rfl)) Via.refl e35 f29 f22 (Or.inl (own_h hw 35 rfl)) (own_h hw 1 rfl) (ty := .int) (by decide) rfl rfl (g := (mkF m 31 #[rv a1, .val (.double (FP.l2d nc)), v_, iv 1] [(.int (rk + (1 : Int32))), (.ref a1)])) rfl rfl (hb hby own_dre12PF_31)
  have Fw36 := Fld.same W36 f29
  have f37 := Exa.wr W36 f22
  have f38 := Fld.other W36 f23 (Or.inr (slot_ne (Or.inr (own_h hw 10 rfl)) (Or.inl (own_h hw 35 rfl)) (by decide) (t := .int) (t' := .int) (by decide) (by decide)))
  have f39 := Fld.other W36 f24 (Or.inr (slot_ne (Or.inr (own_h hw 13 rfl)) (Or.inl (own_h hw 35 rfl)) (by decide) (t := (.array .double)) (t' := .int) (by decide) (by decide)))
  have f40 := Fld.other W36 f25 (Or.inr (slot_ne (Or.inr (own_h hw 15 rfl)) (Or.inl (own_h hw 35 rfl)) (by decide) (t := (.array .double)) (t' := .int) (by decide) (by decide)))
  have f41 := Fld.other W36 f26 (Or.inr (slot_ne (Or.inr (own_h hw 18 rfl)) (Or.inl (own_h hw 35 rfl)) (by decide) (t := (.array .long)) (t' := .int) (by decide) (by decide)))
  have f42 := Fld.other W36 f27 (Or.inr (slot_ne (Or.inr (own_h hw 21 rfl)) (Or.inl (own_h hw 35 rfl)) (by decide) (t := (.array .int)) (t' := .int) (by decide) (by decide)))
  have f43 := Fld.other W36 f28 (Or.inr (slot_ne (Or.inl (own_h hw 33 rfl)) (Or.inl (own_h hw 35 rfl)) (by decide) (t := .long) (t' := .int) (by decide) (by decide)))
  have f44 := Fld.other W36 f30 (Or.inr (slot_ne (Or.inl (own_h hw 37 rfl)) (Or.inl (own_h hw 35 rfl)) (by decide) (t := .int) (t' := .int) (by decide) (by decide)))
  have f45 := Fld.other W36 f31 (Or.inr (slot_ne (Or.inl (own_h hw 39 rfl)) (Or.inl (own_h hw 35 rfl)) (by decide) (t := .int) (t' := .int) (by decide) (by decide)))
  have f46 := f32.other W36 (Ne.symm ne_a1_wA)
  have f47 := f33.other W36 (Ne.symm ne_a1_bA)
  have f48 := f21.other W36 (Ne.symm ne_a1_sA)
  have f49 := f34.other W36 (Ne.symm ne_a1_hA)
  have K36 : Keep h0 h36 [a1, wA, bA, sA, hA] := K21.wr W36 (Or.inl (List.mem_of_getElem? (i := 0) rfl))
  have Z36 := Nat.le_trans Z21 (Nat.le_of_eq W36.size.symm)
  have N36 := Fr.snoc X36 N21 g_a1
  refine own_s T36 (mkF m 34 #[rv a1, .val (.double (FP.l2d nc)), v_, iv 1] []) st36 ?_
  refine own_s T36 (mkF m 35 #[rv a1, .val (.double (FP.l2d nc)), v_, iv 1] [(.double (FP.l2d nc))]) (fun _ k => XS.dloadN X36.here hx rfl (hb hby own_dre12PF_34) rfl  k) ?_
  have mg50 := own_mgLit (0 : Int64) (K := 0) rfl rfl
  refine own_s T36 (mkF m 41 #[rv a1, .val (.double (FP.l2d nc)), v_, iv 1] [(.ref a1)]) (fun _ k => XS.dconst0 X36.here hx rfl (hb hby own_dre12PF_35) own_dc0 (XS.dcmpS X36.here hx rfl (hb hby own_dre12PF_36) rfl (dcmpV_w (own_mgB m_nc (by decide)) (own_mgB mg50 (by decide)) _) (XS.ifNo X36.here hx rfl (hb hby own_dre12PF_37) rfl ((if0 _ _).trans (tlt (own_lcgt hc)).2.2.2) (XS.aloadN X36.here hx rfl (hb hby own_dre12PF_40) rfl rfl k)))) ?_
  obtain ⟨T51, X51, e51, st51⟩ := getF X36 hx hZ hown (host := "") (Or.inl (own_h hw 36 rfl)) Via.refl e36 f44 (g := (mkF m 41 #[rv a1, .val (.double (FP.l2d nc)), v_, iv 1] [(.ref a1)])) rfl rfl (hb hby own_dre12PF_41)
  refine own_s T51 (mkF m 44 #[rv a1, .val (.double (FP.l2d nc)), v_, iv 1] [(.int (-1))]) st51 ?_
  refine own_s T51 (mkF m 61 #[rv a1, .val (.double (FP.l2d nc)), v_, iv 1] [(.int 1), (.ref a1)]) (fun _ k => XS.ifYes X51.here hx rfl (pc0 := 44) (pc' := 59) rfl (hb hby own_dre12PF_44) rfl ((if0 _ _).trans (tlt (by decide : ((-1 : Int32) < (0 : Int32)))).1) (by decide) (by decide) (XS.aloadN X51.here hx rfl (hb hby own_dre12PF_59) rfl rfl (XS.iloadN X51.here hx rfl (hb hby own_dre12PF_60) rfl  k))) ?_
  obtain ⟨T52, h52, X52, e52, W52, st52⟩ := putF X51 hx hZ hown (host := "") (Or.inl (own_h hw 36 rfl)) Via.refl e51 f44 f37 (Or.inl (own_h hw 37 rfl)) (own_h hw 1 rfl) (ty := .int) (by decide) rfl rfl (g := (mkF m 61 #[rv a1, .val (.double (FP.l2d nc)), v_, iv 1] [(.int 1), (.ref a1)])) rfl rfl (hb hby own_dre12PF_61)
  have Fw52 := Fld.same W52 f44
  have f53 := Exa.wr W52 f37
  have f54 := Fld.other W52 f38 (Or.inr (slot_ne (Or.inr (own_h hw 10 rfl)) (Or.inl (own_h hw 37 rfl)) (by decide) (t := .int) (t' := .int) (by decide) (by decide)))
  have f55 := Fld.other W52 f39 (Or.inr (slot_ne (Or.inr (own_h hw 13 rfl)) (Or.inl (own_h hw 37 rfl)) (by decide) (t := (.array .double)) (t' := .int) (by decide) (by decide)))
  have f56 := Fld.other W52 f40 (Or.inr (slot_ne (Or.inr (own_h hw 15 rfl)) (Or.inl (own_h hw 37 rfl)) (by decide) (t := (.array .double)) (t' := .int) (by decide) (by decide)))
  have f57 := Fld.other W52 f41 (Or.inr (slot_ne (Or.inr (own_h hw 18 rfl)) (Or.inl (own_h hw 37 rfl)) (by decide) (t := (.array .long)) (t' := .int) (by decide) (by decide)))
  have f58 := Fld.other W52 f42 (Or.inr (slot_ne (Or.inr (own_h hw 21 rfl)) (Or.inl (own_h hw 37 rfl)) (by decide) (t := (.array .int)) (t' := .int) (by decide) (by decide)))
  have f59 := Fld.other W52 f43 (Or.inr (slot_ne (Or.inl (own_h hw 33 rfl)) (Or.inl (own_h hw 37 rfl)) (by decide) (t := .long) (t' := .int) (by decide) (by decide)))
  have f60 := Fld.other W52 Fw36 (Or.inr (slot_ne (Or.inl (own_h hw 35 rfl)) (Or.inl (own_h hw 37 rfl)) (by decide) (t := .int) (t' := .int) (by decide) (by decide)))
  have f61 := Fld.other W52 f45 (Or.inr (slot_ne (Or.inl (own_h hw 39 rfl)) (Or.inl (own_h hw 37 rfl)) (by decide) (t := .int) (t' := .int) (by decide) (by decide)))
  have f62 := f46.other W52 (Ne.symm ne_a1_wA)
  have f63 := f47.other W52 (Ne.symm ne_a1_bA)
  have f64 := f48.other W52 (Ne.symm ne_a1_sA)
  have f65 := f49.other W52 (Ne.symm ne_a1_hA)
  have K52 : Keep h0 h52 [a1, wA, bA, sA, hA] := K36.wr W52 (Or.inl (List.mem_of_getElem? (i := 0) rfl))
  have Z52 := Nat.le_trans Z36 (Nat.le_of_eq W52.size.symm)
  have N52 := Fr.snoc X52 N36 g_a1
  refine own_s T52 (mkF m 64 #[rv a1, .val (.double (FP.l2d nc)), v_, iv 1] []) st52 ?_
  refine own_s T52 (mkF m 65 #[rv a1, .val (.double (FP.l2d nc)), v_, iv 1] [(.double (FP.l2d nc))]) (fun _ k => XS.dloadN X52.here hx rfl (hb hby own_dre12PF_64) rfl  k) ?_
  have mg66 := own_mgLit (0 : Int64) (K := 0) rfl rfl
  refine own_s T52 (mkF m 94 #[rv a1, .val (.double (FP.l2d nc)), v_, iv 1] [(.int 0), (.ref a1)]) (fun _ k => XS.dconst0 X52.here hx rfl (hb hby own_dre12PF_65) own_dc0 (XS.dcmpS X52.here hx rfl (hb hby own_dre12PF_66) rfl (dcmpV_w (own_mgB m_nc (by decide)) (own_mgB mg66 (by decide)) _) (XS.ifYes X52.here hx rfl (pc0 := 67) (pc' := 92) rfl (hb hby own_dre12PF_67) rfl ((if0 _ _).trans (tlt (own_lcgt hc)).2.2.1) (by decide) (by decide) (XS.aloadN X52.here hx rfl (hb hby own_dre12PF_92) rfl rfl (XS.iconst X52.here hx rfl (hb hby own_dre12PF_93) k))))) ?_
  obtain ⟨v67, T67, L67, X67, hQ67, st67⟩ := own_callP X52 hx hZ (y := own_y2) (W := 0) (a := a1) hown (own_h hw 64 rfl) (own_h hw 65 rfl) (own_h hw 1 rfl) (own_h hw 66 rfl) (own_h hw 2 rfl) (own_h hw 67 rfl) (by decide) (own_rms21F l Z a0 hw [] a1 wA bA sA hA kw kb ks kh reach w0 w1 b0 nc s0 fg fg (rk + (1 : Int32)) (1 : Int32) h52 n0 Z52 ⟨f53, f54, f55, f56, f57, f58, f59, f60, Fw52, f61, f62, f63, f64, f65⟩ hNE hGE m_w0 m_w1 m_b0 m_nc hb0 hc hw0 hw1 hld) (by decide) (by decide) f53 (g := (mkF m 94 #[rv a1, .val (.double (FP.l2d nc)), v_, iv 1] [(.int 0), (.ref a1)])) rfl (by rw [hml]; rfl) (argsL := [(.int 0)]) (rest := []) rfl (lenOf own_pd2 rfl) rfl (by show 2 * 0 + _ ≤ _; exact Nat.le_of_eq rfl) (hb hby own_dre12PF_94) e52 (by decide) (by decide)
  obtain ⟨rfl, Nq67, Kq67, hq67⟩ := hQ67
  have N67 := Fr.app N52 Nq67
  have K67 : Keep h0 T67.heap [a1, wA, bA, sA, hA] := K52.trans Kq67 (allS (Or.inl (List.mem_of_getElem? (i := 0) rfl)) (allS (Or.inl (List.mem_of_getElem? (i := 1) rfl)) (allS (Or.inl (List.mem_of_getElem? (i := 2) rfl)) (allS (Or.inl (List.mem_of_getElem? (i := 3) rfl)) (allS (Or.inl (List.mem_of_getElem? (i := 4) rfl)) all0)))))
  have Z67 := Nat.le_trans Z52 Kq67.1
  obtain ⟨u68_0, u68_1, u68_2, u68_3, u68_4, u68_5, u68_6, u68_7, u68_8, u68_9, u68_10, u68_11, u68_12, u68_13⟩ := id hq67
  refine own_s T67 (mkF m 97 #[rv a1, .val (.double (FP.l2d nc)), v_, iv 1] []) st67 ?_
  exact own_finV X67 hx hret (hb hby own_dre12PF_97) (own_end (Qv := (own_Qre12PF Z a1 wA bA sA hA kw kb ks kh reach w0 w1 b0 b1 s0 s1 fg rk nc h0 n0)) X67 (fun _ => rfl) hlk (by decide) (by decide) rfl ⟨rfl, N67, K67, ⟨u68_0, u68_1, u68_2, u68_3, u68_4, u68_5, u68_6, u68_7, u68_8, u68_9, u68_10, u68_11, u68_12, u68_13⟩⟩)
theorem own_dre12N_0 : decode prog_47_method_7_code 0 = .ok (.aload_n 0, 1) := by decide +kernel
theorem own_dre12N_1 : decode prog_47_method_7_code 1 = .ok (.getfield 24, 3) := by decide +kernel
theorem own_dre12N_4 : decode prog_47_method_7_code 4 = .ok (.iconst 0, 1) := by decide +kernel
theorem own_dre12N_5 : decode prog_47_method_7_code 5 = .ok (.iaload, 1) := by decide +kernel
theorem own_dre12N_6 : decode prog_47_method_7_code 6 = .ok (.istore_n 3, 1) := by decide +kernel
theorem own_dre12N_7 : decode prog_47_method_7_code 7 = .ok (.aload_n 0, 1) := by decide +kernel
theorem own_dre12N_8 : decode prog_47_method_7_code 8 = .ok (.getfield 17, 3) := by decide +kernel
theorem own_dre12N_11 : decode prog_47_method_7_code 11 = .ok (.iload_n 3, 1) := by decide +kernel
theorem own_dre12N_12 : decode prog_47_method_7_code 12 = .ok (.dload_n 1, 1) := by decide +kernel
theorem own_dre12N_13 : decode prog_47_method_7_code 13 = .ok (.dastore, 1) := by decide +kernel
theorem own_dre12N_14 : decode prog_47_method_7_code 14 = .ok (.aload_n 0, 1) := by decide +kernel
theorem own_dre12N_15 : decode prog_47_method_7_code 15 = .ok (.getfield 20, 3) := by decide +kernel
theorem own_dre12N_18 : decode prog_47_method_7_code 18 = .ok (.iload_n 3, 1) := by decide +kernel
theorem own_dre12N_19 : decode prog_47_method_7_code 19 = .ok (.aload_n 0, 1) := by decide +kernel
theorem own_dre12N_20 : decode prog_47_method_7_code 20 = .ok (.getfield 34, 3) := by decide +kernel
theorem own_dre12N_23 : decode prog_47_method_7_code 23 = .ok (.lastore, 1) := by decide +kernel
theorem own_dre12N_24 : decode prog_47_method_7_code 24 = .ok (.aload_n 0, 1) := by decide +kernel
theorem own_dre12N_25 : decode prog_47_method_7_code 25 = .ok (.dup, 1) := by decide +kernel
theorem own_dre12N_26 : decode prog_47_method_7_code 26 = .ok (.getfield 42, 3) := by decide +kernel
theorem own_dre12N_29 : decode prog_47_method_7_code 29 = .ok (.iconst 1, 1) := by decide +kernel
theorem own_dre12N_30 : decode prog_47_method_7_code 30 = .ok (.iadd, 1) := by decide +kernel
theorem own_dre12N_31 : decode prog_47_method_7_code 31 = .ok (.putfield 42, 3) := by decide +kernel
theorem own_dre12N_34 : decode prog_47_method_7_code 34 = .ok (.dload_n 1, 1) := by decide +kernel
theorem own_dre12N_35 : decode prog_47_method_7_code 35 = .ok (.dconst 0, 1) := by decide +kernel
theorem own_dre12N_36 : decode prog_47_method_7_code 36 = .ok (.dcmp .l, 1) := by decide +kernel
theorem own_dre12N_37 : decode prog_47_method_7_code 37 = .ok (.ifCond .le 27, 3) := by decide +kernel
theorem own_dre12N_64 : decode prog_47_method_7_code 64 = .ok (.dload_n 1, 1) := by decide +kernel
theorem own_dre12N_65 : decode prog_47_method_7_code 65 = .ok (.dconst 0, 1) := by decide +kernel
theorem own_dre12N_66 : decode prog_47_method_7_code 66 = .ok (.dcmp .g, 1) := by decide +kernel
theorem own_dre12N_67 : decode prog_47_method_7_code 67 = .ok (.ifCond .gt 25, 3) := by decide +kernel
theorem own_dre12N_70 : decode prog_47_method_7_code 70 = .ok (.aload_n 0, 1) := by decide +kernel
theorem own_dre12N_71 : decode prog_47_method_7_code 71 = .ok (.getfield 24, 3) := by decide +kernel
theorem own_dre12N_74 : decode prog_47_method_7_code 74 = .ok (.iconst 0, 1) := by decide +kernel
theorem own_dre12N_75 : decode prog_47_method_7_code 75 = .ok (.aload_n 0, 1) := by decide +kernel
theorem own_dre12N_76 : decode prog_47_method_7_code 76 = .ok (.getfield 24, 3) := by decide +kernel
theorem own_dre12N_79 : decode prog_47_method_7_code 79 = .ok (.aload_n 0, 1) := by decide +kernel
theorem own_dre12N_80 : decode prog_47_method_7_code 80 = .ok (.dup, 1) := by decide +kernel
theorem own_dre12N_81 : decode prog_47_method_7_code 81 = .ok (.getfield 31, 3) := by decide +kernel
theorem own_dre12N_84 : decode prog_47_method_7_code 84 = .ok (.iconst 1, 1) := by decide +kernel
theorem own_dre12N_85 : decode prog_47_method_7_code 85 = .ok (.isub, 1) := by decide +kernel
theorem own_dre12N_86 : decode prog_47_method_7_code 86 = .ok (.dup_x1, 1) := by decide +kernel
theorem own_dre12N_87 : decode prog_47_method_7_code 87 = .ok (.putfield 31, 3) := by decide +kernel
theorem own_dre12N_90 : decode prog_47_method_7_code 90 = .ok (.iaload, 1) := by decide +kernel
theorem own_dre12N_91 : decode prog_47_method_7_code 91 = .ok (.iastore, 1) := by decide +kernel
theorem own_dre12N_92 : decode prog_47_method_7_code 92 = .ok (.aload_n 0, 1) := by decide +kernel
theorem own_dre12N_93 : decode prog_47_method_7_code 93 = .ok (.iconst 0, 1) := by decide +kernel
theorem own_dre12N_94 : decode prog_47_method_7_code 94 = .ok (.invokevirtual 52, 3) := by decide +kernel
theorem own_dre12N_97 : decode prog_47_method_7_code 97 = .ok (.return_, 1) := by decide +kernel
theorem own_efre12N (m : MethodId) (x0 : Addr) (x1 : UInt64) : entryFrame m #[(.ref x0), (.double x1)] 4 = mkF m 0 #[rv x0, .val (.double x1), v_, u_] [] := by first | (simp [entryFrame, mkF, argsToLocals, Value.category]; done) | rfl
def own_Qre12N (Z : State) (a1 : Addr) (wA bA sA hA : Addr) (kw kb ks kh : ClassId) (reach : Int32) (w0 : Int64) (w1 : Int64) (b0 : Int64) (b1 : Int64) (s0 : Int64) (s1 : Int64) (fg : Int64) (rk : Int32) (nc : Int64) (h0 : Heap) (n0 : Nat) : Option Value → Heap → List Loc → Prop := fun v h L => v = none ∧ Fr n0 L ∧ Keep h0 h [a1, wA, bA, sA, hA] ∧ own_CQ Z h a1 wA bA sA hA kw kb ks kh reach w0 w1 b0 nc s0 fg (0 : Int32) (0 : Int32) fg (rk + (1 : Int32)) (-1 : Int32) (1 : Int32)
def own_Rre12N : Room := { frames := 1, cells := 0, slots := 0, locals := 18 }
set_option maxRecDepth 65536 in
set_option maxHeartbeats 40000000 in
theorem own_rmre12N (l : Launch) (Z : State) (a0 : Array Value) (hw : ∀ d ∈ tables_1, d.before a0 Z = true) (ws : List Jvm.Cond) (a1 : Addr) (wA bA sA hA : Addr) (kw kb ks kh : ClassId) (reach : Int32) (w0 : Int64) (w1 : Int64) (b0 : Int64) (b1 : Int64) (s0 : Int64) (s1 : Int64) (fg : Int64) (rk : Int32) (nc : Int64) (h0 : Heap) (n0 : Nat) (Z0 : n0 ≤ h0.size) (hCQ : own_CQ Z h0 a1 wA bA sA hA kw kb ks kh reach w0 w1 b0 b1 s0 s1 (1 : Int32) (0 : Int32) fg rk (-1 : Int32) (2 : Int32)) (hNE : own_NE a1 wA bA sA hA) (hGE : own_GE n0 a1 wA bA sA hA) (m_w0 : own_Mg 8 w0) (m_w1 : own_Mg 8 w1) (m_b0 : own_Mg 8 b0) (m_b1 : own_Mg 8 b1) (m_nc : own_Mg 8 nc) (hc : ¬ (0 : Int64) < nc) :
    own_Met l Z own_y6 prog_47_method_7_code 4 none ws own_Rre12N h0 #[(.ref a1), (.double (FP.l2d nc))] (own_Qre12N Z a1 wA bA sA hA kw kb ks kh reach w0 w1 b0 b1 s0 s1 fg rk nc h0 n0) own_Rre12N.cells own_Rre12N.slots := by
  refine own_start (plainFor_of_name own_pn0) ?_
  intro p e s m below meth c s₁ X0 hx hZ hby hml hret hlk hown hnm e0
  have hown : s.vm.findClass "com/example/allotrope/allotrope/procure/CoverQueue" = some m.cls := hown
  have hml : c.maxLocals = 4 := hml
  have N0 := Fr.nil n0
  refine own_cast (own_efre12N m a1 (FP.l2d nc)) ?_
  obtain ⟨ne_a1_wA, ne_a1_bA, ne_a1_sA, ne_a1_hA, ne_wA_bA, ne_wA_sA, ne_wA_hA, ne_bA_sA, ne_bA_hA, ne_sA_hA⟩ := id hNE
  obtain ⟨g_a1, g_wA, g_bA, g_sA, g_hA⟩ := id hGE
  obtain ⟨u1_0, u1_1, u1_2, u1_3, u1_4, u1_5, u1_6, u1_7, u1_8, u1_9, u1_10, u1_11, u1_12, u1_13⟩ := id hCQ
  refine own_s s₁ (mkF m 1 #[rv a1, .val (.double (FP.l2d nc)), v_, u_] [(.ref a1)]) (fun _ k => XS.aloadN X0.here hx rfl (hb hby own_dre12N_0) rfl rfl k) ?_
  obtain ⟨T2, X2, e2, st2⟩ := getF X0 hx hZ hown (host := "") (Or.inl (own_h hw 20 rfl)) Via.refl e0 u1_5 (g := (mkF m 1 #[rv a1, .val (.double (FP.l2d nc)), v_, u_] [(.ref a1)])) rfl rfl (hb hby own_dre12N_1)
  refine own_s T2 (mkF m 4 #[rv a1, .val (.double (FP.l2d nc)), v_, u_] [(.ref hA)]) st2 ?_
  refine own_s T2 (mkF m 5 #[rv a1, .val (.double (FP.l2d nc)), v_, u_] [(.int 0), (.ref hA)]) (fun _ k => XS.iconst X2.here hx rfl (hb hby own_dre12N_4) k) ?_
  obtain ⟨cl3, Ar3, q3, S3, Nn3, H3, G3⟩ := id u1_13
  have hin3 : ¬ ((0 : Int32) < 0 ∨ cl3.slots.size ≤ ((0 : Int32)).toNatClampNeg) := (inb_of S3 ⟨by decide, by decide⟩)
  refine own_s T2 (mkF m 8 #[rv a1, .val (.double (FP.l2d nc)), v_, iv 1] [(.ref a1)]) (fun _ k => X2.iaload hx (j := (0 : Int32)) (v := (.int 1)) (own_at e2 Ar3.1) (State.isArrayOf_alike hZ.alike Ar3.2.1) Ar3.2.2 hin3 (Has.at H3 hin3 rfl) (g := (mkF m 5 #[rv a1, .val (.double (FP.l2d nc)), v_, u_] [(.int 0), (.ref hA)])) rfl rfl (hb hby own_dre12N_5) _ (XS.istoreN X2.here hx rfl (hb hby own_dre12N_6) rfl (l' := #[rv a1, .val (.double (FP.l2d nc)), v_, iv 1]) rfl (XS.aloadN X2.here hx rfl (hb hby own_dre12N_7) rfl rfl k))) ?_
  obtain ⟨T4, X4, e4, st4⟩ := getF X2 hx hZ hown (host := "") (Or.inl (own_h hw 14 rfl)) Via.refl e2 u1_3 (g := (mkF m 8 #[rv a1, .val (.double (FP.l2d nc)), v_, iv 1] [(.ref a1)])) rfl rfl (hb hby own_dre12N_8)
  refine own_s T4 (mkF m 11 #[rv a1, .val (.double (FP.l2d nc)), v_, iv 1] [(.ref bA)]) st4 ?_
  refine own_s T4 (mkF m 13 #[rv a1, .val (.double (FP.l2d nc)), v_, iv 1] [(.double (FP.l2d nc)), (.int 1), (.ref bA)]) (fun _ k => XS.iloadN X4.here hx rfl (hb hby own_dre12N_11) rfl  (XS.dloadN X4.here hx rfl (hb hby own_dre12N_12) rfl  k)) ?_
  obtain ⟨cl5, Ar5, q5, S5, Nn5, H5, G5⟩ := id u1_11
  have hin5 : ¬ ((1 : Int32) < 0 ∨ cl5.slots.size ≤ ((1 : Int32)).toNatClampNeg) := (inb_of S5 ⟨by decide, by decide⟩)
  obtain ⟨T5, h5, X5, e5, W5, st5⟩ := stD X4 hx hZ e4 Ar5 (j := (1 : Int32)) hin5 (g := (mkF m 13 #[rv a1, .val (.double (FP.l2d nc)), v_, iv 1] [(.double (FP.l2d nc)), (.int 1), (.ref bA)])) rfl rfl (hb hby own_dre12N_13)
  have f5 : Arv Z h5 bA kb .double (2 : Int32) [(.double (FP.l2d b0)), (.double (FP.l2d nc))] (.double (FP.l2d 0)) := Arv.set Ar5 q5 S5 Nn5 H5 G5 rfl W5 1 rfl (Nat.le_of_ble_eq_true rfl)
  have f6 := Exa.wr W5 u1_0
  have f7 := Fld.other W5 u1_1 (Or.inl ne_a1_bA)
  have f8 := Fld.other W5 u1_2 (Or.inl ne_a1_bA)
  have f9 := Fld.other W5 u1_3 (Or.inl ne_a1_bA)
  have f10 := Fld.other W5 u1_4 (Or.inl ne_a1_bA)
  have f11 := Fld.other W5 u1_5 (Or.inl ne_a1_bA)
  have f12 := Fld.other W5 u1_6 (Or.inl ne_a1_bA)
  have f13 := Fld.other W5 u1_7 (Or.inl ne_a1_bA)
  have f14 := Fld.other W5 u1_8 (Or.inl ne_a1_bA)
  have f15 := Fld.other W5 u1_9 (Or.inl ne_a1_bA)
  have f16 := u1_10.other W5 ne_wA_bA
  have f17 := u1_12.other W5 (Ne.symm ne_bA_sA)
  have f18 := u1_13.other W5 (Ne.symm ne_bA_hA)
  have K5 : Keep h0 h5 [a1, wA, bA, sA, hA] := (Keep.refl h0 [a1, wA, bA, sA, hA]).wr W5 (Or.inl (List.mem_of_getElem? (i := 2) rfl))
  have Z5 := Nat.le_trans Z0 (Nat.le_of_eq W5.size.symm)
  have N5 := Fr.snoc X5 N0 g_bA
  refine own_s T5 (mkF m 14 #[rv a1, .val (.double (FP.l2d nc)), v_, iv 1] []) st5 ?_
  refine own_s T5 (mkF m 15 #[rv a1, .val (.double (FP.l2d nc)), v_, iv 1] [(.ref a1)]) (fun _ k => XS.aloadN X5.here hx rfl (hb hby own_dre12N_14) rfl rfl k) ?_
  obtain ⟨T19, X19, e19, st19⟩ := getF X5 hx hZ hown (host := "") (Or.inl (own_h hw 17 rfl)) Via.refl e5 f10 (g := (mkF m 15 #[rv a1, .val (.double (FP.l2d nc)), v_, iv 1] [(.ref a1)])) rfl rfl (hb hby own_dre12N_15)
  refine own_s T19 (mkF m 18 #[rv a1, .val (.double (FP.l2d nc)), v_, iv 1] [(.ref sA)]) st19 ?_
  refine own_s T19 (mkF m 20 #[rv a1, .val (.double (FP.l2d nc)), v_, iv 1] [(.ref a1), (.int 1), (.ref sA)]) (fun _ k => XS.iloadN X19.here hx rfl (hb hby own_dre12N_18) rfl  (XS.aloadN X19.here hx rfl (hb hby own_dre12N_19) rfl rfl k)) ?_
  obtain ⟨T20, X20, e20, st20⟩ := getF X19 hx hZ hown (host := "") (Or.inl (own_h hw 32 rfl)) Via.refl e19 f12 (g := (mkF m 20 #[rv a1, .val (.double (FP.l2d nc)), v_, iv 1] [(.ref a1), (.int 1), (.ref sA)])) rfl rfl (hb hby own_dre12N_20)
  refine own_s T20 (mkF m 23 #[rv a1, .val (.double (FP.l2d nc)), v_, iv 1] [(.long fg), (.int 1), (.ref sA)]) st20 ?_
  obtain ⟨cl21, Ar21, q21, S21, Nn21, H21, G21⟩ := id f17
  have hin21 : ¬ ((1 : Int32) < 0 ∨ cl21.slots.size ≤ ((1 : Int32)).toNatClampNeg) := (inb_of S21 ⟨by decide, by decide⟩)
  obtain ⟨T21, h21, X21, e21, W21, st21⟩ := stJ X20 hx hZ e20 Ar21 (j := (1 : Int32)) hin21 (g := (mkF m 23 #[rv a1, .val (.double (FP.l2d nc)), v_, iv 1] [(.long fg), (.int 1), (.ref sA)])) rfl rfl (hb hby own_dre12N_23)
  have f21 : Arv Z h21 sA ks .long (2 : Int32) [(.long s0), (.long fg)] (.long 0) := Arv.set Ar21 q21 S21 Nn21 H21 G21 rfl W21 1 rfl (Nat.le_of_ble_eq_true rfl)
  have f22 := Exa.wr W21 f6
  have f23 := Fld.other W21 f7 (Or.inl ne_a1_sA)
  have f24 := Fld.other W21 f8 (Or.inl ne_a1_sA)
  have f25 := Fld.other W21 f9 (Or.inl ne_a1_sA)
  have f26 := Fld.other W21 f10 (Or.inl ne_a1_sA)
  have f27 := Fld.other W21 f11 (Or.inl ne_a1_sA)
  have f28 := Fld.other W21 f12 (Or.inl ne_a1_sA)
  have f29 := Fld.other W21 f13 (Or.inl ne_a1_sA)
  have f30 := Fld.other W21 f14 (Or.inl ne_a1_sA)
  have f31 := Fld.other W21 f15 (Or.inl ne_a1_sA)
  have f32 := f16.other W21 ne_wA_sA
  have f33 := f5.other W21 ne_bA_sA
  have f34 := f18.other W21 (Ne.symm ne_sA_hA)
  have K21 : Keep h0 h21 [a1, wA, bA, sA, hA] := K5.wr W21 (Or.inl (List.mem_of_getElem? (i := 3) rfl))
  have Z21 := Nat.le_trans Z5 (Nat.le_of_eq W21.size.symm)
  have N21 := Fr.snoc X21 N5 g_sA
  refine own_s T21 (mkF m 24 #[rv a1, .val (.double (FP.l2d nc)), v_, iv 1] []) st21 ?_
  refine own_s T21 (mkF m 26 #[rv a1, .val (.double (FP.l2d nc)), v_, iv 1] [(.ref a1), (.ref a1)]) (fun _ k => XS.aloadN X21.here hx rfl (hb hby own_dre12N_24) rfl rfl (XS.dup X21.here hx rfl (hb hby own_dre12N_25) rfl rfl k)) ?_
  obtain ⟨T35, X35, e35, st35⟩ := getF X21 hx hZ hown (host := "") (Or.inl (own_h hw 34 rfl)) Via.refl e21 f29 (g := (mkF m 26 #[rv a1, .val (.double (FP.l2d nc)), v_, iv 1] [(.ref a1), (.ref a1)])) rfl rfl (hb hby own_dre12N_26)
  refine own_s T35 (mkF m 29 #[rv a1, .val (.double (FP.l2d nc)), v_, iv 1] [(.int rk), (.ref a1)]) st35 ?_
  refine own_s T35 (mkF m 31 #[rv a1, .val (.double (FP.l2d nc)), v_, iv 1] [(.int (rk + (1 : Int32))), (.ref a1)]) (fun _ k => XS.iconst X35.here hx rfl (hb hby own_dre12N_29) (XS.iadd X35.here hx rfl (hb hby own_dre12N_30) rfl k)) ?_
  obtain ⟨T36, h36, X36, e36, W36, st36⟩ := putF X35 hx hZ hown (host := "") (Or.inl (own_h hw 34 rfl)) Via.refl e35 f29 f22 (Or.inl (own_h hw 35 rfl)) (own_h hw 1 rfl) (ty := .int) (by decide) rfl rfl (g := (mkF m 31 #[rv a1, .val (.double (FP.l2d nc)), v_, iv 1] [(.int (rk + (1 : Int32))), (.ref a1)])) rfl rfl (hb hby own_dre12N_31)
  have Fw36 := Fld.same W36 f29
  have f37 := Exa.wr W36 f22
  have f38 := Fld.other W36 f23 (Or.inr (slot_ne (Or.inr (own_h hw 10 rfl)) (Or.inl (own_h hw 35 rfl)) (by decide) (t := .int) (t' := .int) (by decide) (by decide)))
  have f39 := Fld.other W36 f24 (Or.inr (slot_ne (Or.inr (own_h hw 13 rfl)) (Or.inl (own_h hw 35 rfl)) (by decide) (t := (.array .double)) (t' := .int) (by decide) (by decide)))
  have f40 := Fld.other W36 f25 (Or.inr (slot_ne (Or.inr (own_h hw 15 rfl)) (Or.inl (own_h hw 35 rfl)) (by decide) (t := (.array .double)) (t' := .int) (by decide) (by decide)))
  have f41 := Fld.other W36 f26 (Or.inr (slot_ne (Or.inr (own_h hw 18 rfl)) (Or.inl (own_h hw 35 rfl)) (by decide) (t := (.array .long)) (t' := .int) (by decide) (by decide)))
  have f42 := Fld.other W36 f27 (Or.inr (slot_ne (Or.inr (own_h hw 21 rfl)) (Or.inl (own_h hw 35 rfl)) (by decide) (t := (.array .int)) (t' := .int) (by decide) (by decide)))
  have f43 := Fld.other W36 f28 (Or.inr (slot_ne (Or.inl (own_h hw 33 rfl)) (Or.inl (own_h hw 35 rfl)) (by decide) (t := .long) (t' := .int) (by decide) (by decide)))
  have f44 := Fld.other W36 f30 (Or.inr (slot_ne (Or.inl (own_h hw 37 rfl)) (Or.inl (own_h hw 35 rfl)) (by decide) (t := .int) (t' := .int) (by decide) (by decide)))
  have f45 := Fld.other W36 f31 (Or.inr (slot_ne (Or.inl (own_h hw 39 rfl)) (Or.inl (own_h hw 35 rfl)) (by decide) (t := .int) (t' := .int) (by decide) (by decide)))
  have f46 := f32.other W36 (Ne.symm ne_a1_wA)
  have f47 := f33.other W36 (Ne.symm ne_a1_bA)
  have f48 := f21.other W36 (Ne.symm ne_a1_sA)
  have f49 := f34.other W36 (Ne.symm ne_a1_hA)
  have K36 : Keep h0 h36 [a1, wA, bA, sA, hA] := K21.wr W36 (Or.inl (List.mem_of_getElem? (i := 0) rfl))
  have Z36 := Nat.le_trans Z21 (Nat.le_of_eq W36.size.symm)
  have N36 := Fr.snoc X36 N21 g_a1
  refine own_s T36 (mkF m 34 #[rv a1, .val (.double (FP.l2d nc)), v_, iv 1] []) st36 ?_
  refine own_s T36 (mkF m 35 #[rv a1, .val (.double (FP.l2d nc)), v_, iv 1] [(.double (FP.l2d nc))]) (fun _ k => XS.dloadN X36.here hx rfl (hb hby own_dre12N_34) rfl  k) ?_
  have mg50 := own_mgLit (0 : Int64) (K := 0) rfl rfl
  refine own_s T36 (mkF m 65 #[rv a1, .val (.double (FP.l2d nc)), v_, iv 1] [(.double (FP.l2d nc))]) (fun _ k => XS.dconst0 X36.here hx rfl (hb hby own_dre12N_35) own_dc0 (XS.dcmpS X36.here hx rfl (hb hby own_dre12N_36) rfl (dcmpV_w (own_mgB m_nc (by decide)) (own_mgB mg50 (by decide)) _) (XS.ifYes X36.here hx rfl (pc0 := 37) (pc' := 64) rfl (hb hby own_dre12N_37) rfl ((if0 _ _).trans (flt (own_lcgtN hc)).2.2.2) (by decide) (by decide) (XS.dloadN X36.here hx rfl (hb hby own_dre12N_64) rfl  k)))) ?_
  have mg51 := own_mgLit (0 : Int64) (K := 0) rfl rfl
  refine own_s T36 (mkF m 71 #[rv a1, .val (.double (FP.l2d nc)), v_, iv 1] [(.ref a1)]) (fun _ k => XS.dconst0 X36.here hx rfl (hb hby own_dre12N_65) own_dc0 (XS.dcmpS X36.here hx rfl (hb hby own_dre12N_66) rfl (dcmpV_w (own_mgB m_nc (by decide)) (own_mgB mg51 (by decide)) _) (XS.ifNo X36.here hx rfl (hb hby own_dre12N_67) rfl ((if0 _ _).trans (flt (own_lcgtN hc)).2.2.1) (XS.aloadN X36.here hx rfl (hb hby own_dre12N_70) rfl rfl k)))) ?_
  obtain ⟨T52, X52, e52, st52⟩ := getF X36 hx hZ hown (host := "") (Or.inl (own_h hw 20 rfl)) Via.refl e36 f42 (g := (mkF m 71 #[rv a1, .val (.double (FP.l2d nc)), v_, iv 1] [(.ref a1)])) rfl rfl (hb hby own_dre12N_71)
  refine own_s T52 (mkF m 74 #[rv a1, .val (.double (FP.l2d nc)), v_, iv 1] [(.ref hA)]) st52 ?_
  refine own_s T52 (mkF m 76 #[rv a1, .val (.double (FP.l2d nc)), v_, iv 1] [(.ref a1), (.int 0), (.ref hA)]) (fun _ k => XS.iconst X52.here hx rfl (hb hby own_dre12N_74) (XS.aloadN X52.here hx rfl (hb hby own_dre12N_75) rfl rfl k)) ?_
  obtain ⟨T53, X53, e53, st53⟩ := getF X52 hx hZ hown (host := "") (Or.inl (own_h hw 20 rfl)) Via.refl e52 f42 (g := (mkF m 76 #[rv a1, .val (.double (FP.l2d nc)), v_, iv 1] [(.ref a1), (.int 0), (.ref hA)])) rfl rfl (hb hby own_dre12N_76)
  refine own_s T53 (mkF m 79 #[rv a1, .val (.double (FP.l2d nc)), v_, iv 1] [(.ref hA), (.int 0), (.ref hA)]) st53 ?_
  refine own_s T53 (mkF m 81 #[rv a1, .val (.double (FP.l2d nc)), v_, iv 1] [(.ref a1), (.ref a1), (.ref hA), (.int 0), (.ref hA)]) (fun _ k => XS.aloadN X53.here hx rfl (hb hby own_dre12N_79) rfl rfl (XS.dup X53.here hx rfl (hb hby own_dre12N_80) rfl rfl k)) ?_
  obtain ⟨T54, X54, e54, st54⟩ := getF X53 hx hZ hown (host := "") (Or.inl (own_h hw 38 rfl)) Via.refl e53 f45 (g := (mkF m 81 #[rv a1, .val (.double (FP.l2d nc)), v_, iv 1] [(.ref a1), (.ref a1), (.ref hA), (.int 0), (.ref hA)])) rfl rfl (hb hby own_dre12N_81)
  refine own_s T54 (mkF m 84 #[rv a1, .val (.double (FP.l2d nc)), v_, iv 1] [(.int 2), (.ref a1), (.ref hA), (.int 0), (.ref hA)]) st54 ?_
  refine own_s T54 (mkF m 87 #[rv a1, .val (.double (FP.l2d nc)), v_, iv 1] [(.int 1), (.ref a1), (.int 1), (.ref hA), (.int 0), (.ref hA)]) (fun _ k => XS.iconst X54.here hx rfl (hb hby own_dre12N_84) (XS.isub X54.here hx rfl (hb hby own_dre12N_85) rfl (XS.dupX1 X54.here hx rfl (hb hby own_dre12N_86) rfl rfl rfl k))) ?_
  obtain ⟨T55, h55, X55, e55, W55, st55⟩ := putF X54 hx hZ hown (host := "") (Or.inl (own_h hw 38 rfl)) Via.refl e54 f45 f37 (Or.inl (own_h hw 39 rfl)) (own_h hw 1 rfl) (ty := .int) (by decide) rfl rfl (g := (mkF m 87 #[rv a1, .val (.double (FP.l2d nc)), v_, iv 1] [(.int 1), (.ref a1), (.int 1), (.ref hA), (.int 0), (.ref hA)])) rfl rfl (hb hby own_dre12N_87)
  have Fw55 := Fld.same W55 f45
  have f56 := Exa.wr W55 f37
  have f57 := Fld.other W55 f38 (Or.inr (slot_ne (Or.inr (own_h hw 10 rfl)) (Or.inl (own_h hw 39 rfl)) (by decide) (t := .int) (t' := .int) (by decide) (by decide)))
  have f58 := Fld.other W55 f39 (Or.inr (slot_ne (Or.inr (own_h hw 13 rfl)) (Or.inl (own_h hw 39 rfl)) (by decide) (t := (.array .double)) (t' := .int) (by decide) (by decide)))
  have f59 := Fld.other W55 f40 (Or.inr (slot_ne (Or.inr (own_h hw 15 rfl)) (Or.inl (own_h hw 39 rfl)) (by decide) (t := (.array .double)) (t' := .int) (by decide) (by decide)))
  have f60 := Fld.other W55 f41 (Or.inr (slot_ne (Or.inr (own_h hw 18 rfl)) (Or.inl (own_h hw 39 rfl)) (by decide) (t := (.array .long)) (t' := .int) (by decide) (by decide)))
  have f61 := Fld.other W55 f42 (Or.inr (slot_ne (Or.inr (own_h hw 21 rfl)) (Or.inl (own_h hw 39 rfl)) (by decide) (t := (.array .int)) (t' := .int) (by decide) (by decide)))
  have f62 := Fld.other W55 f43 (Or.inr (slot_ne (Or.inl (own_h hw 33 rfl)) (Or.inl (own_h hw 39 rfl)) (by decide) (t := .long) (t' := .int) (by decide) (by decide)))
  have f63 := Fld.other W55 Fw36 (Or.inr (slot_ne (Or.inl (own_h hw 35 rfl)) (Or.inl (own_h hw 39 rfl)) (by decide) (t := .int) (t' := .int) (by decide) (by decide)))
  have f64 := Fld.other W55 f44 (Or.inr (slot_ne (Or.inl (own_h hw 37 rfl)) (Or.inl (own_h hw 39 rfl)) (by decide) (t := .int) (t' := .int) (by decide) (by decide)))
  have f65 := f46.other W55 (Ne.symm ne_a1_wA)
  have f66 := f47.other W55 (Ne.symm ne_a1_bA)
  have f67 := f48.other W55 (Ne.symm ne_a1_sA)
  have f68 := f49.other W55 (Ne.symm ne_a1_hA)
  have K55 : Keep h0 h55 [a1, wA, bA, sA, hA] := K36.wr W55 (Or.inl (List.mem_of_getElem? (i := 0) rfl))
  have Z55 := Nat.le_trans Z36 (Nat.le_of_eq W55.size.symm)
  have N55 := Fr.snoc X55 N36 g_a1
  refine own_s T55 (mkF m 90 #[rv a1, .val (.double (FP.l2d nc)), v_, iv 1] [(.int 1), (.ref hA), (.int 0), (.ref hA)]) st55 ?_
  obtain ⟨cl69, Ar69, q69, S69, Nn69, H69, G69⟩ := id f68
  have hin69 : ¬ ((1 : Int32) < 0 ∨ cl69.slots.size ≤ ((1 : Int32)).toNatClampNeg) := (inb_of S69 ⟨by decide, by decide⟩)
  refine own_s T55 (mkF m 91 #[rv a1, .val (.double (FP.l2d nc)), v_, iv 1] [(.int 0), (.int 0), (.ref hA)]) (fun _ k => X55.iaload hx (j := (1 : Int32)) (v := (.int 0)) (own_at e55 Ar69.1) (State.isArrayOf_alike hZ.alike Ar69.2.1) Ar69.2.2 hin69 (Has.at H69 hin69 rfl) (g := (mkF m 90 #[rv a1, .val (.double (FP.l2d nc)), v_, iv 1] [(.int 1), (.ref hA), (.int 0), (.ref hA)])) rfl rfl (hb hby own_dre12N_90) _ k) ?_
  obtain ⟨cl70, Ar70, q70, S70, Nn70, H70, G70⟩ := id f68
  have hin70 : ¬ ((0 : Int32) < 0 ∨ cl70.slots.size ≤ ((0 : Int32)).toNatClampNeg) := (inb_of S70 ⟨by decide, by decide⟩)
  obtain ⟨T70, h70, X70, e70, W70, st70⟩ := stI X55 hx hZ e55 Ar70 (j := (0 : Int32)) hin70 (g := (mkF m 91 #[rv a1, .val (.double (FP.l2d nc)), v_, iv 1] [(.int 0), (.int 0), (.ref hA)])) rfl rfl (hb hby own_dre12N_91)
  have f70 : Arv Z h70 hA kh .int (2 : Int32) [(.int 0), (.int 0)] (.int 0) := Arv.set Ar70 q70 S70 Nn70 H70 G70 rfl W70 0 rfl (Nat.le_of_ble_eq_true rfl)
  have f71 := Exa.wr W70 f56
  have f72 := Fld.other W70 f57 (Or.inl ne_a1_hA)
  have f73 := Fld.other W70 f58 (Or.inl ne_a1_hA)
  have f74 := Fld.other W70 f59 (Or.inl ne_a1_hA)
  have f75 := Fld.other W70 f60 (Or.inl ne_a1_hA)
  have f76 := Fld.other W70 f61 (Or.inl ne_a1_hA)
  have f77 := Fld.other W70 f62 (Or.inl ne_a1_hA)
  have f78 := Fld.other W70 f63 (Or.inl ne_a1_hA)
  have f79 := Fld.other W70 f64 (Or.inl ne_a1_hA)
  have f80 := Fld.other W70 Fw55 (Or.inl ne_a1_hA)
  have f81 := f65.other W70 ne_wA_hA
  have f82 := f66.other W70 ne_bA_hA
  have f83 := f67.other W70 ne_sA_hA
  have K70 : Keep h0 h70 [a1, wA, bA, sA, hA] := K55.wr W70 (Or.inl (List.mem_of_getElem? (i := 4) rfl))
  have Z70 := Nat.le_trans Z55 (Nat.le_of_eq W70.size.symm)
  have N70 := Fr.snoc X70 N55 g_hA
  refine own_s T70 (mkF m 92 #[rv a1, .val (.double (FP.l2d nc)), v_, iv 1] []) st70 ?_
  refine own_s T70 (mkF m 94 #[rv a1, .val (.double (FP.l2d nc)), v_, iv 1] [(.int 0), (.ref a1)]) (fun _ k => XS.aloadN X70.here hx rfl (hb hby own_dre12N_92) rfl rfl (XS.iconst X70.here hx rfl (hb hby own_dre12N_93) k)) ?_
  obtain ⟨v84, T84, L84, X84, hQ84, st84⟩ := own_callP X70 hx hZ (y := own_y2) (W := 0) (a := a1) hown (own_h hw 64 rfl) (own_h hw 65 rfl) (own_h hw 1 rfl) (own_h hw 66 rfl) (own_h hw 2 rfl) (own_h hw 67 rfl) (by decide) (own_rms1 l Z a0 hw [] a1 wA bA sA hA kw kb ks kh reach w0 w1 b0 nc s0 fg (0 : Int32) (0 : Int32) fg (rk + (1 : Int32)) (-1 : Int32) h70 n0 Z70 ⟨f71, f72, f73, f74, f75, f76, f77, f78, f79, f80, f81, f82, f83, f70⟩ hNE hGE m_w0 m_w1 m_b0 m_nc) (by decide) (by decide) f71 (g := (mkF m 94 #[rv a1, .val (.double (FP.l2d nc)), v_, iv 1] [(.int 0), (.ref a1)])) rfl (by rw [hml]; rfl) (argsL := [(.int 0)]) (rest := []) rfl (lenOf own_pd2 rfl) rfl (by show 2 * 0 + _ ≤ _; exact Nat.le_of_eq rfl) (hb hby own_dre12N_94) e70 (by decide) (by decide)
  obtain ⟨rfl, Nq84, Kq84, hq84⟩ := hQ84
  have N84 := Fr.app N70 Nq84
  have K84 : Keep h0 T84.heap [a1, wA, bA, sA, hA] := K70.trans Kq84 (allS (Or.inl (List.mem_of_getElem? (i := 0) rfl)) (allS (Or.inl (List.mem_of_getElem? (i := 1) rfl)) (allS (Or.inl (List.mem_of_getElem? (i := 2) rfl)) (allS (Or.inl (List.mem_of_getElem? (i := 3) rfl)) (allS (Or.inl (List.mem_of_getElem? (i := 4) rfl)) all0)))))
  have Z84 := Nat.le_trans Z70 Kq84.1
  obtain ⟨u85_0, u85_1, u85_2, u85_3, u85_4, u85_5, u85_6, u85_7, u85_8, u85_9, u85_10, u85_11, u85_12, u85_13⟩ := id hq84
  refine own_s T84 (mkF m 97 #[rv a1, .val (.double (FP.l2d nc)), v_, iv 1] []) st84 ?_
  exact own_finV X84 hx hret (hb hby own_dre12N_97) (own_end (Qv := (own_Qre12N Z a1 wA bA sA hA kw kb ks kh reach w0 w1 b0 b1 s0 s1 fg rk nc h0 n0)) X84 (fun _ => rfl) hlk (by decide) (by decide) rfl ⟨rfl, N84, K84, ⟨u85_0, u85_1, u85_2, u85_3, u85_4, u85_5, u85_6, u85_7, u85_8, u85_9, u85_10, u85_11, u85_12, u85_13⟩⟩)
def own_dc (sz : Int32) (x fg : Int64) (rk reach bs : Int32) : Bool := decide (sz = 0) || decide (x = fg) || (!decide (rk < reach) && !decide (bs < 0))
abbrev own_y7 : MethodName := ⟨"com/example/allotrope/allotrope/procure/CoverQueue", "decided", "()Z"⟩
theorem own_ddc0_0 : decode prog_47_method_5_code 0 = .ok (.aload_n 0, 1) := by decide +kernel
theorem own_ddc0_1 : decode prog_47_method_5_code 1 = .ok (.getfield 31, 3) := by decide +kernel
theorem own_ddc0_4 : decode prog_47_method_5_code 4 = .ok (.ifCond .eq 40, 3) := by decide +kernel
theorem own_ddc0_7 : decode prog_47_method_5_code 7 = .ok (.aload_n 0, 1) := by decide +kernel
theorem own_ddc0_8 : decode prog_47_method_5_code 8 = .ok (.getfield 20, 3) := by decide +kernel
theorem own_ddc0_11 : decode prog_47_method_5_code 11 = .ok (.aload_n 0, 1) := by decide +kernel
theorem own_ddc0_12 : decode prog_47_method_5_code 12 = .ok (.getfield 24, 3) := by decide +kernel
theorem own_ddc0_15 : decode prog_47_method_5_code 15 = .ok (.iconst 0, 1) := by decide +kernel
theorem own_ddc0_16 : decode prog_47_method_5_code 16 = .ok (.iaload, 1) := by decide +kernel
theorem own_ddc0_17 : decode prog_47_method_5_code 17 = .ok (.laload, 1) := by decide +kernel
theorem own_ddc0_18 : decode prog_47_method_5_code 18 = .ok (.aload_n 0, 1) := by decide +kernel
theorem own_ddc0_19 : decode prog_47_method_5_code 19 = .ok (.getfield 34, 3) := by decide +kernel
theorem own_ddc0_22 : decode prog_47_method_5_code 22 = .ok (.lcmp, 1) := by decide +kernel
theorem own_ddc0_23 : decode prog_47_method_5_code 23 = .ok (.ifCond .eq 21, 3) := by decide +kernel
theorem own_ddc0_26 : decode prog_47_method_5_code 26 = .ok (.aload_n 0, 1) := by decide +kernel
theorem own_ddc0_27 : decode prog_47_method_5_code 27 = .ok (.getfield 42, 3) := by decide +kernel
theorem own_ddc0_30 : decode prog_47_method_5_code 30 = .ok (.aload_n 0, 1) := by decide +kernel
theorem own_ddc0_31 : decode prog_47_method_5_code 31 = .ok (.getfield 7, 3) := by decide +kernel
theorem own_ddc0_34 : decode prog_47_method_5_code 34 = .ok (.if_icmp .lt 14, 3) := by decide +kernel
theorem own_ddc0_37 : decode prog_47_method_5_code 37 = .ok (.aload_n 0, 1) := by decide +kernel
theorem own_ddc0_38 : decode prog_47_method_5_code 38 = .ok (.getfield 45, 3) := by decide +kernel
theorem own_ddc0_41 : decode prog_47_method_5_code 41 = .ok (.ifCond .lt 7, 3) := by decide +kernel
theorem own_ddc0_44 : decode prog_47_method_5_code 44 = .ok (.iconst 1, 1) := by decide +kernel
theorem own_ddc0_45 : decode prog_47_method_5_code 45 = .ok (.goto 4, 3) := by decide +kernel
theorem own_ddc0_48 : decode prog_47_method_5_code 48 = .ok (.iconst 0, 1) := by decide +kernel
theorem own_ddc0_49 : decode prog_47_method_5_code 49 = .ok (.ireturn, 1) := by decide +kernel
theorem own_efdc0 (m : MethodId) (x0 : Addr) : entryFrame m #[(.ref x0)] 1 = mkF m 0 #[rv x0] [] := by first | (simp [entryFrame, mkF, argsToLocals, Value.category]; done) | rfl
def own_Qdc0 (Z : State) (a1 : Addr) (wA bA sA hA : Addr) (kw kb ks kh : ClassId) (reach : Int32) (w0 : Int64) (w1 : Int64) (b0 : Int64) (b1 : Int64) (s0 : Int64) (s1 : Int64) (t1 : Int32) (fg : Int64) (rk : Int32) (bs : Int32) (sz : Int32) (h0 : Heap) (n0 : Nat) : Option Value → Heap → List Loc → Prop := fun v h L => v = some (.int (own_b (own_dc sz s0 fg rk reach bs))) ∧ Fr n0 L ∧ h = h0
def own_Rdc0 : Room := { frames := 0, cells := 0, slots := 0, locals := 0 }
set_option maxRecDepth 65536 in
set_option maxHeartbeats 40000000 in
theorem own_rmdc0 (l : Launch) (Z : State) (a0 : Array Value) (hw : ∀ d ∈ tables_1, d.before a0 Z = true) (ws : List Jvm.Cond) (a1 : Addr) (wA bA sA hA : Addr) (kw kb ks kh : ClassId) (reach : Int32) (w0 : Int64) (w1 : Int64) (b0 : Int64) (b1 : Int64) (s0 : Int64) (s1 : Int64) (t1 : Int32) (fg : Int64) (rk : Int32) (bs : Int32) (sz : Int32) (h0 : Heap) (n0 : Nat) (Z0 : n0 ≤ h0.size) (hCQ : own_CQ Z h0 a1 wA bA sA hA kw kb ks kh reach w0 w1 b0 b1 s0 s1 (0 : Int32) t1 fg rk bs sz) :
    own_Met l Z own_y7 prog_47_method_5_code 1 (some .boolean) ws own_Rdc0 h0 #[(.ref a1)] (own_Qdc0 Z a1 wA bA sA hA kw kb ks kh reach w0 w1 b0 b1 s0 s1 t1 fg rk bs sz h0 n0) own_Rdc0.cells own_Rdc0.slots := by
  refine own_start (plainFor_of_name own_pn0) ?_
  intro p e s m below meth c s₁ X0 hx hZ hby hml hret hlk hown hnm e0
  have hown : s.vm.findClass "com/example/allotrope/allotrope/procure/CoverQueue" = some m.cls := hown
  have hml : c.maxLocals = 1 := hml
  have N0 := Fr.nil n0
  refine own_cast (own_efdc0 m a1) ?_
  obtain ⟨u1_0, u1_1, u1_2, u1_3, u1_4, u1_5, u1_6, u1_7, u1_8, u1_9, u1_10, u1_11, u1_12, u1_13⟩ := id hCQ
  refine own_s s₁ (mkF m 1 #[rv a1] [(.ref a1)]) (fun _ k => XS.aloadN X0.here hx rfl (hb hby own_ddc0_0) rfl rfl k) ?_
  obtain ⟨T2, X2, e2, st2⟩ := getF X0 hx hZ hown (host := "") (Or.inl (own_h hw 38 rfl)) Via.refl e0 u1_9 (g := (mkF m 1 #[rv a1] [(.ref a1)])) rfl rfl (hb hby own_ddc0_1)
  refine own_s T2 (mkF m 4 #[rv a1] [(.int sz)]) st2 ?_
  by_cases c4 : sz = (0 : Int32)
  · refine own_s T2 (mkF m 49 #[rv a1] [(.int 1)]) (fun _ k => XS.ifYes X2.here hx rfl (pc0 := 4) (pc' := 44) rfl (hb hby own_ddc0_4) rfl ((if0 _ _).trans (teq c4).1) (by decide) (by decide) (XS.iconst X2.here hx rfl (hb hby own_ddc0_44) (XS.goto X2.here hx rfl (pc0 := 45) (pc' := 49) rfl (hb hby own_ddc0_45) (by decide) (by decide) k))) ?_
    exact own_finZ X2 hx (t := .boolean) hret (by simp) (z' := (1 : Int32)) rfl (hb hby own_ddc0_49) (own_end (Qv := (own_Qdc0 Z a1 wA bA sA hA kw kb ks kh reach w0 w1 b0 b1 s0 s1 t1 fg rk bs sz h0 n0)) X2 (own_some hret) hlk (by decide) (by decide) e2 ⟨by simp [own_dc, own_b, c4], N0, rfl⟩)
  · refine own_s T2 (mkF m 8 #[rv a1] [(.ref a1)]) (fun _ k => XS.ifNo X2.here hx rfl (hb hby own_ddc0_4) rfl ((if0 _ _).trans (feq c4).1) (XS.aloadN X2.here hx rfl (hb hby own_ddc0_7) rfl rfl k)) ?_
    obtain ⟨T3, X3, e3, st3⟩ := getF X2 hx hZ hown (host := "") (Or.inl (own_h hw 17 rfl)) Via.refl e2 u1_4 (g := (mkF m 8 #[rv a1] [(.ref a1)])) rfl rfl (hb hby own_ddc0_8)
    refine own_s T3 (mkF m 11 #[rv a1] [(.ref sA)]) st3 ?_
    refine own_s T3 (mkF m 12 #[rv a1] [(.ref a1), (.ref sA)]) (fun _ k => XS.aloadN X3.here hx rfl (hb hby own_ddc0_11) rfl rfl k) ?_
    obtain ⟨T4, X4, e4, st4⟩ := getF X3 hx hZ hown (host := "") (Or.inl (own_h hw 20 rfl)) Via.refl e3 u1_5 (g := (mkF m 12 #[rv a1] [(.ref a1), (.ref sA)])) rfl rfl (hb hby own_ddc0_12)
    refine own_s T4 (mkF m 15 #[rv a1] [(.ref hA), (.ref sA)]) st4 ?_
    refine own_s T4 (mkF m 16 #[rv a1] [(.int 0), (.ref hA), (.ref sA)]) (fun _ k => XS.iconst X4.here hx rfl (hb hby own_ddc0_15) k) ?_
    obtain ⟨cl5, Ar5, q5, S5, Nn5, H5, G5⟩ := id u1_13
    have hin5 : ¬ ((0 : Int32) < 0 ∨ cl5.slots.size ≤ ((0 : Int32)).toNatClampNeg) := (inb_of S5 ⟨by decide, by decide⟩)
    refine own_s T4 (mkF m 17 #[rv a1] [(.int 0), (.ref sA)]) (fun _ k => X4.iaload hx (j := (0 : Int32)) (v := (.int 0)) (own_at e4 Ar5.1) (State.isArrayOf_alike hZ.alike Ar5.2.1) Ar5.2.2 hin5 (Has.at H5 hin5 rfl) (g := (mkF m 16 #[rv a1] [(.int 0), (.ref hA), (.ref sA)])) rfl rfl (hb hby own_ddc0_16) _ k) ?_
    obtain ⟨cl6, Ar6, q6, S6, Nn6, H6, G6⟩ := id u1_12
    have hin6 : ¬ ((0 : Int32) < 0 ∨ cl6.slots.size ≤ ((0 : Int32)).toNatClampNeg) := (inb_of S6 ⟨by decide, by decide⟩)
    refine own_s T4 (mkF m 19 #[rv a1] [(.ref a1), (.long s0)]) (fun _ k => X4.laload hx (j := (0 : Int32)) (v := (.long s0)) (own_at e4 Ar6.1) (State.isArrayOf_alike hZ.alike Ar6.2.1) Ar6.2.2 hin6 (Has.at H6 hin6 rfl) (g := (mkF m 17 #[rv a1] [(.int 0), (.ref sA)])) rfl rfl (hb hby own_ddc0_17) _ (XS.aloadN X4.here hx rfl (hb hby own_ddc0_18) rfl rfl k)) ?_
    obtain ⟨T7, X7, e7, st7⟩ := getF X4 hx hZ hown (host := "") (Or.inl (own_h hw 32 rfl)) Via.refl e4 u1_6 (g := (mkF m 19 #[rv a1] [(.ref a1), (.long s0)])) rfl rfl (hb hby own_ddc0_19)
    refine own_s T7 (mkF m 22 #[rv a1] [(.long fg), (.long s0)]) st7 ?_
    refine own_s T7 (mkF m 23 #[rv a1] [(.int (lcmpW s0 fg))]) (fun _ k => XS.lcmp X7.here hx rfl (hb hby own_ddc0_22) rfl k) ?_
    by_cases c23 : s0 = fg
    · refine own_s T7 (mkF m 49 #[rv a1] [(.int 1)]) (fun _ k => XS.ifYes X7.here hx rfl (pc0 := 23) (pc' := 44) rfl (hb hby own_ddc0_23) rfl ((if0 _ _).trans (teq (own_lceq c23)).1) (by decide) (by decide) (XS.iconst X7.here hx rfl (hb hby own_ddc0_44) (XS.goto X7.here hx rfl (pc0 := 45) (pc' := 49) rfl (hb hby own_ddc0_45) (by decide) (by decide) k))) ?_
      exact own_finZ X7 hx (t := .boolean) hret (by simp) (z' := (1 : Int32)) rfl (hb hby own_ddc0_49) (own_end (Qv := (own_Qdc0 Z a1 wA bA sA hA kw kb ks kh reach w0 w1 b0 b1 s0 s1 t1 fg rk bs sz h0 n0)) X7 (own_some hret) hlk (by decide) (by decide) e7 ⟨by simp [own_dc, own_b, c4, c23], N0, rfl⟩)
    · refine own_s T7 (mkF m 27 #[rv a1] [(.ref a1)]) (fun _ k => XS.ifNo X7.here hx rfl (hb hby own_ddc0_23) rfl ((if0 _ _).trans (feq (own_lceqN c23)).1) (XS.aloadN X7.here hx rfl (hb hby own_ddc0_26) rfl rfl k)) ?_
      obtain ⟨T8, X8, e8, st8⟩ := getF X7 hx hZ hown (host := "") (Or.inl (own_h hw 34 rfl)) Via.refl e7 u1_7 (g := (mkF m 27 #[rv a1] [(.ref a1)])) rfl rfl (hb hby own_ddc0_27)
      refine own_s T8 (mkF m 30 #[rv a1] [(.int rk)]) st8 ?_
      refine own_s T8 (mkF m 31 #[rv a1] [(.ref a1), (.int rk)]) (fun _ k => XS.aloadN X8.here hx rfl (hb hby own_ddc0_30) rfl rfl k) ?_
      obtain ⟨T9, X9, e9, st9⟩ := getF X8 hx hZ hown (host := "") (Or.inl (own_h hw 9 rfl)) Via.refl e8 u1_1 (g := (mkF m 31 #[rv a1] [(.ref a1), (.int rk)])) rfl rfl (hb hby own_ddc0_31)
      refine own_s T9 (mkF m 34 #[rv a1] [(.int reach), (.int rk)]) st9 ?_
      by_cases c34 : rk < reach
      · refine own_s T9 (mkF m 49 #[rv a1] [(.int 0)]) (fun _ k => XS.icmpYes X9.here hx rfl (pc0 := 34) (pc' := 48) rfl (hb hby own_ddc0_34) rfl (tlt c34).1 (by decide) (by decide) (XS.iconst X9.here hx rfl (hb hby own_ddc0_48) k)) ?_
        exact own_finZ X9 hx (t := .boolean) hret (by simp) (z' := (0 : Int32)) rfl (hb hby own_ddc0_49) (own_end (Qv := (own_Qdc0 Z a1 wA bA sA hA kw kb ks kh reach w0 w1 b0 b1 s0 s1 t1 fg rk bs sz h0 n0)) X9 (own_some hret) hlk (by decide) (by decide) e9 ⟨by simp [own_dc, own_b, c4, c23, c34], N0, rfl⟩)
      · refine own_s T9 (mkF m 38 #[rv a1] [(.ref a1)]) (fun _ k => XS.icmpNo X9.here hx rfl (hb hby own_ddc0_34) rfl (flt c34).1 (XS.aloadN X9.here hx rfl (hb hby own_ddc0_37) rfl rfl k)) ?_
        obtain ⟨T10, X10, e10, st10⟩ := getF X9 hx hZ hown (host := "") (Or.inl (own_h hw 36 rfl)) Via.refl e9 u1_8 (g := (mkF m 38 #[rv a1] [(.ref a1)])) rfl rfl (hb hby own_ddc0_38)
        refine own_s T10 (mkF m 41 #[rv a1] [(.int bs)]) st10 ?_
        by_cases c41 : bs < (0 : Int32)
        · refine own_s T10 (mkF m 49 #[rv a1] [(.int 0)]) (fun _ k => XS.ifYes X10.here hx rfl (pc0 := 41) (pc' := 48) rfl (hb hby own_ddc0_41) rfl ((if0 _ _).trans (tlt c41).1) (by decide) (by decide) (XS.iconst X10.here hx rfl (hb hby own_ddc0_48) k)) ?_
          exact own_finZ X10 hx (t := .boolean) hret (by simp) (z' := (0 : Int32)) rfl (hb hby own_ddc0_49) (own_end (Qv := (own_Qdc0 Z a1 wA bA sA hA kw kb ks kh reach w0 w1 b0 b1 s0 s1 t1 fg rk bs sz h0 n0)) X10 (own_some hret) hlk (by decide) (by decide) e10 ⟨by simp [own_dc, own_b, c4, c23, c34, c41], N0, rfl⟩)
        · refine own_s T10 (mkF m 49 #[rv a1] [(.int 1)]) (fun _ k => XS.ifNo X10.here hx rfl (hb hby own_ddc0_41) rfl ((if0 _ _).trans (flt c41).1) (XS.iconst X10.here hx rfl (hb hby own_ddc0_44) (XS.goto X10.here hx rfl (pc0 := 45) (pc' := 49) rfl (hb hby own_ddc0_45) (by decide) (by decide) k))) ?_
          exact own_finZ X10 hx (t := .boolean) hret (by simp) (z' := (1 : Int32)) rfl (hb hby own_ddc0_49) (own_end (Qv := (own_Qdc0 Z a1 wA bA sA hA kw kb ks kh reach w0 w1 b0 b1 s0 s1 t1 fg rk bs sz h0 n0)) X10 (own_some hret) hlk (by decide) (by decide) e10 ⟨by simp [own_dc, own_b, c4, c23, c34, c41], N0, rfl⟩)
theorem own_ddc1_0 : decode prog_47_method_5_code 0 = .ok (.aload_n 0, 1) := by decide +kernel
theorem own_ddc1_1 : decode prog_47_method_5_code 1 = .ok (.getfield 31, 3) := by decide +kernel
theorem own_ddc1_4 : decode prog_47_method_5_code 4 = .ok (.ifCond .eq 40, 3) := by decide +kernel
theorem own_ddc1_7 : decode prog_47_method_5_code 7 = .ok (.aload_n 0, 1) := by decide +kernel
theorem own_ddc1_8 : decode prog_47_method_5_code 8 = .ok (.getfield 20, 3) := by decide +kernel
theorem own_ddc1_11 : decode prog_47_method_5_code 11 = .ok (.aload_n 0, 1) := by decide +kernel
theorem own_ddc1_12 : decode prog_47_method_5_code 12 = .ok (.getfield 24, 3) := by decide +kernel
theorem own_ddc1_15 : decode prog_47_method_5_code 15 = .ok (.iconst 0, 1) := by decide +kernel
theorem own_ddc1_16 : decode prog_47_method_5_code 16 = .ok (.iaload, 1) := by decide +kernel
theorem own_ddc1_17 : decode prog_47_method_5_code 17 = .ok (.laload, 1) := by decide +kernel
theorem own_ddc1_18 : decode prog_47_method_5_code 18 = .ok (.aload_n 0, 1) := by decide +kernel
theorem own_ddc1_19 : decode prog_47_method_5_code 19 = .ok (.getfield 34, 3) := by decide +kernel
theorem own_ddc1_22 : decode prog_47_method_5_code 22 = .ok (.lcmp, 1) := by decide +kernel
theorem own_ddc1_23 : decode prog_47_method_5_code 23 = .ok (.ifCond .eq 21, 3) := by decide +kernel
theorem own_ddc1_26 : decode prog_47_method_5_code 26 = .ok (.aload_n 0, 1) := by decide +kernel
theorem own_ddc1_27 : decode prog_47_method_5_code 27 = .ok (.getfield 42, 3) := by decide +kernel
theorem own_ddc1_30 : decode prog_47_method_5_code 30 = .ok (.aload_n 0, 1) := by decide +kernel
theorem own_ddc1_31 : decode prog_47_method_5_code 31 = .ok (.getfield 7, 3) := by decide +kernel
theorem own_ddc1_34 : decode prog_47_method_5_code 34 = .ok (.if_icmp .lt 14, 3) := by decide +kernel
theorem own_ddc1_37 : decode prog_47_method_5_code 37 = .ok (.aload_n 0, 1) := by decide +kernel
theorem own_ddc1_38 : decode prog_47_method_5_code 38 = .ok (.getfield 45, 3) := by decide +kernel
theorem own_ddc1_41 : decode prog_47_method_5_code 41 = .ok (.ifCond .lt 7, 3) := by decide +kernel
theorem own_ddc1_44 : decode prog_47_method_5_code 44 = .ok (.iconst 1, 1) := by decide +kernel
theorem own_ddc1_45 : decode prog_47_method_5_code 45 = .ok (.goto 4, 3) := by decide +kernel
theorem own_ddc1_48 : decode prog_47_method_5_code 48 = .ok (.iconst 0, 1) := by decide +kernel
theorem own_ddc1_49 : decode prog_47_method_5_code 49 = .ok (.ireturn, 1) := by decide +kernel
theorem own_efdc1 (m : MethodId) (x0 : Addr) : entryFrame m #[(.ref x0)] 1 = mkF m 0 #[rv x0] [] := by first | (simp [entryFrame, mkF, argsToLocals, Value.category]; done) | rfl
def own_Qdc1 (Z : State) (a1 : Addr) (wA bA sA hA : Addr) (kw kb ks kh : ClassId) (reach : Int32) (w0 : Int64) (w1 : Int64) (b0 : Int64) (b1 : Int64) (s0 : Int64) (s1 : Int64) (t1 : Int32) (fg : Int64) (rk : Int32) (bs : Int32) (sz : Int32) (h0 : Heap) (n0 : Nat) : Option Value → Heap → List Loc → Prop := fun v h L => v = some (.int (own_b (own_dc sz s1 fg rk reach bs))) ∧ Fr n0 L ∧ h = h0
def own_Rdc1 : Room := { frames := 0, cells := 0, slots := 0, locals := 0 }
set_option maxRecDepth 65536 in
set_option maxHeartbeats 40000000 in
theorem own_rmdc1 (l : Launch) (Z : State) (a0 : Array Value) (hw : ∀ d ∈ tables_1, d.before a0 Z = true) (ws : List Jvm.Cond) (a1 : Addr) (wA bA sA hA : Addr) (kw kb ks kh : ClassId) (reach : Int32) (w0 : Int64) (w1 : Int64) (b0 : Int64) (b1 : Int64) (s0 : Int64) (s1 : Int64) (t1 : Int32) (fg : Int64) (rk : Int32) (bs : Int32) (sz : Int32) (h0 : Heap) (n0 : Nat) (Z0 : n0 ≤ h0.size) (hCQ : own_CQ Z h0 a1 wA bA sA hA kw kb ks kh reach w0 w1 b0 b1 s0 s1 (1 : Int32) t1 fg rk bs sz) :
    own_Met l Z own_y7 prog_47_method_5_code 1 (some .boolean) ws own_Rdc1 h0 #[(.ref a1)] (own_Qdc1 Z a1 wA bA sA hA kw kb ks kh reach w0 w1 b0 b1 s0 s1 t1 fg rk bs sz h0 n0) own_Rdc1.cells own_Rdc1.slots := by
  refine own_start (plainFor_of_name own_pn0) ?_
  intro p e s m below meth c s₁ X0 hx hZ hby hml hret hlk hown hnm e0
  have hown : s.vm.findClass "com/example/allotrope/allotrope/procure/CoverQueue" = some m.cls := hown
  have hml : c.maxLocals = 1 := hml
  have N0 := Fr.nil n0
  refine own_cast (own_efdc1 m a1) ?_
  obtain ⟨u1_0, u1_1, u1_2, u1_3, u1_4, u1_5, u1_6, u1_7, u1_8, u1_9, u1_10, u1_11, u1_12, u1_13⟩ := id hCQ
  refine own_s s₁ (mkF m 1 #[rv a1] [(.ref a1)]) (fun _ k => XS.aloadN X0.here hx rfl (hb hby own_ddc1_0) rfl rfl k) ?_
  obtain ⟨T2, X2, e2, st2⟩ := getF X0 hx hZ hown (host := "") (Or.inl (own_h hw 38 rfl)) Via.refl e0 u1_9 (g := (mkF m 1 #[rv a1] [(.ref a1)])) rfl rfl (hb hby own_ddc1_1)
  refine own_s T2 (mkF m 4 #[rv a1] [(.int sz)]) st2 ?_
  by_cases c4 : sz = (0 : Int32)
  · refine own_s T2 (mkF m 49 #[rv a1] [(.int 1)]) (fun _ k => XS.ifYes X2.here hx rfl (pc0 := 4) (pc' := 44) rfl (hb hby own_ddc1_4) rfl ((if0 _ _).trans (teq c4).1) (by decide) (by decide) (XS.iconst X2.here hx rfl (hb hby own_ddc1_44) (XS.goto X2.here hx rfl (pc0 := 45) (pc' := 49) rfl (hb hby own_ddc1_45) (by decide) (by decide) k))) ?_
    exact own_finZ X2 hx (t := .boolean) hret (by simp) (z' := (1 : Int32)) rfl (hb hby own_ddc1_49) (own_end (Qv := (own_Qdc1 Z a1 wA bA sA hA kw kb ks kh reach w0 w1 b0 b1 s0 s1 t1 fg rk bs sz h0 n0)) X2 (own_some hret) hlk (by decide) (by decide) e2 ⟨by simp [own_dc, own_b, c4], N0, rfl⟩)
  · refine own_s T2 (mkF m 8 #[rv a1] [(.ref a1)]) (fun _ k => XS.ifNo X2.here hx rfl (hb hby own_ddc1_4) rfl ((if0 _ _).trans (feq c4).1) (XS.aloadN X2.here hx rfl (hb hby own_ddc1_7) rfl rfl k)) ?_
    obtain ⟨T3, X3, e3, st3⟩ := getF X2 hx hZ hown (host := "") (Or.inl (own_h hw 17 rfl)) Via.refl e2 u1_4 (g := (mkF m 8 #[rv a1] [(.ref a1)])) rfl rfl (hb hby own_ddc1_8)
    refine own_s T3 (mkF m 11 #[rv a1] [(.ref sA)]) st3 ?_
    refine own_s T3 (mkF m 12 #[rv a1] [(.ref a1), (.ref sA)]) (fun _ k => XS.aloadN X3.here hx rfl (hb hby own_ddc1_11) rfl rfl k) ?_
    obtain ⟨T4, X4, e4, st4⟩ := getF X3 hx hZ hown (host := "") (Or.inl (own_h hw 20 rfl)) Via.refl e3 u1_5 (g := (mkF m 12 #[rv a1] [(.ref a1), (.ref sA)])) rfl rfl (hb hby own_ddc1_12)
    refine own_s T4 (mkF m 15 #[rv a1] [(.ref hA), (.ref sA)]) st4 ?_
    refine own_s T4 (mkF m 16 #[rv a1] [(.int 0), (.ref hA), (.ref sA)]) (fun _ k => XS.iconst X4.here hx rfl (hb hby own_ddc1_15) k) ?_
    obtain ⟨cl5, Ar5, q5, S5, Nn5, H5, G5⟩ := id u1_13
    have hin5 : ¬ ((0 : Int32) < 0 ∨ cl5.slots.size ≤ ((0 : Int32)).toNatClampNeg) := (inb_of S5 ⟨by decide, by decide⟩)
    refine own_s T4 (mkF m 17 #[rv a1] [(.int 1), (.ref sA)]) (fun _ k => X4.iaload hx (j := (0 : Int32)) (v := (.int 1)) (own_at e4 Ar5.1) (State.isArrayOf_alike hZ.alike Ar5.2.1) Ar5.2.2 hin5 (Has.at H5 hin5 rfl) (g := (mkF m 16 #[rv a1] [(.int 0), (.ref hA), (.ref sA)])) rfl rfl (hb hby own_ddc1_16) _ k) ?_
    obtain ⟨cl6, Ar6, q6, S6, Nn6, H6, G6⟩ := id u1_12
    have hin6 : ¬ ((1 : Int32) < 0 ∨ cl6.slots.size ≤ ((1 : Int32)).toNatClampNeg) := (inb_of S6 ⟨by decide, by decide⟩)
    refine own_s T4 (mkF m 19 #[rv a1] [(.ref a1), (.long s1)]) (fun _ k => X4.laload hx (j := (1 : Int32)) (v := (.long s1)) (own_at e4 Ar6.1) (State.isArrayOf_alike hZ.alike Ar6.2.1) Ar6.2.2 hin6 (Has.at H6 hin6 rfl) (g := (mkF m 17 #[rv a1] [(.int 1), (.ref sA)])) rfl rfl (hb hby own_ddc1_17) _ (XS.aloadN X4.here hx rfl (hb hby own_ddc1_18) rfl rfl k)) ?_
    obtain ⟨T7, X7, e7, st7⟩ := getF X4 hx hZ hown (host := "") (Or.inl (own_h hw 32 rfl)) Via.refl e4 u1_6 (g := (mkF m 19 #[rv a1] [(.ref a1), (.long s1)])) rfl rfl (hb hby own_ddc1_19)
    refine own_s T7 (mkF m 22 #[rv a1] [(.long fg), (.long s1)]) st7 ?_
    refine own_s T7 (mkF m 23 #[rv a1] [(.int (lcmpW s1 fg))]) (fun _ k => XS.lcmp X7.here hx rfl (hb hby own_ddc1_22) rfl k) ?_
    by_cases c23 : s1 = fg
    · refine own_s T7 (mkF m 49 #[rv a1] [(.int 1)]) (fun _ k => XS.ifYes X7.here hx rfl (pc0 := 23) (pc' := 44) rfl (hb hby own_ddc1_23) rfl ((if0 _ _).trans (teq (own_lceq c23)).1) (by decide) (by decide) (XS.iconst X7.here hx rfl (hb hby own_ddc1_44) (XS.goto X7.here hx rfl (pc0 := 45) (pc' := 49) rfl (hb hby own_ddc1_45) (by decide) (by decide) k))) ?_
      exact own_finZ X7 hx (t := .boolean) hret (by simp) (z' := (1 : Int32)) rfl (hb hby own_ddc1_49) (own_end (Qv := (own_Qdc1 Z a1 wA bA sA hA kw kb ks kh reach w0 w1 b0 b1 s0 s1 t1 fg rk bs sz h0 n0)) X7 (own_some hret) hlk (by decide) (by decide) e7 ⟨by simp [own_dc, own_b, c4, c23], N0, rfl⟩)
    · refine own_s T7 (mkF m 27 #[rv a1] [(.ref a1)]) (fun _ k => XS.ifNo X7.here hx rfl (hb hby own_ddc1_23) rfl ((if0 _ _).trans (feq (own_lceqN c23)).1) (XS.aloadN X7.here hx rfl (hb hby own_ddc1_26) rfl rfl k)) ?_
      obtain ⟨T8, X8, e8, st8⟩ := getF X7 hx hZ hown (host := "") (Or.inl (own_h hw 34 rfl)) Via.refl e7 u1_7 (g := (mkF m 27 #[rv a1] [(.ref a1)])) rfl rfl (hb hby own_ddc1_27)
      refine own_s T8 (mkF m 30 #[rv a1] [(.int rk)]) st8 ?_
      refine own_s T8 (mkF m 31 #[rv a1] [(.ref a1), (.int rk)]) (fun _ k => XS.aloadN X8.here hx rfl (hb hby own_ddc1_30) rfl rfl k) ?_
      obtain ⟨T9, X9, e9, st9⟩ := getF X8 hx hZ hown (host := "") (Or.inl (own_h hw 9 rfl)) Via.refl e8 u1_1 (g := (mkF m 31 #[rv a1] [(.ref a1), (.int rk)])) rfl rfl (hb hby own_ddc1_31)
      refine own_s T9 (mkF m 34 #[rv a1] [(.int reach), (.int rk)]) st9 ?_
      by_cases c34 : rk < reach
      · refine own_s T9 (mkF m 49 #[rv a1] [(.int 0)]) (fun _ k => XS.icmpYes X9.here hx rfl (pc0 := 34) (pc' := 48) rfl (hb hby own_ddc1_34) rfl (tlt c34).1 (by decide) (by decide) (XS.iconst X9.here hx rfl (hb hby own_ddc1_48) k)) ?_
        exact own_finZ X9 hx (t := .boolean) hret (by simp) (z' := (0 : Int32)) rfl (hb hby own_ddc1_49) (own_end (Qv := (own_Qdc1 Z a1 wA bA sA hA kw kb ks kh reach w0 w1 b0 b1 s0 s1 t1 fg rk bs sz h0 n0)) X9 (own_some hret) hlk (by decide) (by decide) e9 ⟨by simp [own_dc, own_b, c4, c23, c34], N0, rfl⟩)
      · refine own_s T9 (mkF m 38 #[rv a1] [(.ref a1)]) (fun _ k => XS.icmpNo X9.here hx rfl (hb hby own_ddc1_34) rfl (flt c34).1 (XS.aloadN X9.here hx rfl (hb hby own_ddc1_37) rfl rfl k)) ?_
        obtain ⟨T10, X10, e10, st10⟩ := getF X9 hx hZ hown (host := "") (Or.inl (own_h hw 36 rfl)) Via.refl e9 u1_8 (g := (mkF m 38 #[rv a1] [(.ref a1)])) rfl rfl (hb hby own_ddc1_38)
        refine own_s T10 (mkF m 41 #[rv a1] [(.int bs)]) st10 ?_
        by_cases c41 : bs < (0 : Int32)
        · refine own_s T10 (mkF m 49 #[rv a1] [(.int 0)]) (fun _ k => XS.ifYes X10.here hx rfl (pc0 := 41) (pc' := 48) rfl (hb hby own_ddc1_41) rfl ((if0 _ _).trans (tlt c41).1) (by decide) (by decide) (XS.iconst X10.here hx rfl (hb hby own_ddc1_48) k)) ?_
          exact own_finZ X10 hx (t := .boolean) hret (by simp) (z' := (0 : Int32)) rfl (hb hby own_ddc1_49) (own_end (Qv := (own_Qdc1 Z a1 wA bA sA hA kw kb ks kh reach w0 w1 b0 b1 s0 s1 t1 fg rk bs sz h0 n0)) X10 (own_some hret) hlk (by decide) (by decide) e10 ⟨by simp [own_dc, own_b, c4, c23, c34, c41], N0, rfl⟩)
        · refine own_s T10 (mkF m 49 #[rv a1] [(.int 1)]) (fun _ k => XS.ifNo X10.here hx rfl (hb hby own_ddc1_41) rfl ((if0 _ _).trans (flt c41).1) (XS.iconst X10.here hx rfl (hb hby own_ddc1_44) (XS.goto X10.here hx rfl (pc0 := 45) (pc' := 49) rfl (hb hby own_ddc1_45) (by decide) (by decide) k))) ?_
          exact own_finZ X10 hx (t := .boolean) hret (by simp) (z' := (1 : Int32)) rfl (hb hby own_ddc1_49) (own_end (Qv := (own_Qdc1 Z a1 wA bA sA hA kw kb ks kh reach w0 w1 b0 b1 s0 s1 t1 fg rk bs sz h0 n0)) X10 (own_some hret) hlk (by decide) (by decide) e10 ⟨by simp [own_dc, own_b, c4, c23, c34, c41], N0, rfl⟩)
abbrev own_y8 : MethodName := ⟨"com/example/allotrope/allotrope/procure/CoverQueue", "<init>", "(II)V"⟩
theorem own_dini_0 : decode prog_47_method_1_code 0 = .ok (.aload_n 0, 1) := by decide +kernel
theorem own_dini_1 : decode prog_47_method_1_code 1 = .ok (.invokespecial 1, 3) := by decide +kernel
theorem own_dini_4 : decode prog_47_method_1_code 4 = .ok (.aload_n 0, 1) := by decide +kernel
theorem own_dini_5 : decode prog_47_method_1_code 5 = .ok (.iload_n 2, 1) := by decide +kernel
theorem own_dini_6 : decode prog_47_method_1_code 6 = .ok (.putfield 7, 3) := by decide +kernel
theorem own_dini_9 : decode prog_47_method_1_code 9 = .ok (.aload_n 0, 1) := by decide +kernel
theorem own_dini_10 : decode prog_47_method_1_code 10 = .ok (.iload_n 1, 1) := by decide +kernel
theorem own_dini_11 : decode prog_47_method_1_code 11 = .ok (.newarray .double, 2) := by decide +kernel
theorem own_dini_13 : decode prog_47_method_1_code 13 = .ok (.putfield 13, 3) := by decide +kernel
theorem own_dini_16 : decode prog_47_method_1_code 16 = .ok (.aload_n 0, 1) := by decide +kernel
theorem own_dini_17 : decode prog_47_method_1_code 17 = .ok (.iload_n 1, 1) := by decide +kernel
theorem own_dini_18 : decode prog_47_method_1_code 18 = .ok (.newarray .double, 2) := by decide +kernel
theorem own_dini_20 : decode prog_47_method_1_code 20 = .ok (.putfield 17, 3) := by decide +kernel
theorem own_dini_23 : decode prog_47_method_1_code 23 = .ok (.aload_n 0, 1) := by decide +kernel
theorem own_dini_24 : decode prog_47_method_1_code 24 = .ok (.iload_n 1, 1) := by decide +kernel
theorem own_dini_25 : decode prog_47_method_1_code 25 = .ok (.newarray .long, 2) := by decide +kernel
theorem own_dini_27 : decode prog_47_method_1_code 27 = .ok (.putfield 20, 3) := by decide +kernel
theorem own_dini_30 : decode prog_47_method_1_code 30 = .ok (.aload_n 0, 1) := by decide +kernel
theorem own_dini_31 : decode prog_47_method_1_code 31 = .ok (.iload_n 1, 1) := by decide +kernel
theorem own_dini_32 : decode prog_47_method_1_code 32 = .ok (.newarray .int, 2) := by decide +kernel
theorem own_dini_34 : decode prog_47_method_1_code 34 = .ok (.putfield 24, 3) := by decide +kernel
theorem own_dini_37 : decode prog_47_method_1_code 37 = .ok (.return_, 1) := by decide +kernel
theorem own_efini (m : MethodId) (x0 : Addr) (x1 : Int32) (x2 : Int32) : entryFrame m #[(.ref x0), (.int x1), (.int x2)] 3 = mkF m 0 #[rv x0, iv x1, iv x2] [] := by first | (simp [entryFrame, mkF, argsToLocals, Value.category]; done) | rfl
def own_Qini (Z : State) (a1 : Addr) (p2 : Int32) (h0 : Heap) (n0 : Nat) : Option Value → Heap → List Loc → Prop := fun v h L => v = none ∧ Fr n0 L ∧ Keep h0 h [a1] ∧ ∃ (wA bA sA hA : Addr) (kw kb ks kh : ClassId), own_NE a1 wA bA sA hA ∧ own_GE n0 a1 wA bA sA hA ∧ own_CQ Z h a1 wA bA sA hA kw kb ks kh p2 0 0 0 0 (0 : Int64) (0 : Int64) (0 : Int32) (0 : Int32) (0 : Int64) (0 : Int32) (0 : Int32) (0 : Int32)
def own_Rini : Room := { frames := 1, cells := 4, slots := 8, locals := 12 }
set_option maxRecDepth 65536 in
set_option maxHeartbeats 40000000 in
theorem own_rmini (l : Launch) (Z : State) (a0 : Array Value) (hw : ∀ d ∈ tables_1, d.before a0 Z = true) (ws : List Jvm.Cond) (a1 : Addr) (p2 : Int32) (h0 : Heap) (n0 : Nat) (Z0 : n0 ≤ h0.size) (g_a1 : n0 ≤ a1) (E1 : Exa Z h0 a1 "com/example/allotrope/allotrope/procure/CoverQueue") (F0 : Fld Z h0 a1 "com/example/allotrope/allotrope/procure/CoverQueue" "reach" "I" (.int 0)) (F1 : Fld Z h0 a1 "com/example/allotrope/allotrope/procure/CoverQueue" "weights" "[D" .null) (F2 : Fld Z h0 a1 "com/example/allotrope/allotrope/procure/CoverQueue" "bounds" "[D" .null) (F3 : Fld Z h0 a1 "com/example/allotrope/allotrope/procure/CoverQueue" "setAt" "[J" .null) (F4 : Fld Z h0 a1 "com/example/allotrope/allotrope/procure/CoverQueue" "heap" "[I" .null) (F5 : Fld Z h0 a1 "com/example/allotrope/allotrope/procure/CoverQueue" "forgotten" "J" (.long 0)) (F6 : Fld Z h0 a1 "com/example/allotrope/allotrope/procure/CoverQueue" "reckonings" "I" (.int 0)) (F7 : Fld Z h0 a1 "com/example/allotrope/allotrope/procure/CoverQueue" "best" "I" (.int 0)) (F8 : Fld Z h0 a1 "com/example/allotrope/allotrope/procure/CoverQueue" "size" "I" (.int 0)) :
    own_Met l Z own_y8 prog_47_method_1_code 3 none ws own_Rini h0 #[(.ref a1), (.int 2), (.int p2)] (own_Qini Z a1 p2 h0 n0) own_Rini.cells own_Rini.slots := by
  refine own_start (plainFor_of_name own_pn0) ?_
  intro p e s m below meth c s₁ X0 hx hZ hby hml hret hlk hown hnm e0
  have hown : s.vm.findClass "com/example/allotrope/allotrope/procure/CoverQueue" = some m.cls := hown
  have hml : c.maxLocals = 3 := hml
  have N0 := Fr.nil n0
  refine own_cast (own_efini m a1 (2 : Int32) p2) ?_
  refine own_s s₁ (mkF m 1 #[rv a1, iv 2, iv p2] [(.ref a1)]) (fun _ k => XS.aloadN X0.here hx rfl (hb hby own_dini_0) rfl rfl k) ?_
  obtain ⟨T1, X1, e1, st1⟩ := initO X0 hx hZ hown (own_h hw 6 rfl) (own_h hw 7 rfl) (own_h hw 8 rfl) e0 (g := (mkF m 1 #[rv a1, iv 2, iv p2] [(.ref a1)])) rfl (by rw [hml]; rfl) rfl (hb hby own_dini_1) (by decide) (W := 0) (by show 2 * 0 + _ ≤ _; exact Nat.le_of_eq rfl) (by decide)
  refine own_s T1 (mkF m 4 #[rv a1, iv 2, iv p2] []) st1 ?_
  refine own_s T1 (mkF m 6 #[rv a1, iv 2, iv p2] [(.int p2), (.ref a1)]) (fun _ k => XS.aloadN X1.here hx rfl (hb hby own_dini_4) rfl rfl (XS.iloadN X1.here hx rfl (hb hby own_dini_5) rfl  k)) ?_
  obtain ⟨T2, h2, X2, e2, W2, st2⟩ := putF X1 hx hZ hown (host := "") (Or.inl (own_h hw 9 rfl)) Via.refl e1 F0 E1 (Or.inr ⟨(own_h hw 10 rfl), rfl, hnm⟩) (own_h hw 1 rfl) (ty := .int) (by decide) rfl rfl (g := (mkF m 6 #[rv a1, iv 2, iv p2] [(.int p2), (.ref a1)])) rfl rfl (hb hby own_dini_6)
  have Fw2 := Fld.same W2 F0
  have f3 := Exa.wr W2 E1
  have f4 := Fld.other W2 F1 (Or.inr (slot_ne (Or.inr (own_h hw 13 rfl)) (Or.inr (own_h hw 10 rfl)) (by decide) (t := (.array .double)) (t' := .int) (by decide) (by decide)))
  have f5 := Fld.other W2 F2 (Or.inr (slot_ne (Or.inr (own_h hw 15 rfl)) (Or.inr (own_h hw 10 rfl)) (by decide) (t := (.array .double)) (t' := .int) (by decide) (by decide)))
  have f6 := Fld.other W2 F3 (Or.inr (slot_ne (Or.inr (own_h hw 18 rfl)) (Or.inr (own_h hw 10 rfl)) (by decide) (t := (.array .long)) (t' := .int) (by decide) (by decide)))
  have f7 := Fld.other W2 F4 (Or.inr (slot_ne (Or.inr (own_h hw 21 rfl)) (Or.inr (own_h hw 10 rfl)) (by decide) (t := (.array .int)) (t' := .int) (by decide) (by decide)))
  have f8 := Fld.other W2 F5 (Or.inr (slot_ne (Or.inl (own_h hw 33 rfl)) (Or.inr (own_h hw 10 rfl)) (by decide) (t := .long) (t' := .int) (by decide) (by decide)))
  have f9 := Fld.other W2 F6 (Or.inr (slot_ne (Or.inl (own_h hw 35 rfl)) (Or.inr (own_h hw 10 rfl)) (by decide) (t := .int) (t' := .int) (by decide) (by decide)))
  have f10 := Fld.other W2 F7 (Or.inr (slot_ne (Or.inl (own_h hw 37 rfl)) (Or.inr (own_h hw 10 rfl)) (by decide) (t := .int) (t' := .int) (by decide) (by decide)))
  have f11 := Fld.other W2 F8 (Or.inr (slot_ne (Or.inl (own_h hw 39 rfl)) (Or.inr (own_h hw 10 rfl)) (by decide) (t := .int) (t' := .int) (by decide) (by decide)))
  have K2 : Keep h0 h2 [a1] := (Keep.refl h0 [a1]).wr W2 (Or.inl (List.mem_of_getElem? (i := 0) rfl))
  have Z2 := Nat.le_trans Z0 (Nat.le_of_eq W2.size.symm)
  have N2 := Fr.snoc X2 N0 g_a1
  refine own_s T2 (mkF m 9 #[rv a1, iv 2, iv p2] []) st2 ?_
  refine own_s T2 (mkF m 11 #[rv a1, iv 2, iv p2] [(.int 2), (.ref a1)]) (fun _ k => XS.aloadN X2.here hx rfl (hb hby own_dini_9) rfl rfl (XS.iloadN X2.here hx rfl (hb hby own_dini_10) rfl  k)) ?_
  obtain ⟨T12, h12, k12, X12, e12, E12, A12, st12⟩ := newP X2 hx hZ (own_h hw 11 rfl) e2 (g := (mkF m 11 #[rv a1, iv 2, iv p2] [(.int 2), (.ref a1)])) rfl (hb hby own_dini_11) rfl (by decide) (cap := 2) (by decide) (by decide) (by decide) (by decide)
  obtain ⟨b12, g12⟩ : ∃ z, z = h2.size := ⟨_, rfl⟩
  have ne_a1_b12 : a1 ≠ b12 := Nat.ne_of_lt (Nat.lt_of_lt_of_le f3.lt (Nat.le_of_eq g12.symm))
  have g_b12 : n0 ≤ b12 := Nat.le_trans Z2 (Nat.le_of_eq g12.symm)
  have sz_b12 : h0.size ≤ b12 := Nat.le_trans K2.1 (Nat.le_of_eq g12.symm)
  rw [← g12] at A12 st12
  have f13 := Exa.ext E12 f3
  have f14 := Fld.ext E12 Fw2
  have f15 := Fld.ext E12 f4
  have f16 := Fld.ext E12 f5
  have f17 := Fld.ext E12 f6
  have f18 := Fld.ext E12 f7
  have f19 := Fld.ext E12 f8
  have f20 := Fld.ext E12 f9
  have f21 := Fld.ext E12 f10
  have f22 := Fld.ext E12 f11
  have K12 : Keep h0 h12 [a1] := K2.ext E12
  have Z12 := Nat.le_trans Z2 E12.1
  have f12 : Arv Z h12 b12 k12 .double (2 : Int32) [(.double (FP.l2d 0)), (.double (FP.l2d 0))] (.double (FP.l2d 0)) := (Arv.newD A12 (by decide)).pad (pad_rep [] (.double (FP.l2d 0)) 2)
  refine own_s T12 (mkF m 13 #[rv a1, iv 2, iv p2] [(.ref b12), (.ref a1)]) st12 ?_
  obtain ⟨T23, h23, X23, e23, W23, st23⟩ := putF X12 hx hZ hown (host := "") (Or.inl (own_h hw 12 rfl)) Via.refl e12 f15 f13 (Or.inr ⟨(own_h hw 13 rfl), rfl, hnm⟩) (own_h hw 1 rfl) (ty := (.array .double)) (by decide) rfl rfl (g := (mkF m 13 #[rv a1, iv 2, iv p2] [(.ref b12), (.ref a1)])) rfl rfl (hb hby own_dini_13)
  have Fw23 := Fld.same W23 f15
  have f24 := Exa.wr W23 f13
  have f25 := Fld.other W23 f14 (Or.inr (slot_ne (Or.inr (own_h hw 10 rfl)) (Or.inr (own_h hw 13 rfl)) (by decide) (t := .int) (t' := (.array .double)) (by decide) (by decide)))
  have f26 := Fld.other W23 f16 (Or.inr (slot_ne (Or.inr (own_h hw 15 rfl)) (Or.inr (own_h hw 13 rfl)) (by decide) (t := (.array .double)) (t' := (.array .double)) (by decide) (by decide)))
  have f27 := Fld.other W23 f17 (Or.inr (slot_ne (Or.inr (own_h hw 18 rfl)) (Or.inr (own_h hw 13 rfl)) (by decide) (t := (.array .long)) (t' := (.array .double)) (by decide) (by decide)))
  have f28 := Fld.other W23 f18 (Or.inr (slot_ne (Or.inr (own_h hw 21 rfl)) (Or.inr (own_h hw 13 rfl)) (by decide) (t := (.array .int)) (t' := (.array .double)) (by decide) (by decide)))
  have f29 := Fld.other W23 f19 (Or.inr (slot_ne (Or.inl (own_h hw 33 rfl)) (Or.inr (own_h hw 13 rfl)) (by decide) (t := .long) (t' := (.array .double)) (by decide) (by decide)))
  have f30 := Fld.other W23 f20 (Or.inr (slot_ne (Or.inl (own_h hw 35 rfl)) (Or.inr (own_h hw 13 rfl)) (by decide) (t := .int) (t' := (.array .double)) (by decide) (by decide)))
  have f31 := Fld.other W23 f21 (Or.inr (slot_ne (Or.inl (own_h hw 37 rfl)) (Or.inr (own_h hw 13 rfl)) (by decide) (t := .int) (t' := (.array .double)) (by decide) (by decide)))
  have f32 := Fld.other W23 f22 (Or.inr (slot_ne (Or.inl (own_h hw 39 rfl)) (Or.inr (own_h hw 13 rfl)) (by decide) (t := .int) (t' := (.array .double)) (by decide) (by decide)))
  have f33 := f12.other W23 (Ne.symm ne_a1_b12)
  have K23 : Keep h0 h23 [a1] := K12.wr W23 (Or.inl (List.mem_of_getElem? (i := 0) rfl))
  have Z23 := Nat.le_trans Z12 (Nat.le_of_eq W23.size.symm)
  have N23 := Fr.snoc X23 N2 g_a1
  refine own_s T23 (mkF m 16 #[rv a1, iv 2, iv p2] []) st23 ?_
  refine own_s T23 (mkF m 18 #[rv a1, iv 2, iv p2] [(.int 2), (.ref a1)]) (fun _ k => XS.aloadN X23.here hx rfl (hb hby own_dini_16) rfl rfl (XS.iloadN X23.here hx rfl (hb hby own_dini_17) rfl  k)) ?_
  obtain ⟨T34, h34, k34, X34, e34, E34, A34, st34⟩ := newP X23 hx hZ (own_h hw 11 rfl) e23 (g := (mkF m 18 #[rv a1, iv 2, iv p2] [(.int 2), (.ref a1)])) rfl (hb hby own_dini_18) rfl (by decide) (cap := 2) (by decide) (by decide) (by decide) (by decide)
  obtain ⟨b34, g34⟩ : ∃ z, z = h23.size := ⟨_, rfl⟩
  have ne_a1_b34 : a1 ≠ b34 := Nat.ne_of_lt (Nat.lt_of_lt_of_le f24.lt (Nat.le_of_eq g34.symm))
  have ne_b12_b34 : b12 ≠ b34 := Nat.ne_of_lt (Nat.lt_of_lt_of_le f33.lt (Nat.le_of_eq g34.symm))
  have g_b34 : n0 ≤ b34 := Nat.le_trans Z23 (Nat.le_of_eq g34.symm)
  have sz_b34 : h0.size ≤ b34 := Nat.le_trans K23.1 (Nat.le_of_eq g34.symm)
  rw [← g34] at A34 st34
  have f35 := Exa.ext E34 f24
  have f36 := Fld.ext E34 f25
  have f37 := Fld.ext E34 Fw23
  have f38 := Fld.ext E34 f26
  have f39 := Fld.ext E34 f27
  have f40 := Fld.ext E34 f28
  have f41 := Fld.ext E34 f29
  have f42 := Fld.ext E34 f30
  have f43 := Fld.ext E34 f31
  have f44 := Fld.ext E34 f32
  have f45 := f33.ext E34
  have K34 : Keep h0 h34 [a1] := K23.ext E34
  have Z34 := Nat.le_trans Z23 E34.1
  have f34 : Arv Z h34 b34 k34 .double (2 : Int32) [(.double (FP.l2d 0)), (.double (FP.l2d 0))] (.double (FP.l2d 0)) := (Arv.newD A34 (by decide)).pad (pad_rep [] (.double (FP.l2d 0)) 2)
  refine own_s T34 (mkF m 20 #[rv a1, iv 2, iv p2] [(.ref b34), (.ref a1)]) st34 ?_
  obtain ⟨T46, h46, X46, e46, W46, st46⟩ := putF X34 hx hZ hown (host := "") (Or.inl (own_h hw 14 rfl)) Via.refl e34 f38 f35 (Or.inr ⟨(own_h hw 15 rfl), rfl, hnm⟩) (own_h hw 1 rfl) (ty := (.array .double)) (by decide) rfl rfl (g := (mkF m 20 #[rv a1, iv 2, iv p2] [(.ref b34), (.ref a1)])) rfl rfl (hb hby own_dini_20)
  have Fw46 := Fld.same W46 f38
  have f47 := Exa.wr W46 f35
  have f48 := Fld.other W46 f36 (Or.inr (slot_ne (Or.inr (own_h hw 10 rfl)) (Or.inr (own_h hw 15 rfl)) (by decide) (t := .int) (t' := (.array .double)) (by decide) (by decide)))
  have f49 := Fld.other W46 f37 (Or.inr (slot_ne (Or.inr (own_h hw 13 rfl)) (Or.inr (own_h hw 15 rfl)) (by decide) (t := (.array .double)) (t' := (.array .double)) (by decide) (by decide)))
  have f50 := Fld.other W46 f39 (Or.inr (slot_ne (Or.inr (own_h hw 18 rfl)) (Or.inr (own_h hw 15 rfl)) (by decide) (t := (.array .long)) (t' := (.array .double)) (by decide) (by decide)))
  have f51 := Fld.other W46 f40 (Or.inr (slot_ne (Or.inr (own_h hw 21 rfl)) (Or.inr (own_h hw 15 rfl)) (by decide) (t := (.array .int)) (t' := (.array .double)) (by decide) (by decide)))
  have f52 := Fld.other W46 f41 (Or.inr (slot_ne (Or.inl (own_h hw 33 rfl)) (Or.inr (own_h hw 15 rfl)) (by decide) (t := .long) (t' := (.array .double)) (by decide) (by decide)))
  have f53 := Fld.other W46 f42 (Or.inr (slot_ne (Or.inl (own_h hw 35 rfl)) (Or.inr (own_h hw 15 rfl)) (by decide) (t := .int) (t' := (.array .double)) (by decide) (by decide)))
  have f54 := Fld.other W46 f43 (Or.inr (slot_ne (Or.inl (own_h hw 37 rfl)) (Or.inr (own_h hw 15 rfl)) (by decide) (t := .int) (t' := (.array .double)) (by decide) (by decide)))
  have f55 := Fld.other W46 f44 (Or.inr (slot_ne (Or.inl (own_h hw 39 rfl)) (Or.inr (own_h hw 15 rfl)) (by decide) (t := .int) (t' := (.array .double)) (by decide) (by decide)))
  have f56 := f45.other W46 (Ne.symm ne_a1_b12)
  have f57 := f34.other W46 (Ne.symm ne_a1_b34)
  have K46 : Keep h0 h46 [a1] := K34.wr W46 (Or.inl (List.mem_of_getElem? (i := 0) rfl))
  have Z46 := Nat.le_trans Z34 (Nat.le_of_eq W46.size.symm)
  have N46 := Fr.snoc X46 N23 g_a1
  refine own_s T46 (mkF m 23 #[rv a1, iv 2, iv p2] []) st46 ?_
  refine own_s T46 (mkF m 25 #[rv a1, iv 2, iv p2] [(.int 2), (.ref a1)]) (fun _ k => XS.aloadN X46.here hx rfl (hb hby own_dini_23) rfl rfl (XS.iloadN X46.here hx rfl (hb hby own_dini_24) rfl  k)) ?_
  obtain ⟨T58, h58, k58, X58, e58, E58, A58, st58⟩ := newP X46 hx hZ (own_h hw 16 rfl) e46 (g := (mkF m 25 #[rv a1, iv 2, iv p2] [(.int 2), (.ref a1)])) rfl (hb hby own_dini_25) rfl (by decide) (cap := 2) (by decide) (by decide) (by decide) (by decide)
  obtain ⟨b58, g58⟩ : ∃ z, z = h46.size := ⟨_, rfl⟩
  have ne_a1_b58 : a1 ≠ b58 := Nat.ne_of_lt (Nat.lt_of_lt_of_le f47.lt (Nat.le_of_eq g58.symm))
  have ne_b12_b58 : b12 ≠ b58 := Nat.ne_of_lt (Nat.lt_of_lt_of_le f56.lt (Nat.le_of_eq g58.symm))
  have ne_b34_b58 : b34 ≠ b58 := Nat.ne_of_lt (Nat.lt_of_lt_of_le f57.lt (Nat.le_of_eq g58.symm))
  have g_b58 : n0 ≤ b58 := Nat.le_trans Z46 (Nat.le_of_eq g58.symm)
  have sz_b58 : h0.size ≤ b58 := Nat.le_trans K46.1 (Nat.le_of_eq g58.symm)
  rw [← g58] at A58 st58
  have f59 := Exa.ext E58 f47
  have f60 := Fld.ext E58 f48
  have f61 := Fld.ext E58 f49
  have f62 := Fld.ext E58 Fw46
  have f63 := Fld.ext E58 f50
  have f64 := Fld.ext E58 f51
  have f65 := Fld.ext E58 f52
  have f66 := Fld.ext E58 f53
  have f67 := Fld.ext E58 f54
  have f68 := Fld.ext E58 f55
  have f69 := f56.ext E58
  have f70 := f57.ext E58
  have K58 : Keep h0 h58 [a1] := K46.ext E58
  have Z58 := Nat.le_trans Z46 E58.1
  have f58 : Arv Z h58 b58 k58 .long (2 : Int32) [(.long 0), (.long 0)] (.long 0) := (Arv.new A58 (by decide)).pad (pad_rep [] (.long 0) 2)
  refine own_s T58 (mkF m 27 #[rv a1, iv 2, iv p2] [(.ref b58), (.ref a1)]) st58 ?_
  obtain ⟨T71, h71, X71, e71, W71, st71⟩ := putF X58 hx hZ hown (host := "") (Or.inl (own_h hw 17 rfl)) Via.refl e58 f63 f59 (Or.inr ⟨(own_h hw 18 rfl), rfl, hnm⟩) (own_h hw 1 rfl) (ty := (.array .long)) (by decide) rfl rfl (g := (mkF m 27 #[rv a1, iv 2, iv p2] [(.ref b58), (.ref a1)])) rfl rfl (hb hby own_dini_27)
  have Fw71 := Fld.same W71 f63
  have f72 := Exa.wr W71 f59
  have f73 := Fld.other W71 f60 (Or.inr (slot_ne (Or.inr (own_h hw 10 rfl)) (Or.inr (own_h hw 18 rfl)) (by decide) (t := .int) (t' := (.array .long)) (by decide) (by decide)))
  have f74 := Fld.other W71 f61 (Or.inr (slot_ne (Or.inr (own_h hw 13 rfl)) (Or.inr (own_h hw 18 rfl)) (by decide) (t := (.array .double)) (t' := (.array .long)) (by decide) (by decide)))
  have f75 := Fld.other W71 f62 (Or.inr (slot_ne (Or.inr (own_h hw 15 rfl)) (Or.inr (own_h hw 18 rfl)) (by decide) (t := (.array .double)) (t' := (.array .long)) (by decide) (by decide)))
  have f76 := Fld.other W71 f64 (Or.inr (slot_ne (Or.inr (own_h hw 21 rfl)) (Or.inr (own_h hw 18 rfl)) (by decide) (t := (.array .int)) (t' := (.array .long)) (by decide) (by decide)))
  have f77 := Fld.other W71 f65 (Or.inr (slot_ne (Or.inl (own_h hw 33 rfl)) (Or.inr (own_h hw 18 rfl)) (by decide) (t := .long) (t' := (.array .long)) (by decide) (by decide)))
  have f78 := Fld.other W71 f66 (Or.inr (slot_ne (Or.inl (own_h hw 35 rfl)) (Or.inr (own_h hw 18 rfl)) (by decide) (t := .int) (t' := (.array .long)) (by decide) (by decide)))
  have f79 := Fld.other W71 f67 (Or.inr (slot_ne (Or.inl (own_h hw 37 rfl)) (Or.inr (own_h hw 18 rfl)) (by decide) (t := .int) (t' := (.array .long)) (by decide) (by decide)))
  have f80 := Fld.other W71 f68 (Or.inr (slot_ne (Or.inl (own_h hw 39 rfl)) (Or.inr (own_h hw 18 rfl)) (by decide) (t := .int) (t' := (.array .long)) (by decide) (by decide)))
  have f81 := f69.other W71 (Ne.symm ne_a1_b12)
  have f82 := f70.other W71 (Ne.symm ne_a1_b34)
  have f83 := f58.other W71 (Ne.symm ne_a1_b58)
  have K71 : Keep h0 h71 [a1] := K58.wr W71 (Or.inl (List.mem_of_getElem? (i := 0) rfl))
  have Z71 := Nat.le_trans Z58 (Nat.le_of_eq W71.size.symm)
  have N71 := Fr.snoc X71 N46 g_a1
  refine own_s T71 (mkF m 30 #[rv a1, iv 2, iv p2] []) st71 ?_
  refine own_s T71 (mkF m 32 #[rv a1, iv 2, iv p2] [(.int 2), (.ref a1)]) (fun _ k => XS.aloadN X71.here hx rfl (hb hby own_dini_30) rfl rfl (XS.iloadN X71.here hx rfl (hb hby own_dini_31) rfl  k)) ?_
  obtain ⟨T84, h84, k84, X84, e84, E84, A84, st84⟩ := newP X71 hx hZ (own_h hw 19 rfl) e71 (g := (mkF m 32 #[rv a1, iv 2, iv p2] [(.int 2), (.ref a1)])) rfl (hb hby own_dini_32) rfl (by decide) (cap := 2) (by decide) (by decide) (by decide) (by decide)
  obtain ⟨b84, g84⟩ : ∃ z, z = h71.size := ⟨_, rfl⟩
  have ne_a1_b84 : a1 ≠ b84 := Nat.ne_of_lt (Nat.lt_of_lt_of_le f72.lt (Nat.le_of_eq g84.symm))
  have ne_b12_b84 : b12 ≠ b84 := Nat.ne_of_lt (Nat.lt_of_lt_of_le f81.lt (Nat.le_of_eq g84.symm))
  have ne_b34_b84 : b34 ≠ b84 := Nat.ne_of_lt (Nat.lt_of_lt_of_le f82.lt (Nat.le_of_eq g84.symm))
  have ne_b58_b84 : b58 ≠ b84 := Nat.ne_of_lt (Nat.lt_of_lt_of_le f83.lt (Nat.le_of_eq g84.symm))
  have g_b84 : n0 ≤ b84 := Nat.le_trans Z71 (Nat.le_of_eq g84.symm)
  have sz_b84 : h0.size ≤ b84 := Nat.le_trans K71.1 (Nat.le_of_eq g84.symm)
  rw [← g84] at A84 st84
  have f85 := Exa.ext E84 f72
  have f86 := Fld.ext E84 f73
  have f87 := Fld.ext E84 f74
  have f88 := Fld.ext E84 f75
  have f89 := Fld.ext E84 Fw71
  have f90 := Fld.ext E84 f76
  have f91 := Fld.ext E84 f77
  have f92 := Fld.ext E84 f78
  have f93 := Fld.ext E84 f79
  have f94 := Fld.ext E84 f80
  have f95 := f81.ext E84
  have f96 := f82.ext E84
  have f97 := f83.ext E84
  have K84 : Keep h0 h84 [a1] := K71.ext E84
  have Z84 := Nat.le_trans Z71 E84.1
  have f84 : Arv Z h84 b84 k84 .int (2 : Int32) [(.int 0), (.int 0)] (.int 0) := (Arv.new A84 (by decide)).pad (pad_rep [] (.int 0) 2)
  refine own_s T84 (mkF m 34 #[rv a1, iv 2, iv p2] [(.ref b84), (.ref a1)]) st84 ?_
  obtain ⟨T98, h98, X98, e98, W98, st98⟩ := putF X84 hx hZ hown (host := "") (Or.inl (own_h hw 20 rfl)) Via.refl e84 f90 f85 (Or.inr ⟨(own_h hw 21 rfl), rfl, hnm⟩) (own_h hw 1 rfl) (ty := (.array .int)) (by decide) rfl rfl (g := (mkF m 34 #[rv a1, iv 2, iv p2] [(.ref b84), (.ref a1)])) rfl rfl (hb hby own_dini_34)
  have Fw98 := Fld.same W98 f90
  have f99 := Exa.wr W98 f85
  have f100 := Fld.other W98 f86 (Or.inr (slot_ne (Or.inr (own_h hw 10 rfl)) (Or.inr (own_h hw 21 rfl)) (by decide) (t := .int) (t' := (.array .int)) (by decide) (by decide)))
  have f101 := Fld.other W98 f87 (Or.inr (slot_ne (Or.inr (own_h hw 13 rfl)) (Or.inr (own_h hw 21 rfl)) (by decide) (t := (.array .double)) (t' := (.array .int)) (by decide) (by decide)))
  have f102 := Fld.other W98 f88 (Or.inr (slot_ne (Or.inr (own_h hw 15 rfl)) (Or.inr (own_h hw 21 rfl)) (by decide) (t := (.array .double)) (t' := (.array .int)) (by decide) (by decide)))
  have f103 := Fld.other W98 f89 (Or.inr (slot_ne (Or.inr (own_h hw 18 rfl)) (Or.inr (own_h hw 21 rfl)) (by decide) (t := (.array .long)) (t' := (.array .int)) (by decide) (by decide)))
  have f104 := Fld.other W98 f91 (Or.inr (slot_ne (Or.inl (own_h hw 33 rfl)) (Or.inr (own_h hw 21 rfl)) (by decide) (t := .long) (t' := (.array .int)) (by decide) (by decide)))
  have f105 := Fld.other W98 f92 (Or.inr (slot_ne (Or.inl (own_h hw 35 rfl)) (Or.inr (own_h hw 21 rfl)) (by decide) (t := .int) (t' := (.array .int)) (by decide) (by decide)))
  have f106 := Fld.other W98 f93 (Or.inr (slot_ne (Or.inl (own_h hw 37 rfl)) (Or.inr (own_h hw 21 rfl)) (by decide) (t := .int) (t' := (.array .int)) (by decide) (by decide)))
  have f107 := Fld.other W98 f94 (Or.inr (slot_ne (Or.inl (own_h hw 39 rfl)) (Or.inr (own_h hw 21 rfl)) (by decide) (t := .int) (t' := (.array .int)) (by decide) (by decide)))
  have f108 := f95.other W98 (Ne.symm ne_a1_b12)
  have f109 := f96.other W98 (Ne.symm ne_a1_b34)
  have f110 := f97.other W98 (Ne.symm ne_a1_b58)
  have f111 := f84.other W98 (Ne.symm ne_a1_b84)
  have K98 : Keep h0 h98 [a1] := K84.wr W98 (Or.inl (List.mem_of_getElem? (i := 0) rfl))
  have Z98 := Nat.le_trans Z84 (Nat.le_of_eq W98.size.symm)
  have N98 := Fr.snoc X98 N71 g_a1
  refine own_s T98 (mkF m 37 #[rv a1, iv 2, iv p2] []) st98 ?_
  exact own_finV X98 hx hret (hb hby own_dini_37) (own_end (Qv := (own_Qini Z a1 p2 h0 n0)) X98 (fun _ => rfl) hlk (by decide) (by decide) e98 ⟨rfl, N98, K98, b12, b34, b58, b84, k12, k34, k58, k84, ⟨ne_a1_b12, ne_a1_b34, ne_a1_b58, ne_a1_b84, ne_b12_b34, ne_b12_b58, ne_b12_b84, ne_b34_b58, ne_b34_b84, ne_b58_b84⟩, ⟨g_a1, g_b12, g_b34, g_b58, g_b84⟩, ⟨f99, f100, f101, f102, f103, Fw98, f104, f105, f106, f107, f108, f109, f110, f111⟩⟩)
abbrev own_y9 : MethodName := ⟨"com/example/allotrope/allotrope/procure/CoverQueueDecidedPinLaw", "zeroLeads", "(IIII)Z"⟩
theorem own_pn1 : plainName "com/example/allotrope/allotrope/procure/CoverQueueDecidedPinLaw" = true := by first | (simp [plainName, overriddenIn]; done) | decide +kernel
theorem own_dzl_0 : decode method_3_code 0 = .ok (.iload_n 0, 1) := by decide +kernel
theorem own_dzl_1 : decode method_3_code 1 = .ok (.iload_n 3, 1) := by decide +kernel
theorem own_dzl_2 : decode method_3_code 2 = .ok (.imul, 1) := by decide +kernel
theorem own_dzl_3 : decode method_3_code 3 = .ok (.iload_n 2, 1) := by decide +kernel
theorem own_dzl_4 : decode method_3_code 4 = .ok (.iload_n 1, 1) := by decide +kernel
theorem own_dzl_5 : decode method_3_code 5 = .ok (.imul, 1) := by decide +kernel
theorem own_dzl_6 : decode method_3_code 6 = .ok (.if_icmp .lt 7, 3) := by decide +kernel
theorem own_dzl_9 : decode method_3_code 9 = .ok (.iconst 1, 1) := by decide +kernel
theorem own_dzl_10 : decode method_3_code 10 = .ok (.goto 4, 3) := by decide +kernel
theorem own_dzl_13 : decode method_3_code 13 = .ok (.iconst 0, 1) := by decide +kernel
theorem own_dzl_14 : decode method_3_code 14 = .ok (.ireturn, 1) := by decide +kernel
theorem own_efzl (m : MethodId) (x0 : Int32) (x1 : Int32) (x2 : Int32) (x3 : Int32) : entryFrame m #[(.int x0), (.int x1), (.int x2), (.int x3)] 4 = mkF m 0 #[iv x0, iv x1, iv x2, iv x3] [] := by first | (simp [entryFrame, mkF, argsToLocals, Value.category]; done) | rfl
def own_Qzl (Z : State) (p1 : Int32) (p2 : Int32) (p3 : Int32) (p4 : Int32) (h0 : Heap) (n0 : Nat) : Option Value → Heap → List Loc → Prop := fun v h L => v = some (.int (own_b (!decide (p1 * p4 < p3 * p2)))) ∧ Fr n0 L ∧ h = h0
def own_Rzl : Room := { frames := 0, cells := 0, slots := 0, locals := 0 }
set_option maxRecDepth 65536 in
set_option maxHeartbeats 40000000 in
theorem own_rmzl (l : Launch) (Z : State) (a0 : Array Value) (hw : ∀ d ∈ tables_1, d.before a0 Z = true) (ws : List Jvm.Cond) (p1 : Int32) (p2 : Int32) (p3 : Int32) (p4 : Int32) (h0 : Heap) (n0 : Nat) (Z0 : n0 ≤ h0.size) :
    own_Met l Z own_y9 method_3_code 4 (some .boolean) ws own_Rzl h0 #[(.int p1), (.int p2), (.int p3), (.int p4)] (own_Qzl Z p1 p2 p3 p4 h0 n0) own_Rzl.cells own_Rzl.slots := by
  refine own_start (plainFor_of_name own_pn1) ?_
  intro p e s m below meth c s₁ X0 hx hZ hby hml hret hlk hown hnm e0
  have hown : s.vm.findClass "com/example/allotrope/allotrope/procure/CoverQueueDecidedPinLaw" = some m.cls := hown
  have hml : c.maxLocals = 4 := hml
  have N0 := Fr.nil n0
  refine own_cast (own_efzl m p1 p2 p3 p4) ?_
  refine own_s s₁ (mkF m 5 #[iv p1, iv p2, iv p3, iv p4] [(.int p2), (.int p3), (.int (p1 * p4))]) (fun _ k => XS.iloadN X0.here hx rfl (hb hby own_dzl_0) rfl  (XS.iloadN X0.here hx rfl (hb hby own_dzl_1) rfl  (XS.imul X0.here hx rfl (hb hby own_dzl_2) rfl (XS.iloadN X0.here hx rfl (hb hby own_dzl_3) rfl  (XS.iloadN X0.here hx rfl (hb hby own_dzl_4) rfl  k))))) ?_
  refine own_s s₁ (mkF m 6 #[iv p1, iv p2, iv p3, iv p4] [(.int (p3 * p2)), (.int (p1 * p4))]) (fun _ k => XS.imul X0.here hx rfl (hb hby own_dzl_5) rfl k) ?_
  by_cases c6 : (p1 * p4) < (p3 * p2)
  · refine own_s s₁ (mkF m 14 #[iv p1, iv p2, iv p3, iv p4] [(.int 0)]) (fun _ k => XS.icmpYes X0.here hx rfl (pc0 := 6) (pc' := 13) rfl (hb hby own_dzl_6) rfl (tlt c6).1 (by decide) (by decide) (XS.iconst X0.here hx rfl (hb hby own_dzl_13) k)) ?_
    exact own_finZ X0 hx (t := .boolean) hret (by simp) (z' := (0 : Int32)) rfl (hb hby own_dzl_14) (own_end (Qv := (own_Qzl Z p1 p2 p3 p4 h0 n0)) X0 (own_some hret) hlk (by decide) (by decide) e0 ⟨by simp [own_b, c6], N0, rfl⟩)
  · refine own_s s₁ (mkF m 14 #[iv p1, iv p2, iv p3, iv p4] [(.int 1)]) (fun _ k => XS.icmpNo X0.here hx rfl (hb hby own_dzl_6) rfl (flt c6).1 (XS.iconst X0.here hx rfl (hb hby own_dzl_9) (XS.goto X0.here hx rfl (pc0 := 10) (pc' := 14) rfl (hb hby own_dzl_10) (by decide) (by decide) k))) ?_
    exact own_finZ X0 hx (t := .boolean) hret (by simp) (z' := (1 : Int32)) rfl (hb hby own_dzl_14) (own_end (Qv := (own_Qzl Z p1 p2 p3 p4 h0 n0)) X0 (own_some hret) hlk (by decide) (by decide) e0 ⟨by simp [own_b, c6], N0, rfl⟩)
abbrev own_y10 : MethodName := ⟨"java/lang/Math", "min", "(II)I"⟩
theorem own_dmn_0 : decode jdk_29_method_69_code 0 = .ok (.iload_n 0, 1) := by decide +kernel
theorem own_dmn_1 : decode jdk_29_method_69_code 1 = .ok (.iload_n 1, 1) := by decide +kernel
theorem own_dmn_2 : decode jdk_29_method_69_code 2 = .ok (.if_icmp .gt 7, 3) := by decide +kernel
theorem own_dmn_5 : decode jdk_29_method_69_code 5 = .ok (.iload_n 0, 1) := by decide +kernel
theorem own_dmn_6 : decode jdk_29_method_69_code 6 = .ok (.goto 4, 3) := by decide +kernel
theorem own_dmn_9 : decode jdk_29_method_69_code 9 = .ok (.iload_n 1, 1) := by decide +kernel
theorem own_dmn_10 : decode jdk_29_method_69_code 10 = .ok (.ireturn, 1) := by decide +kernel
theorem own_efmn (m : MethodId) (x0 : Int32) (x1 : Int32) : entryFrame m #[(.int x0), (.int x1)] 2 = mkF m 0 #[iv x0, iv x1] [] := by first | (simp [entryFrame, mkF, argsToLocals, Value.category]; done) | rfl
def own_Qmn (Z : State) (p1 : Int32) (p2 : Int32) (h0 : Heap) (n0 : Nat) : Option Value → Heap → List Loc → Prop := fun v h L => v = some (.int (own_mn p1 p2)) ∧ Fr n0 L ∧ h = h0
def own_Rmn : Room := { frames := 0, cells := 0, slots := 0, locals := 0 }
set_option maxRecDepth 65536 in
set_option maxHeartbeats 40000000 in
theorem own_rmmn (l : Launch) (Z : State) (a0 : Array Value) (hw : ∀ d ∈ tables_1, d.before a0 Z = true) (ws : List Jvm.Cond) (p1 : Int32) (p2 : Int32) (h0 : Heap) (n0 : Nat) (Z0 : n0 ≤ h0.size) :
    own_Met l Z own_y10 jdk_29_method_69_code 2 (some .int) ws own_Rmn h0 #[(.int p1), (.int p2)] (own_Qmn Z p1 p2 h0 n0) own_Rmn.cells own_Rmn.slots := by
  refine own_start (Jvm.Free.JP.mathPlain rfl (by decide +kernel)) ?_
  intro p e s m below meth c s₁ X0 hx hZ hby hml hret hlk hown hnm e0
  have hown : s.vm.findClass "java/lang/Math" = some m.cls := hown
  have hml : c.maxLocals = 2 := hml
  have N0 := Fr.nil n0
  refine own_cast (own_efmn m p1 p2) ?_
  refine own_s s₁ (mkF m 2 #[iv p1, iv p2] [(.int p2), (.int p1)]) (fun _ k => XS.iloadN X0.here hx rfl (hb hby own_dmn_0) rfl  (XS.iloadN X0.here hx rfl (hb hby own_dmn_1) rfl  k)) ?_
  by_cases c2 : p2 < p1
  · refine own_s s₁ (mkF m 10 #[iv p1, iv p2] [(.int p2)]) (fun _ k => XS.icmpYes X0.here hx rfl (pc0 := 2) (pc' := 9) rfl (hb hby own_dmn_2) rfl (tlt c2).2.2.1 (by decide) (by decide) (XS.iloadN X0.here hx rfl (hb hby own_dmn_9) rfl  k)) ?_
    exact own_finI X0 hx hret (hb hby own_dmn_10) (own_end (Qv := (own_Qmn Z p1 p2 h0 n0)) X0 (own_some hret) hlk (by decide) (by decide) e0 ⟨by simp [own_mn, c2], N0, rfl⟩)
  · refine own_s s₁ (mkF m 10 #[iv p1, iv p2] [(.int p1)]) (fun _ k => XS.icmpNo X0.here hx rfl (hb hby own_dmn_2) rfl (flt c2).2.2.1 (XS.iloadN X0.here hx rfl (hb hby own_dmn_5) rfl  (XS.goto X0.here hx rfl (pc0 := 6) (pc' := 10) rfl (hb hby own_dmn_6) (by decide) (by decide) k))) ?_
    exact own_finI X0 hx hret (hb hby own_dmn_10) (own_end (Qv := (own_Qmn Z p1 p2 h0 n0)) X0 (own_some hret) hlk (by decide) (by decide) e0 ⟨by simp [own_mn, c2], N0, rfl⟩)
def own_rg (lo hi : Int) (z : Int32) : Prop := lo ≤ z.toInt ∧ z.toInt ≤ hi
theorem own_rgUp {lo hi : Int} {z : Int32} (h : own_rg lo hi z) (h1 : -8 ≤ lo := by decide) (h2 : hi ≤ 8 := by decide) : own_rg (-8) 8 z := ⟨by have := h.1; omega, by have := h.2; omega⟩
theorem own_m8 {lo hi : Int} {z : Int32} (h : own_rg lo hi z) (h1 : -8 ≤ lo := by decide) (h2 : hi ≤ 8 := by decide) : own_Mg 8 z.toInt64 := own_mgIK (own_rgUp h h1 h2).1 (own_rgUp h h1 h2).2
theorem own_a7 (x : Int32) : own_rg 0 7 (x &&& (7 : Int32)) := by
  have e0 : (0 : Int32).toInt = 0 := rfl
  have e7 : (7 : Int32).toInt = 7 := rfl
  have h := Jvm.Kit.i32_and_bounds x (m := 7) (by decide)
  have h1 := h.1
  have h2 := h.2
  rw [Int32.le_iff_toInt_le] at h1 h2
  exact ⟨by omega, by omega⟩
theorem own_a7m (x : Int32) : own_rg (-2) 5 ((x &&& (7 : Int32)) - (2 : Int32)) := by
  have e2 : (2 : Int32).toInt = 2 := rfl
  obtain ⟨h1, h2⟩ := own_a7 x
  have e : ((x &&& (7 : Int32)) - (2 : Int32)).toInt = (x &&& (7 : Int32)).toInt - 2 := by
    rw [Int32.toInt_sub, e2]; exact Int.bmod_eq_of_le (by omega) (by omega)
  exact ⟨by omega, by omega⟩
theorem own_p64 {z : Int32} (h : (0 : Int32) < z) : (0 : Int64) < z.toInt64 := by
  have e0 : (0 : Int32).toInt = 0 := rfl
  have e1 : (0 : Int64).toInt = 0 := rfl
  rw [Int32.lt_iff_toInt_lt] at h
  rw [Int64.lt_iff_toInt_lt, Int32.toInt_toInt64]; omega
theorem own_n64 {z : Int32} (h : ¬ (0 : Int32) < z) : ¬ (0 : Int64) < z.toInt64 := by
  have e0 : (0 : Int32).toInt = 0 := rfl
  have e1 : (0 : Int64).toInt = 0 := rfl
  rw [Int32.lt_iff_toInt_lt] at h
  rw [Int64.lt_iff_toInt_lt, Int32.toInt_toInt64]; omega
theorem own_w64 {z : Int32} (h : own_rg 0 7 z) : ¬ z.toInt64 < (0 : Int64) := by
  have e1 : (0 : Int64).toInt = 0 := rfl
  rw [Int64.lt_iff_toInt_lt, Int32.toInt_toInt64]; have := h.1; omega
theorem own_mulB {a b : Int32} (ha : own_rg (-8) 8 a) (hb : own_rg (-8) 8 b) : -64 ≤ a.toInt * b.toInt ∧ a.toInt * b.toInt ≤ 64 := by
  have q : (a.toInt * b.toInt).natAbs ≤ 8 * 8 := by
    rw [Int.natAbs_mul]; obtain ⟨a1, a2⟩ := ha; obtain ⟨b1, b2⟩ := hb
    exact Nat.mul_le_mul (by omega) (by omega)
  omega
theorem own_cmp {a b c d : Int32} (ha : own_rg (-8) 8 a) (hb : own_rg (-8) 8 b) (hc : own_rg (-8) 8 c) (hd : own_rg (-8) 8 d) : (a.toInt64 * b.toInt64 < c.toInt64 * d.toInt64) ↔ a * b < c * d := by
  have q1 := own_mulB ha hb
  have q2 := own_mulB hc hd
  have e1 : (a * b).toInt = a.toInt * b.toInt := by rw [Int32.toInt_mul]; exact Int.bmod_eq_of_le (by omega) (by omega)
  have e2 : (c * d).toInt = c.toInt * d.toInt := by rw [Int32.toInt_mul]; exact Int.bmod_eq_of_le (by omega) (by omega)
  have e3 : (a.toInt64 * b.toInt64).toInt = a.toInt * b.toInt := by rw [Int64.toInt_mul, Int32.toInt_toInt64, Int32.toInt_toInt64]; exact Int.bmod_eq_of_le (by omega) (by omega)
  have e4 : (c.toInt64 * d.toInt64).toInt = c.toInt * d.toInt := by rw [Int64.toInt_mul, Int32.toInt_toInt64, Int32.toInt_toInt64]; exact Int.bmod_eq_of_le (by omega) (by omega)
  rw [Int64.lt_iff_toInt_lt, Int32.lt_iff_toInt_lt, e1, e2, e3, e4]
theorem own_lT {W0 W1 B0 B1 : Int32} {l0 h0 l1 h1 : Int} (hW0 : own_rg 0 7 W0) (hW1 : own_rg 0 7 W1) (hB0 : own_rg l0 h0 B0) (hB1 : own_rg l1 h1 B1) (hz : B0 * W1 < B1 * W0) (a1 : -8 ≤ l0 := by decide) (a2 : h0 ≤ 8 := by decide) (a3 : -8 ≤ l1 := by decide) (a4 : h1 ≤ 8 := by decide) : own_ld (B1.toInt64 * W0.toInt64) (B0.toInt64 * W1.toInt64) (1 : Int32) (0 : Int32) = true := by
  have := (own_cmp (own_rgUp hB0 a1 a2) (own_rgUp hW1) (own_rgUp hB1 a3 a4) (own_rgUp hW0)).mpr hz
  simp [own_ld, this]
theorem own_lF {W0 W1 B0 B1 : Int32} {l0 h0 l1 h1 : Int} (hW0 : own_rg 0 7 W0) (hW1 : own_rg 0 7 W1) (hB0 : own_rg l0 h0 B0) (hB1 : own_rg l1 h1 B1) (hz : ¬ B0 * W1 < B1 * W0) (a1 : -8 ≤ l0 := by decide) (a2 : h0 ≤ 8 := by decide) (a3 : -8 ≤ l1 := by decide) (a4 : h1 ≤ 8 := by decide) : own_ld (B1.toInt64 * W0.toInt64) (B0.toInt64 * W1.toInt64) (1 : Int32) (0 : Int32) = false := by
  have : ¬ B0.toInt64 * W1.toInt64 < B1.toInt64 * W0.toInt64 := fun q => hz ((own_cmp (own_rgUp hB0 a1 a2) (own_rgUp hW1) (own_rgUp hB1 a3 a4) (own_rgUp hW0)).mp q)
  simp +decide [own_ld, this]
theorem own_k0T {W0 W1 B0 B1 : Int32} {l0 h0 l1 h1 : Int} (hW0 : own_rg 0 7 W0) (hW1 : own_rg 0 7 W1) (hB0 : own_rg l0 h0 B0) (hB1 : own_rg l1 h1 B1) (hz : B0 * W1 < B1 * W0) (a1 : -8 ≤ l0 := by decide) (a2 : h0 ≤ 8 := by decide) (a3 : -8 ≤ l1 := by decide) (a4 : h1 ≤ 8 := by decide) : own_ld (B1.toInt64 * W0.toInt64) (B0.toInt64 * W1.toInt64) (1 : Int32) (0 : Int32) = true := own_lT hW0 hW1 hB0 hB1 hz a1 a2 a3 a4
theorem own_k0F {W0 W1 B0 B1 : Int32} {l0 h0 l1 h1 : Int} (hW0 : own_rg 0 7 W0) (hW1 : own_rg 0 7 W1) (hB0 : own_rg l0 h0 B0) (hB1 : own_rg l1 h1 B1) (hz : ¬ B0 * W1 < B1 * W0) (a1 : -8 ≤ l0 := by decide) (a2 : h0 ≤ 8 := by decide) (a3 : -8 ≤ l1 := by decide) (a4 : h1 ≤ 8 := by decide) : own_ld (B1.toInt64 * W0.toInt64) (B0.toInt64 * W1.toInt64) (1 : Int32) (0 : Int32) = false := own_lF hW0 hW1 hB0 hB1 hz a1 a2 a3 a4
theorem own_k1F {W0 W1 B0 B1 : Int32} {l0 h0 l1 h1 : Int} (hW0 : own_rg 0 7 W0) (hW1 : own_rg 0 7 W1) (hB0 : own_rg l0 h0 B0) (hB1 : own_rg l1 h1 B1) (hz : B0 * W1 < B1 * W0) (a1 : -8 ≤ l0 := by decide) (a2 : h0 ≤ 8 := by decide) (a3 : -8 ≤ l1 := by decide) (a4 : h1 ≤ 8 := by decide) : own_ld (B0.toInt64 * W1.toInt64) (B1.toInt64 * W0.toInt64) (0 : Int32) (1 : Int32) = false := by
  have h := (own_cmp (own_rgUp hB0 a1 a2) (own_rgUp hW1) (own_rgUp hB1 a3 a4) (own_rgUp hW0)).mpr hz
  have h2 : ¬ B1.toInt64 * W0.toInt64 < B0.toInt64 * W1.toInt64 := fun q => by rw [Int64.lt_iff_toInt_lt] at h q; omega
  simp [own_ld, h, h2]
theorem own_k1T {W0 W1 B0 B1 : Int32} {l0 h0 l1 h1 : Int} (hW0 : own_rg 0 7 W0) (hW1 : own_rg 0 7 W1) (hB0 : own_rg l0 h0 B0) (hB1 : own_rg l1 h1 B1) (hz : ¬ B0 * W1 < B1 * W0) (a1 : -8 ≤ l0 := by decide) (a2 : h0 ≤ 8 := by decide) (a3 : -8 ≤ l1 := by decide) (a4 : h1 ≤ 8 := by decide) : own_ld (B0.toInt64 * W1.toInt64) (B1.toInt64 * W0.toInt64) (0 : Int32) (1 : Int32) = true := by
  have h : ¬ B0.toInt64 * W1.toInt64 < B1.toInt64 * W0.toInt64 := fun q => hz ((own_cmp (own_rgUp hB0 a1 a2) (own_rgUp hW1) (own_rgUp hB1 a3 a4) (own_rgUp hW0)).mp q)
  simp +decide [own_ld, h]
theorem own_mnR {x B : Int32} (h : own_rg (-2) 5 B) : own_rg (-8) 8 (own_mn ((x &&& (7 : Int32)) - (2 : Int32)) B) := by
  unfold own_mn
  split
  · exact own_rgUp h
  · exact own_rgUp (own_a7m x)

theorem own_pd3 : parseMethodDescriptor "(II)V" = some ⟨[.int, .int], none⟩ := by decide +kernel
theorem own_pd4 : parseMethodDescriptor "(IDD)V" = some ⟨[.int, .double, .double], none⟩ := by decide +kernel
theorem own_pd5 : parseMethodDescriptor "()Z" = some ⟨[], some .boolean⟩ := by decide +kernel
theorem own_pd6 : parseMethodDescriptor "(IIII)Z" = some ⟨[.int, .int, .int, .int], some .boolean⟩ := by decide +kernel
theorem own_pd7 : parseMethodDescriptor "(II)I" = some ⟨[.int, .int], some .int⟩ := by decide +kernel
theorem own_pd8 : parseMethodDescriptor "(D)V" = some ⟨[.double], none⟩ := by decide +kernel
theorem own_ef0 (m : MethodId) (x0 : Int32) (x1 : Int32) (x2 : Int32) (x3 : Int32) : entryFrame m #[(.int x0), (.int x1), (.int x2), (.int x3)] maxLocals = mkF m 0 #[iv x0, iv x1, iv x2, iv x3, u_, u_, u_, u_, u_, u_, u_, u_, u_, u_, u_, u_, u_, u_, u_] [] := by first | (simp [entryFrame, mkF, argsToLocals, Value.category, maxLocals]; done) | rfl
def own_Q0 (Z : State) (p1 : Int32) (p2 : Int32) (p3 : Int32) (p4 : Int32) (h0 : Heap) (n0 : Nat) : Option Value → Heap → List Loc → Prop := fun v h L => v = some (.int 1) ∧ Fr n0 L
set_option maxRecDepth 65536 in
set_option maxHeartbeats 40000000 in
theorem own_rm0 (l : Launch) (Z : State) (a0 : Array Value) (hw : ∀ d ∈ tables_1, d.before a0 Z = true) (ws : List Jvm.Cond) (p1 : Int32) (p2 : Int32) (p3 : Int32) (p4 : Int32) (h0 : Heap) (n0 : Nat) (Z0 : n0 ≤ h0.size) :
    own_Met l Z x code maxLocals ret ws room_1 h0 #[(.int p1), (.int p2), (.int p3), (.int p4)] (own_Q0 Z p1 p2 p3 p4 h0 n0) 24 128 := by
  refine own_start (plainFor_of_name own_pn1) ?_
  intro p e s m below meth c s₁ X0 hx hZ hby hml hret hlk hown hnm e0
  have hown : s.vm.findClass "com/example/allotrope/allotrope/procure/CoverQueueDecidedPinLaw" = some m.cls := hown
  have hml : c.maxLocals = 19 := hml
  have N0 := Fr.nil n0
  refine own_cast (own_ef0 m p1 p2 p3 p4) ?_
  refine own_s s₁ (mkF m 7 #[iv p1, iv p2, iv p3, iv p4, iv (p2 &&& (7 : Int32)), u_, u_, u_, u_, u_, u_, u_, u_, u_, u_, u_, u_, u_, u_] [(.int p2)]) (fun _ k => XS.iloadN X0.here hx rfl (hb hby at_0) rfl  (XS.bipush X0.here hx rfl (hb hby at_1) (XS.iand X0.here hx rfl (hb hby at_3) rfl (XS.istore X0.here hx rfl (hb hby at_4) rfl (l' := #[iv p1, iv p2, iv p3, iv p4, iv (p2 &&& (7 : Int32)), u_, u_, u_, u_, u_, u_, u_, u_, u_, u_, u_, u_, u_, u_]) rfl (XS.iloadN X0.here hx rfl (hb hby at_6) rfl  k))))) ?_
  refine own_s s₁ (mkF m 14 #[iv p1, iv p2, iv p3, iv p4, iv (p2 &&& (7 : Int32)), iv (((p2.toUInt32 >>> ((3 : Int32) &&& 31).toUInt32).toInt32) &&& (7 : Int32)), u_, u_, u_, u_, u_, u_, u_, u_, u_, u_, u_, u_, u_] []) (fun _ k => XS.iconst X0.here hx rfl (hb hby at_7) (XS.iushr X0.here hx rfl (hb hby at_8) rfl (XS.bipush X0.here hx rfl (hb hby at_9) (XS.iand X0.here hx rfl (hb hby at_11) rfl (XS.istore X0.here hx rfl (hb hby at_12) rfl (l' := #[iv p1, iv p2, iv p3, iv p4, iv (p2 &&& (7 : Int32)), iv (((p2.toUInt32 >>> ((3 : Int32) &&& 31).toUInt32).toInt32) &&& (7 : Int32)), u_, u_, u_, u_, u_, u_, u_, u_, u_, u_, u_, u_, u_]) rfl k))))) ?_
  refine own_s s₁ (mkF m 20 #[iv p1, iv p2, iv p3, iv p4, iv (p2 &&& (7 : Int32)), iv (((p2.toUInt32 >>> ((3 : Int32) &&& 31).toUInt32).toInt32) &&& (7 : Int32)), u_, u_, u_, u_, u_, u_, u_, u_, u_, u_, u_, u_, u_] [(.int ((p3 &&& (7 : Int32)) - (2 : Int32)))]) (fun _ k => XS.iloadN X0.here hx rfl (hb hby at_14) rfl  (XS.bipush X0.here hx rfl (hb hby at_15) (XS.iand X0.here hx rfl (hb hby at_17) rfl (XS.iconst X0.here hx rfl (hb hby at_18) (XS.isub X0.here hx rfl (hb hby at_19) rfl k))))) ?_
  refine own_s s₁ (mkF m 27 #[iv p1, iv p2, iv p3, iv p4, iv (p2 &&& (7 : Int32)), iv (((p2.toUInt32 >>> ((3 : Int32) &&& 31).toUInt32).toInt32) &&& (7 : Int32)), iv ((p3 &&& (7 : Int32)) - (2 : Int32)), u_, u_, u_, u_, u_, u_, u_, u_, u_, u_, u_, u_] [(.int 7), (.int ((p3.toUInt32 >>> ((3 : Int32) &&& 31).toUInt32).toInt32))]) (fun _ k => XS.istore X0.here hx rfl (hb hby at_20) rfl (l' := #[iv p1, iv p2, iv p3, iv p4, iv (p2 &&& (7 : Int32)), iv (((p2.toUInt32 >>> ((3 : Int32) &&& 31).toUInt32).toInt32) &&& (7 : Int32)), iv ((p3 &&& (7 : Int32)) - (2 : Int32)), u_, u_, u_, u_, u_, u_, u_, u_, u_, u_, u_, u_]) rfl (XS.iloadN X0.here hx rfl (hb hby at_22) rfl  (XS.iconst X0.here hx rfl (hb hby at_23) (XS.iushr X0.here hx rfl (hb hby at_24) rfl (XS.bipush X0.here hx rfl (hb hby at_25) k))))) ?_
  refine own_s s₁ (mkF m 32 #[iv p1, iv p2, iv p3, iv p4, iv (p2 &&& (7 : Int32)), iv (((p2.toUInt32 >>> ((3 : Int32) &&& 31).toUInt32).toInt32) &&& (7 : Int32)), iv ((p3 &&& (7 : Int32)) - (2 : Int32)), iv ((((p3.toUInt32 >>> ((3 : Int32) &&& 31).toUInt32).toInt32) &&& (7 : Int32)) - (2 : Int32)), u_, u_, u_, u_, u_, u_, u_, u_, u_, u_, u_] []) (fun _ k => XS.iand X0.here hx rfl (hb hby at_27) rfl (XS.iconst X0.here hx rfl (hb hby at_28) (XS.isub X0.here hx rfl (hb hby at_29) rfl (XS.istore X0.here hx rfl (hb hby at_30) rfl (l' := #[iv p1, iv p2, iv p3, iv p4, iv (p2 &&& (7 : Int32)), iv (((p2.toUInt32 >>> ((3 : Int32) &&& 31).toUInt32).toInt32) &&& (7 : Int32)), iv ((p3 &&& (7 : Int32)) - (2 : Int32)), iv ((((p3.toUInt32 >>> ((3 : Int32) &&& 31).toUInt32).toInt32) &&& (7 : Int32)) - (2 : Int32)), u_, u_, u_, u_, u_, u_, u_, u_, u_, u_, u_]) rfl k)))) ?_
  have J32 : ∀ (W0 W1 B0 B1 : Int32), own_rg 0 7 W0 → own_rg 0 7 W1 → own_rg (-2) 5 B0 → own_rg (-2) 5 B1 → own_Go p e below (own_Post (own_Q0 Z p1 p2 p3 p4 h0 n0) 24 128 s) s₁ (mkF m 32 #[iv p1, iv p2, iv p3, iv p4, iv W0, iv W1, iv B0, iv B1, u_, u_, u_, u_, u_, u_, u_, u_, u_, u_, u_] []) := by
    intro W0 W1 B0 B1 hW0 hW1 hB0 hB1
    by_cases hb0 : (0 : Int32) < B0
    · have kk_hb0 := hb0
      by_cases hb1 : (0 : Int32) < B1
      · have kk_hb1 := hb1
        by_cases hz : B0 * W1 < B1 * W0
        · have kk_hz := hz
          obtain ⟨T1, h1, X1, e1, E1, A1, D1, -, st1⟩ := newO X0 hx hZ hown (own_h hw 0 rfl) (own_h hw 1 rfl) (own_h hw 2 rfl) e0 (g := (mkF m 32 #[iv p1, iv p2, iv p3, iv p4, iv W0, iv W1, iv B0, iv B1, u_, u_, u_, u_, u_, u_, u_, u_, u_, u_, u_] [])) rfl (hb hby at_32) (by decide) (by decide)
          obtain ⟨b1, g1⟩ : ∃ z, z = h0.size := ⟨_, rfl⟩
          have g_b1 : n0 ≤ b1 := Nat.le_trans Z0 (Nat.le_of_eq g1.symm)
          have sz_b1 : h0.size ≤ b1 := Nat.le_trans (Keep.refl h0 []).1 (Nat.le_of_eq g1.symm)
          rw [← g1] at A1 D1 st1
          have K1 : Keep h0 h1 [] := (Keep.refl h0 []).ext E1
          have Z1 := Nat.le_trans Z0 E1.1
          have f2 : Fld Z h1 b1 "com/example/allotrope/allotrope/procure/CoverQueue" "reach" "I" (.int 0) := D1 (Or.inr (own_h hw 10 rfl)) (ty := .int) (by decide)
          have f3 : Fld Z h1 b1 "com/example/allotrope/allotrope/procure/CoverQueue" "weights" "[D" .null := D1 (Or.inr (own_h hw 13 rfl)) (ty := (.array .double)) (by decide)
          have f4 : Fld Z h1 b1 "com/example/allotrope/allotrope/procure/CoverQueue" "bounds" "[D" .null := D1 (Or.inr (own_h hw 15 rfl)) (ty := (.array .double)) (by decide)
          have f5 : Fld Z h1 b1 "com/example/allotrope/allotrope/procure/CoverQueue" "setAt" "[J" .null := D1 (Or.inr (own_h hw 18 rfl)) (ty := (.array .long)) (by decide)
          have f6 : Fld Z h1 b1 "com/example/allotrope/allotrope/procure/CoverQueue" "heap" "[I" .null := D1 (Or.inr (own_h hw 21 rfl)) (ty := (.array .int)) (by decide)
          have f7 : Fld Z h1 b1 "com/example/allotrope/allotrope/procure/CoverQueue" "forgotten" "J" (.long 0) := D1 (Or.inl (own_h hw 33 rfl)) (ty := .long) (by decide)
          have f8 : Fld Z h1 b1 "com/example/allotrope/allotrope/procure/CoverQueue" "reckonings" "I" (.int 0) := D1 (Or.inl (own_h hw 35 rfl)) (ty := .int) (by decide)
          have f9 : Fld Z h1 b1 "com/example/allotrope/allotrope/procure/CoverQueue" "best" "I" (.int 0) := D1 (Or.inl (own_h hw 37 rfl)) (ty := .int) (by decide)
          have f10 : Fld Z h1 b1 "com/example/allotrope/allotrope/procure/CoverQueue" "size" "I" (.int 0) := D1 (Or.inl (own_h hw 39 rfl)) (ty := .int) (by decide)
          refine own_s T1 (mkF m 35 #[iv p1, iv p2, iv p3, iv p4, iv W0, iv W1, iv B0, iv B1, u_, u_, u_, u_, u_, u_, u_, u_, u_, u_, u_] [(.ref b1)]) st1 ?_
          refine own_s T1 (mkF m 38 #[iv p1, iv p2, iv p3, iv p4, iv W0, iv W1, iv B0, iv B1, u_, u_, u_, u_, u_, u_, u_, u_, u_, u_, u_] [(.int p1), (.int 2), (.ref b1), (.ref b1)]) (fun _ k => XS.dup X1.here hx rfl (hb hby at_35) rfl rfl (XS.iconst X1.here hx rfl (hb hby at_36) (XS.iloadN X1.here hx rfl (hb hby at_37) rfl  k))) ?_
          obtain ⟨v11, T11, L11, X11, hQ11, st11⟩ := own_callI X1 hx hZ (y := own_y8) (W := 1) (a := b1) rfl hown (own_h hw 3 rfl) (own_h hw 4 rfl) (own_h hw 2 rfl) (own_h hw 5 rfl) (by decide) (own_rmini l Z a0 hw [] b1 p1 h1 n0 Z1 g_b1 A1 f2 f3 f4 f5 f6 f7 f8 f9 f10) (by decide) (by decide) (g := (mkF m 38 #[iv p1, iv p2, iv p3, iv p4, iv W0, iv W1, iv B0, iv B1, u_, u_, u_, u_, u_, u_, u_, u_, u_, u_, u_] [(.int p1), (.int 2), (.ref b1), (.ref b1)])) rfl (by rw [hml]; rfl) (argsL := [(.int 2), (.int p1)]) (rest := [(.ref b1)]) rfl (lenOf own_pd3 rfl) rfl (by show 2 * 0 + _ ≤ _; exact Nat.le_of_eq rfl) (hb hby at_38) e1 (by decide) (by decide)
          obtain ⟨rfl, Nq11, Kq11, wA11, bA11, sA11, hA11, kw11, kb11, ks11, kh11, hNE, hGE, hq11⟩ := hQ11
          have N11 := Fr.app N0 Nq11
          have Z11 := Nat.le_trans Z1 Kq11.1
          obtain ⟨u12_0, u12_1, u12_2, u12_3, u12_4, u12_5, u12_6, u12_7, u12_8, u12_9, u12_10, u12_11, u12_12, u12_13⟩ := id hq11
          refine own_s T11 (mkF m 41 #[iv p1, iv p2, iv p3, iv p4, iv W0, iv W1, iv B0, iv B1, u_, u_, u_, u_, u_, u_, u_, u_, u_, u_, u_] [(.ref b1)]) st11 ?_
          refine own_s T11 (mkF m 45 #[iv p1, iv p2, iv p3, iv p4, iv W0, iv W1, iv B0, iv B1, rv b1, u_, u_, u_, u_, u_, u_, u_, u_, u_, u_] [(.ref b1)]) (fun _ k => XS.astore X11.here hx rfl (hb hby at_41) rfl rfl (l' := #[iv p1, iv p2, iv p3, iv p4, iv W0, iv W1, iv B0, iv B1, rv b1, u_, u_, u_, u_, u_, u_, u_, u_, u_, u_]) rfl (XS.aload X11.here hx rfl (hb hby at_43) rfl rfl k)) ?_
          obtain ⟨v13, T13, L13, X13, hQ13, st13⟩ := own_callV X11 hx hZ (y := own_y4) (z := own_y4) (W := 0) (a := b1) hown (own_h hw 22 rfl) (own_h hw 23 rfl) (notFace_of_selects (args := #[]) (mvT hZ (own_h hw 25 rfl))) (own_h hw 25 rfl) (own_h hw 24 rfl) (own_h hw 2 rfl) (own_h hw 26 rfl) (by decide) (own_rmsta l Z a0 hw [] b1 wA11 bA11 sA11 hA11 kw11 kb11 ks11 kh11 p1 0 0 0 0 (0 : Int64) (0 : Int64) (0 : Int32) (0 : Int32) (0 : Int64) (0 : Int32) (0 : Int32) (0 : Int32) T11.heap n0 Z11 ⟨u12_0, u12_1, u12_2, u12_3, u12_4, u12_5, u12_6, u12_7, u12_8, u12_9, u12_10, u12_11, u12_12, u12_13⟩ hNE hGE own_mg8 own_mg8 own_mg8 own_mg8) (by decide) (by decide) u12_0 (g := (mkF m 45 #[iv p1, iv p2, iv p3, iv p4, iv W0, iv W1, iv B0, iv B1, rv b1, u_, u_, u_, u_, u_, u_, u_, u_, u_, u_] [(.ref b1)])) rfl (by rw [hml]; rfl) (argsL := []) (rest := []) rfl (lenOf own_pd1 rfl) rfl (by show 2 * 0 + _ ≤ _; exact Nat.le_of_eq rfl) (hb hby at_45) rfl (by decide) (by decide)
          obtain ⟨rfl, Nq13, Kq13, hq13⟩ := hQ13
          have N13 := Fr.app N11 Nq13
          have Z13 := Nat.le_trans Z11 Kq13.1
          obtain ⟨u14_0, u14_1, u14_2, u14_3, u14_4, u14_5, u14_6, u14_7, u14_8, u14_9, u14_10, u14_11, u14_12, u14_13⟩ := id hq13
          refine own_s T13 (mkF m 48 #[iv p1, iv p2, iv p3, iv p4, iv W0, iv W1, iv B0, iv B1, rv b1, u_, u_, u_, u_, u_, u_, u_, u_, u_, u_] []) st13 ?_
          refine own_s T13 (mkF m 53 #[iv p1, iv p2, iv p3, iv p4, iv W0, iv W1, iv B0, iv B1, rv b1, u_, u_, u_, u_, u_, u_, u_, u_, u_, u_] [(.int W0), (.int 0), (.ref b1)]) (fun _ k => XS.aload X13.here hx rfl (hb hby at_48) rfl rfl (XS.iconst X13.here hx rfl (hb hby at_50) (XS.iload X13.here hx rfl (hb hby at_51) rfl  k))) ?_
          have mg15 := (own_m8 hW0)
          refine own_s T13 (mkF m 56 #[iv p1, iv p2, iv p3, iv p4, iv W0, iv W1, iv B0, iv B1, rv b1, u_, u_, u_, u_, u_, u_, u_, u_, u_, u_] [(.int B0), (.double (FP.l2d W0.toInt64)), (.int 0), (.ref b1)]) (fun _ k => XS.i2dS X13.here hx rfl (hb hby at_53) rfl (i2d_w _) (XS.iload X13.here hx rfl (hb hby at_54) rfl  k)) ?_
          have mg16 := (own_m8 hB0)
          refine own_s T13 (mkF m 57 #[iv p1, iv p2, iv p3, iv p4, iv W0, iv W1, iv B0, iv B1, rv b1, u_, u_, u_, u_, u_, u_, u_, u_, u_, u_] [(.double (FP.l2d B0.toInt64)), (.double (FP.l2d W0.toInt64)), (.int 0), (.ref b1)]) (fun _ k => XS.i2dS X13.here hx rfl (hb hby at_56) rfl (i2d_w _) k) ?_
          obtain ⟨v17, T17, L17, X17, hQ17, st17⟩ := own_callV X13 hx hZ (y := own_y5) (z := own_y5) (W := 0) (a := b1) hown (own_h hw 40 rfl) (own_h hw 41 rfl) (notFace_of_selects (args := #[]) (mvT hZ (own_h hw 43 rfl))) (own_h hw 43 rfl) (own_h hw 42 rfl) (own_h hw 2 rfl) (own_h hw 44 rfl) (by decide) (own_rma0T l Z a0 hw [] b1 wA11 bA11 sA11 hA11 kw11 kb11 ks11 kh11 p1 0 0 0 0 (0 : Int64) (0 : Int64) (0 : Int32) (0 : Int32) ((0 : Int64) + (1 : Int64)) (0 : Int32) (-1 : Int32) W0.toInt64 B0.toInt64 T13.heap n0 Z13 ⟨u14_0, u14_1, u14_2, u14_3, u14_4, u14_5, u14_6, u14_7, u14_8, u14_9, u14_10, u14_11, u14_12, u14_13⟩ hNE hGE own_mg8 own_mg8 own_mg8 own_mg8 mg15 mg16 (own_p64 hb0)) (by decide) (by decide) u14_0 (g := (mkF m 57 #[iv p1, iv p2, iv p3, iv p4, iv W0, iv W1, iv B0, iv B1, rv b1, u_, u_, u_, u_, u_, u_, u_, u_, u_, u_] [(.double (FP.l2d B0.toInt64)), (.double (FP.l2d W0.toInt64)), (.int 0), (.ref b1)])) rfl (by rw [hml]; rfl) (argsL := [(.int 0), (.double (FP.l2d W0.toInt64)), (.double (FP.l2d B0.toInt64))]) (rest := []) rfl (lenOf own_pd4 rfl) rfl (by show 2 * 0 + _ ≤ _; exact Nat.le_of_eq rfl) (hb hby at_57) rfl (by decide) (by decide)
          obtain ⟨rfl, Nq17, Kq17, hq17⟩ := hQ17
          have N17 := Fr.app N13 Nq17
          have Z17 := Nat.le_trans Z13 Kq17.1
          obtain ⟨u18_0, u18_1, u18_2, u18_3, u18_4, u18_5, u18_6, u18_7, u18_8, u18_9, u18_10, u18_11, u18_12, u18_13⟩ := id hq17
          refine own_s T17 (mkF m 60 #[iv p1, iv p2, iv p3, iv p4, iv W0, iv W1, iv B0, iv B1, rv b1, u_, u_, u_, u_, u_, u_, u_, u_, u_, u_] []) st17 ?_
          refine own_s T17 (mkF m 65 #[iv p1, iv p2, iv p3, iv p4, iv W0, iv W1, iv B0, iv B1, rv b1, u_, u_, u_, u_, u_, u_, u_, u_, u_, u_] [(.int W1), (.int 1), (.ref b1)]) (fun _ k => XS.aload X17.here hx rfl (hb hby at_60) rfl rfl (XS.iconst X17.here hx rfl (hb hby at_62) (XS.iload X17.here hx rfl (hb hby at_63) rfl  k))) ?_
          have mg19 := (own_m8 hW1)
          refine own_s T17 (mkF m 68 #[iv p1, iv p2, iv p3, iv p4, iv W0, iv W1, iv B0, iv B1, rv b1, u_, u_, u_, u_, u_, u_, u_, u_, u_, u_] [(.int B1), (.double (FP.l2d W1.toInt64)), (.int 1), (.ref b1)]) (fun _ k => XS.i2dS X17.here hx rfl (hb hby at_65) rfl (i2d_w _) (XS.iload X17.here hx rfl (hb hby at_66) rfl  k)) ?_
          have mg20 := (own_m8 hB1)
          refine own_s T17 (mkF m 69 #[iv p1, iv p2, iv p3, iv p4, iv W0, iv W1, iv B0, iv B1, rv b1, u_, u_, u_, u_, u_, u_, u_, u_, u_, u_] [(.double (FP.l2d B1.toInt64)), (.double (FP.l2d W1.toInt64)), (.int 1), (.ref b1)]) (fun _ k => XS.i2dS X17.here hx rfl (hb hby at_68) rfl (i2d_w _) k) ?_
          obtain ⟨v21, T21, L21, X21, hQ21, st21⟩ := own_callV X17 hx hZ (y := own_y5) (z := own_y5) (W := 0) (a := b1) hown (own_h hw 40 rfl) (own_h hw 41 rfl) (notFace_of_selects (args := #[]) (mvT hZ (own_h hw 43 rfl))) (own_h hw 43 rfl) (own_h hw 42 rfl) (own_h hw 2 rfl) (own_h hw 44 rfl) (by decide) (own_rma1T l Z a0 hw [] b1 wA11 bA11 sA11 hA11 kw11 kb11 ks11 kh11 p1 W0.toInt64 0 B0.toInt64 0 (((0 : Int64) + (1 : Int64)) - (1 : Int64)) (0 : Int64) (0 : Int32) ((0 : Int64) + (1 : Int64)) (0 : Int32) (-1 : Int32) W1.toInt64 B1.toInt64 T17.heap n0 Z17 ⟨u18_0, u18_1, u18_2, u18_3, u18_4, u18_5, u18_6, u18_7, u18_8, u18_9, u18_10, u18_11, u18_12, u18_13⟩ hNE hGE mg15 own_mg8 mg16 own_mg8 mg19 mg20 (own_p64 hb1) (own_p64 hb0) (own_w64 hW0) (own_w64 hW1) (own_lT hW0 hW1 hB0 hB1 hz)) (by decide) (by decide) u18_0 (g := (mkF m 69 #[iv p1, iv p2, iv p3, iv p4, iv W0, iv W1, iv B0, iv B1, rv b1, u_, u_, u_, u_, u_, u_, u_, u_, u_, u_] [(.double (FP.l2d B1.toInt64)), (.double (FP.l2d W1.toInt64)), (.int 1), (.ref b1)])) rfl (by rw [hml]; rfl) (argsL := [(.int 1), (.double (FP.l2d W1.toInt64)), (.double (FP.l2d B1.toInt64))]) (rest := []) rfl (lenOf own_pd4 rfl) rfl (by show 2 * 0 + _ ≤ _; exact Nat.le_of_eq rfl) (hb hby at_69) rfl (by decide) (by decide)
          obtain ⟨rfl, Nq21, Kq21, hq21⟩ := hQ21
          have N21 := Fr.app N17 Nq21
          have Z21 := Nat.le_trans Z17 Kq21.1
          obtain ⟨u22_0, u22_1, u22_2, u22_3, u22_4, u22_5, u22_6, u22_7, u22_8, u22_9, u22_10, u22_11, u22_12, u22_13⟩ := id hq21
          refine own_s T21 (mkF m 72 #[iv p1, iv p2, iv p3, iv p4, iv W0, iv W1, iv B0, iv B1, rv b1, u_, u_, u_, u_, u_, u_, u_, u_, u_, u_] []) st21 ?_
          refine own_s T21 (mkF m 84 #[iv p1, iv p2, iv p3, iv p4, iv W0, iv W1, iv B0, iv B1, rv b1, u_, u_, u_, u_, u_, u_, u_, u_, u_, u_] [(.int B1), (.int 1)]) (fun _ k => XS.iload X21.here hx rfl (hb hby at_72) rfl  (XS.ifNo X21.here hx rfl (hb hby at_74) rfl ((if0 _ _).trans (tlt hb0).2.2.2) (XS.iconst X21.here hx rfl (hb hby at_77) (XS.goto X21.here hx rfl (pc0 := 78) (pc' := 82) rfl (hb hby at_78) (by decide) (by decide) (XS.iload X21.here hx rfl (hb hby at_82) rfl  k))))) ?_
          refine own_s T21 (mkF m 95 #[iv p1, iv p2, iv p3, iv p4, iv W0, iv W1, iv B0, iv B1, rv b1, iv 2, u_, u_, u_, u_, u_, u_, u_, u_, u_] []) (fun _ k => XS.ifNo X21.here hx rfl (hb hby at_84) rfl ((if0 _ _).trans (tlt hb1).2.2.2) (XS.iconst X21.here hx rfl (hb hby at_87) (XS.goto X21.here hx rfl (pc0 := 88) (pc' := 92) rfl (hb hby at_88) (by decide) (by decide) (XS.iadd X21.here hx rfl (hb hby at_92) rfl (XS.istore X21.here hx rfl (hb hby at_93) rfl (l' := #[iv p1, iv p2, iv p3, iv p4, iv W0, iv W1, iv B0, iv B1, rv b1, iv 2, u_, u_, u_, u_, u_, u_, u_, u_, u_]) rfl k))))) ?_
          refine own_s T21 (mkF m 97 #[iv p1, iv p2, iv p3, iv p4, iv W0, iv W1, iv B0, iv B1, rv b1, iv 2, u_, u_, u_, u_, u_, u_, u_, u_, u_] [(.ref b1)]) (fun _ k => XS.aload X21.here hx rfl (hb hby at_95) rfl rfl k) ?_
          obtain ⟨v23, T23, L23, X23, hQ23, st23⟩ := own_callV X21 hx hZ (y := own_y7) (z := own_y7) (W := 0) (a := b1) hown (own_h hw 45 rfl) (own_h hw 46 rfl) (notFace_of_selects (args := #[]) (mvT hZ (own_h hw 48 rfl))) (own_h hw 48 rfl) (own_h hw 47 rfl) (own_h hw 2 rfl) (own_h hw 49 rfl) (by decide) (own_rmdc1 l Z a0 hw [] b1 wA11 bA11 sA11 hA11 kw11 kb11 ks11 kh11 p1 W0.toInt64 W1.toInt64 B0.toInt64 B1.toInt64 (((0 : Int64) + (1 : Int64)) - (1 : Int64)) (((0 : Int64) + (1 : Int64)) - (1 : Int64)) (0 : Int32) ((0 : Int64) + (1 : Int64)) (0 : Int32) (-1 : Int32) (2 : Int32) T21.heap n0 Z21 ⟨u22_0, u22_1, u22_2, u22_3, u22_4, u22_5, u22_6, u22_7, u22_8, u22_9, u22_10, u22_11, u22_12, u22_13⟩) (by decide) (by decide) u22_0 (g := (mkF m 97 #[iv p1, iv p2, iv p3, iv p4, iv W0, iv W1, iv B0, iv B1, rv b1, iv 2, u_, u_, u_, u_, u_, u_, u_, u_, u_] [(.ref b1)])) rfl (by rw [hml]; rfl) (argsL := []) (rest := []) rfl (lenOf own_pd5 rfl) rfl (by show 2 * 0 + _ ≤ _; exact Nat.le_of_eq rfl) (hb hby at_97) rfl (by decide) (by decide)
          obtain ⟨rfl, Nq23, e23⟩ := hQ23
          have N23 := Fr.app N21 Nq23
          refine own_s T23 (mkF m 100 #[iv p1, iv p2, iv p3, iv p4, iv W0, iv W1, iv B0, iv B1, rv b1, iv 2, u_, u_, u_, u_, u_, u_, u_, u_, u_] [(.int (own_b (own_dc (2 : Int32) (((0 : Int64) + (1 : Int64)) - (1 : Int64)) ((0 : Int64) + (1 : Int64)) (0 : Int32) p1 (-1 : Int32))))]) st23 ?_
          refine own_s T23 (mkF m 114 #[iv p1, iv p2, iv p3, iv p4, iv W0, iv W1, iv B0, iv B1, rv b1, iv 2, u_, u_, u_, u_, u_, u_, u_, u_, u_] [(.int 1)]) (fun _ k => XS.iload X23.here hx rfl (hb hby at_100) rfl  (XS.ifYes X23.here hx rfl (pc0 := 102) (pc' := 109) rfl (hb hby at_102) rfl ((if0 _ _).trans (feq (by decide : ¬ ((2 : Int32) = (0 : Int32)))).2) (by decide) (by decide) (XS.iconst X23.here hx rfl (hb hby at_109) (XS.icmpNo X23.here hx rfl (hb hby at_110) rfl (teq (by simp +decide [own_dc, own_b])).2 (XS.iconst X23.here hx rfl (hb hby at_113) k))))) ?_
          refine own_s T23 (mkF m 126 #[iv p1, iv p2, iv p3, iv p4, iv W0, iv W1, iv B0, iv B1, rv b1, iv 2, iv 1, iv 2, u_, u_, u_, u_, u_, u_, u_] [(.int 2)]) (fun _ k => XS.goto X23.here hx rfl (pc0 := 114) (pc' := 118) rfl (hb hby at_114) (by decide) (by decide) (XS.istore X23.here hx rfl (hb hby at_118) rfl (l' := #[iv p1, iv p2, iv p3, iv p4, iv W0, iv W1, iv B0, iv B1, rv b1, iv 2, iv 1, u_, u_, u_, u_, u_, u_, u_, u_]) rfl (XS.iload X23.here hx rfl (hb hby at_120) rfl  (XS.istore X23.here hx rfl (hb hby at_122) rfl (l' := #[iv p1, iv p2, iv p3, iv p4, iv W0, iv W1, iv B0, iv B1, rv b1, iv 2, iv 1, iv 2, u_, u_, u_, u_, u_, u_, u_]) rfl (XS.iload X23.here hx rfl (hb hby at_124) rfl  k))))) ?_
          refine own_s T23 (mkF m 139 #[iv p1, iv p2, iv p3, iv p4, iv W0, iv W1, iv B0, iv B1, rv b1, iv 2, iv 1, iv 2, u_, u_, u_, u_, u_, u_, u_] []) (fun _ k => XS.ifNo X23.here hx rfl (hb hby at_126) rfl ((if0 _ _).trans (tlt (by decide : ((0 : Int32) < (2 : Int32)))).2.2.2) (XS.iload X23.here hx rfl (hb hby at_129) rfl  (XS.ifNo X23.here hx rfl (hb hby at_131) rfl ((if0 _ _).trans (tlt hb0).2.2.2) (XS.iload X23.here hx rfl (hb hby at_134) rfl  (XS.ifNo X23.here hx rfl (hb hby at_136) rfl ((if0 _ _).trans (tlt hb1).2.2.2) k))))) ?_
          refine own_s T23 (mkF m 147 #[iv p1, iv p2, iv p3, iv p4, iv W0, iv W1, iv B0, iv B1, rv b1, iv 2, iv 1, iv 2, u_, u_, u_, u_, u_, u_, u_] [(.int W1), (.int B1), (.int W0), (.int B0)]) (fun _ k => XS.iload X23.here hx rfl (hb hby at_139) rfl  (XS.iload X23.here hx rfl (hb hby at_141) rfl  (XS.iload X23.here hx rfl (hb hby at_143) rfl  (XS.iload X23.here hx rfl (hb hby at_145) rfl  k)))) ?_
          obtain ⟨v24, T24, L24, X24, hQ24, st24⟩ := own_callS X23 hx hZ (y := own_y9) (W := 0) hown (own_h hw 72 rfl) (own_h hw 73 rfl) (own_h hw 74 rfl) (own_h hw 75 rfl) (by decide) (own_rmzl l Z a0 hw [] B0 W0 B1 W1 T21.heap n0 Z21) (by decide) (by decide) (g := (mkF m 147 #[iv p1, iv p2, iv p3, iv p4, iv W0, iv W1, iv B0, iv B1, rv b1, iv 2, iv 1, iv 2, u_, u_, u_, u_, u_, u_, u_] [(.int W1), (.int B1), (.int W0), (.int B0)])) rfl (by rw [hml]; rfl) (argsL := [(.int B0), (.int W0), (.int B1), (.int W1)]) (rest := []) rfl (lenOf own_pd6 rfl) rfl (by show 2 * 0 + _ ≤ _; exact Nat.le_of_eq rfl) (hb hby at_147) e23 (by decide) (by decide)
          obtain ⟨rfl, Nq24, e24⟩ := hQ24
          have N24 := Fr.app N23 Nq24
          refine own_s T24 (mkF m 150 #[iv p1, iv p2, iv p3, iv p4, iv W0, iv W1, iv B0, iv B1, rv b1, iv 2, iv 1, iv 2, u_, u_, u_, u_, u_, u_, u_] [(.int (own_b (!decide (B0 * W1 < B1 * W0))))]) st24 ?_
          refine own_s T24 (mkF m 177 #[iv p1, iv p2, iv p3, iv p4, iv W0, iv W1, iv B0, iv B1, rv b1, iv 2, iv 1, iv 2, iv 1, u_, u_, u_, u_, u_, u_] [(.int 1)]) (fun _ k => XS.ifYes X24.here hx rfl (pc0 := 150) (pc' := 157) rfl (hb hby at_150) rfl ((if0 _ _).trans (teq (own_b0 (by simp [hz]))).1) (by decide) (by decide) (XS.iconst X24.here hx rfl (hb hby at_157) (XS.istore X24.here hx rfl (hb hby at_158) rfl (l' := #[iv p1, iv p2, iv p3, iv p4, iv W0, iv W1, iv B0, iv B1, rv b1, iv 2, iv 1, iv 2, iv 1, u_, u_, u_, u_, u_, u_]) rfl (XS.goto X24.here hx rfl (pc0 := 160) (pc' := 175) rfl (hb hby at_160) (by decide) (by decide) (XS.iload X24.here hx rfl (hb hby at_175) rfl  k))))) ?_
          refine own_s T24 (mkF m 192 #[iv p1, iv p2, iv p3, iv p4, iv W0, iv W1, iv B0, iv B1, rv b1, iv 2, iv 1, iv 2, iv 1, iv B1, u_, u_, u_, u_, u_] [(.int 7), (.int p4)]) (fun _ k => XS.ifYes X24.here hx rfl (pc0 := 177) (pc' := 185) rfl (hb hby at_177) rfl ((if0 _ _).trans (feq (by decide : ¬ ((1 : Int32) = (0 : Int32)))).2) (by decide) (by decide) (XS.iload X24.here hx rfl (hb hby at_185) rfl  (XS.istore X24.here hx rfl (hb hby at_187) rfl (l' := #[iv p1, iv p2, iv p3, iv p4, iv W0, iv W1, iv B0, iv B1, rv b1, iv 2, iv 1, iv 2, iv 1, iv B1, u_, u_, u_, u_, u_]) rfl (XS.iloadN X24.here hx rfl (hb hby at_189) rfl  (XS.bipush X24.here hx rfl (hb hby at_190) k))))) ?_
          refine own_s T24 (mkF m 197 #[iv p1, iv p2, iv p3, iv p4, iv W0, iv W1, iv B0, iv B1, rv b1, iv 2, iv 1, iv 2, iv 1, iv B1, u_, u_, u_, u_, u_] [(.int B1), (.int ((p4 &&& (7 : Int32)) - (2 : Int32)))]) (fun _ k => XS.iand X24.here hx rfl (hb hby at_192) rfl (XS.iconst X24.here hx rfl (hb hby at_193) (XS.isub X24.here hx rfl (hb hby at_194) rfl (XS.iload X24.here hx rfl (hb hby at_195) rfl  k)))) ?_
          obtain ⟨v25, T25, L25, X25, hQ25, st25⟩ := own_callS X24 hx hZ (y := own_y10) (W := 0) hown (own_h hw 55 rfl) (own_h hw 56 rfl) (own_h hw 57 rfl) (own_h hw 58 rfl) (by decide) (own_rmmn l Z a0 hw [] ((p4 &&& (7 : Int32)) - (2 : Int32)) B1 T21.heap n0 Z21) (by decide) (by decide) (g := (mkF m 197 #[iv p1, iv p2, iv p3, iv p4, iv W0, iv W1, iv B0, iv B1, rv b1, iv 2, iv 1, iv 2, iv 1, iv B1, u_, u_, u_, u_, u_] [(.int B1), (.int ((p4 &&& (7 : Int32)) - (2 : Int32)))])) rfl (by rw [hml]; rfl) (argsL := [(.int ((p4 &&& (7 : Int32)) - (2 : Int32))), (.int B1)]) (rest := []) rfl (lenOf own_pd7 rfl) rfl (by show 2 * 0 + _ ≤ _; exact Nat.le_of_eq rfl) (hb hby at_197) e24 (by decide) (by decide)
          obtain ⟨rfl, Nq25, e25⟩ := hQ25
          have N25 := Fr.app N24 Nq25
          refine own_s T25 (mkF m 200 #[iv p1, iv p2, iv p3, iv p4, iv W0, iv W1, iv B0, iv B1, rv b1, iv 2, iv 1, iv 2, iv 1, iv B1, u_, u_, u_, u_, u_] [(.int (own_mn ((p4 &&& (7 : Int32)) - (2 : Int32)) B1))]) st25 ?_
          refine own_s T25 (mkF m 202 #[iv p1, iv p2, iv p3, iv p4, iv W0, iv W1, iv B0, iv B1, rv b1, iv 2, iv 1, iv 2, iv 1, iv B1, iv (own_mn ((p4 &&& (7 : Int32)) - (2 : Int32)) B1), u_, u_, u_, u_] []) (fun _ k => XS.istore X25.here hx rfl (hb hby at_200) rfl (l' := #[iv p1, iv p2, iv p3, iv p4, iv W0, iv W1, iv B0, iv B1, rv b1, iv 2, iv 1, iv 2, iv 1, iv B1, iv (own_mn ((p4 &&& (7 : Int32)) - (2 : Int32)) B1), u_, u_, u_, u_]) rfl k) ?_
          obtain ⟨CC, eCC, hCC⟩ : ∃ z, z = (own_mn ((p4 &&& (7 : Int32)) - (2 : Int32)) B1) ∧ own_rg (-8) 8 z := ⟨_, rfl, own_mnR hB1⟩
          rw [← eCC]
          by_cases hc : (0 : Int32) < CC
          · have kk_hc := hc
            by_cases hy : B0 * W1 < CC * W0
            · have kk_hy := hy
              refine own_s T25 (mkF m 206 #[iv p1, iv p2, iv p3, iv p4, iv W0, iv W1, iv B0, iv B1, rv b1, iv 2, iv 1, iv 2, iv 1, iv B1, iv CC, u_, u_, u_, u_] [(.int CC), (.ref b1)]) (fun _ k => XS.aload X25.here hx rfl (hb hby at_202) rfl rfl (XS.iload X25.here hx rfl (hb hby at_204) rfl  k)) ?_
              have mg26 := (own_m8 hCC)
              refine own_s T25 (mkF m 207 #[iv p1, iv p2, iv p3, iv p4, iv W0, iv W1, iv B0, iv B1, rv b1, iv 2, iv 1, iv 2, iv 1, iv B1, iv CC, u_, u_, u_, u_] [(.double (FP.l2d CC.toInt64)), (.ref b1)]) (fun _ k => XS.i2dS X25.here hx rfl (hb hby at_206) rfl (i2d_w _) k) ?_
              obtain ⟨v27, T27, L27, X27, hQ27, st27⟩ := own_callV X25 hx hZ (y := own_y6) (z := own_y6) (W := 0) (a := b1) hown (own_h hw 59 rfl) (own_h hw 60 rfl) (notFace_of_selects (args := #[]) (mvT hZ (own_h hw 62 rfl))) (own_h hw 62 rfl) (own_h hw 61 rfl) (own_h hw 2 rfl) (own_h hw 63 rfl) (by decide) (own_rmre12PF l Z a0 hw [] b1 wA11 bA11 sA11 hA11 kw11 kb11 ks11 kh11 p1 W0.toInt64 W1.toInt64 B0.toInt64 B1.toInt64 (((0 : Int64) + (1 : Int64)) - (1 : Int64)) (((0 : Int64) + (1 : Int64)) - (1 : Int64)) ((0 : Int64) + (1 : Int64)) (0 : Int32) CC.toInt64 T21.heap n0 Z21 ⟨u22_0, u22_1, u22_2, u22_3, u22_4, u22_5, u22_6, u22_7, u22_8, u22_9, u22_10, u22_11, u22_12, u22_13⟩ hNE hGE mg15 mg19 mg16 mg20 mg26 (own_p64 hc) (own_p64 hb0) (own_w64 hW0) (own_w64 hW1) (own_k1F hW0 hW1 hB0 hCC hy)) (by decide) (by decide) u22_0 (g := (mkF m 207 #[iv p1, iv p2, iv p3, iv p4, iv W0, iv W1, iv B0, iv B1, rv b1, iv 2, iv 1, iv 2, iv 1, iv B1, iv CC, u_, u_, u_, u_] [(.double (FP.l2d CC.toInt64)), (.ref b1)])) rfl (by rw [hml]; rfl) (argsL := [(.double (FP.l2d CC.toInt64))]) (rest := []) rfl (lenOf own_pd8 rfl) rfl (by show 2 * 0 + _ ≤ _; exact Nat.le_of_eq rfl) (hb hby at_207) e25 (by decide) (by decide)
              obtain ⟨rfl, Nq27, Kq27, hq27⟩ := hQ27
              have N27 := Fr.app N25 Nq27
              have Z27 := Nat.le_trans Z21 Kq27.1
              obtain ⟨u28_0, u28_1, u28_2, u28_3, u28_4, u28_5, u28_6, u28_7, u28_8, u28_9, u28_10, u28_11, u28_12, u28_13⟩ := id hq27
              refine own_s T27 (mkF m 210 #[iv p1, iv p2, iv p3, iv p4, iv W0, iv W1, iv B0, iv B1, rv b1, iv 2, iv 1, iv 2, iv 1, iv B1, iv CC, u_, u_, u_, u_] []) st27 ?_
              refine own_s T27 (mkF m 227 #[iv p1, iv p2, iv p3, iv p4, iv W0, iv W1, iv B0, iv B1, rv b1, iv 2, iv 1, iv 2, iv 1, iv B1, iv CC, u_, u_, u_, u_] []) (fun _ k => XS.iload X27.here hx rfl (hb hby at_210) rfl  (XS.ifNo X27.here hx rfl (hb hby at_212) rfl ((if0 _ _).trans (tlt hc).2.2.2) (XS.iload X27.here hx rfl (hb hby at_215) rfl  (XS.iconst X27.here hx rfl (hb hby at_217) (XS.icmpYes X27.here hx rfl (pc0 := 218) (pc' := 227) rfl (hb hby at_218) rfl (feq (by decide : ¬ ((2 : Int32) = (1 : Int32)))).2 (by decide) (by decide) k))))) ?_
              refine own_s T27 (mkF m 243 #[iv p1, iv p2, iv p3, iv p4, iv W0, iv W1, iv B0, iv B1, rv b1, iv 2, iv 1, iv 2, iv 1, iv B1, iv CC, u_, iv B0, u_, u_] [(.int 1)]) (fun _ k => XS.iload X27.here hx rfl (hb hby at_227) rfl  (XS.ifYes X27.here hx rfl (pc0 := 229) (pc' := 237) rfl (hb hby at_229) rfl ((if0 _ _).trans (feq (by decide : ¬ ((1 : Int32) = (0 : Int32)))).2) (by decide) (by decide) (XS.iload X27.here hx rfl (hb hby at_237) rfl  (XS.istore X27.here hx rfl (hb hby at_239) rfl (l' := #[iv p1, iv p2, iv p3, iv p4, iv W0, iv W1, iv B0, iv B1, rv b1, iv 2, iv 1, iv 2, iv 1, iv B1, iv CC, u_, iv B0, u_, u_]) rfl (XS.iload X27.here hx rfl (hb hby at_241) rfl  k))))) ?_
              refine own_s T27 (mkF m 256 #[iv p1, iv p2, iv p3, iv p4, iv W0, iv W1, iv B0, iv B1, rv b1, iv 2, iv 1, iv 2, iv 1, iv B1, iv CC, u_, iv B0, iv CC, u_] []) (fun _ k => XS.iconst X27.here hx rfl (hb hby at_243) (XS.icmpNo X27.here hx rfl (hb hby at_244) rfl (teq (by decide : ((1 : Int32) = (1 : Int32)))).2 (XS.iload X27.here hx rfl (hb hby at_247) rfl  (XS.goto X27.here hx rfl (pc0 := 249) (pc' := 254) rfl (hb hby at_249) (by decide) (by decide) (XS.istore X27.here hx rfl (hb hby at_254) rfl (l' := #[iv p1, iv p2, iv p3, iv p4, iv W0, iv W1, iv B0, iv B1, rv b1, iv 2, iv 1, iv 2, iv 1, iv B1, iv CC, u_, iv B0, iv CC, u_]) rfl k))))) ?_
              refine own_s T27 (mkF m 264 #[iv p1, iv p2, iv p3, iv p4, iv W0, iv W1, iv B0, iv B1, rv b1, iv 2, iv 1, iv 2, iv 1, iv B1, iv CC, u_, iv B0, iv CC, u_] [(.int W1), (.int CC), (.int W0), (.int B0)]) (fun _ k => XS.iload X27.here hx rfl (hb hby at_256) rfl  (XS.iload X27.here hx rfl (hb hby at_258) rfl  (XS.iload X27.here hx rfl (hb hby at_260) rfl  (XS.iload X27.here hx rfl (hb hby at_262) rfl  k)))) ?_
              obtain ⟨v29, T29, L29, X29, hQ29, st29⟩ := own_callS X27 hx hZ (y := own_y9) (W := 0) hown (own_h hw 72 rfl) (own_h hw 73 rfl) (own_h hw 74 rfl) (own_h hw 75 rfl) (by decide) (own_rmzl l Z a0 hw [] B0 W0 CC W1 T27.heap n0 Z27) (by decide) (by decide) (g := (mkF m 264 #[iv p1, iv p2, iv p3, iv p4, iv W0, iv W1, iv B0, iv B1, rv b1, iv 2, iv 1, iv 2, iv 1, iv B1, iv CC, u_, iv B0, iv CC, u_] [(.int W1), (.int CC), (.int W0), (.int B0)])) rfl (by rw [hml]; rfl) (argsL := [(.int B0), (.int W0), (.int CC), (.int W1)]) (rest := []) rfl (lenOf own_pd6 rfl) rfl (by show 2 * 0 + _ ≤ _; exact Nat.le_of_eq rfl) (hb hby at_264) rfl (by decide) (by decide)
              obtain ⟨rfl, Nq29, e29⟩ := hQ29
              have N29 := Fr.app N27 Nq29
              refine own_s T29 (mkF m 267 #[iv p1, iv p2, iv p3, iv p4, iv W0, iv W1, iv B0, iv B1, rv b1, iv 2, iv 1, iv 2, iv 1, iv B1, iv CC, u_, iv B0, iv CC, u_] [(.int (own_b (!decide (B0 * W1 < CC * W0))))]) st29 ?_
              refine own_s T29 (mkF m 281 #[iv p1, iv p2, iv p3, iv p4, iv W0, iv W1, iv B0, iv B1, rv b1, iv 2, iv 1, iv 2, iv 1, iv B1, iv CC, u_, iv B0, iv CC, iv 1] [(.int 1), (.int 1)]) (fun _ k => XS.ifYes X29.here hx rfl (pc0 := 267) (pc' := 274) rfl (hb hby at_267) rfl ((if0 _ _).trans (teq (own_b0 (by simp [hy]))).1) (by decide) (by decide) (XS.iconst X29.here hx rfl (hb hby at_274) (XS.istore X29.here hx rfl (hb hby at_275) rfl (l' := #[iv p1, iv p2, iv p3, iv p4, iv W0, iv W1, iv B0, iv B1, rv b1, iv 2, iv 1, iv 2, iv 1, iv B1, iv CC, u_, iv B0, iv CC, iv 1]) rfl (XS.iload X29.here hx rfl (hb hby at_277) rfl  (XS.iload X29.here hx rfl (hb hby at_279) rfl  k))))) ?_
              refine own_s T29 (mkF m 317 #[iv p1, iv p2, iv p3, iv p4, iv W0, iv W1, iv B0, iv B1, rv b1, iv 2, iv 1, iv 2, iv 1, iv B1, iv CC, iv 1, iv B0, iv CC, iv 1] []) (fun _ k => XS.icmpYes X29.here hx rfl (pc0 := 281) (pc' := 289) rfl (hb hby at_281) rfl (teq (by decide : ((1 : Int32) = (1 : Int32)))).1 (by decide) (by decide) (XS.iconst X29.here hx rfl (hb hby at_289) (XS.goto X29.here hx rfl (pc0 := 290) (pc' := 294) rfl (hb hby at_290) (by decide) (by decide) (XS.istore X29.here hx rfl (hb hby at_294) rfl (l' := #[iv p1, iv p2, iv p3, iv p4, iv W0, iv W1, iv B0, iv B1, rv b1, iv 2, iv 1, iv 2, iv 1, iv B1, iv CC, iv 1, iv B0, iv CC, iv 1]) rfl (XS.goto X29.here hx rfl (pc0 := 296) (pc' := 317) rfl (hb hby at_296) (by decide) (by decide) k))))) ?_
              refine own_s T29 (mkF m 324 #[iv p1, iv p2, iv p3, iv p4, iv W0, iv W1, iv B0, iv B1, rv b1, iv 2, iv 1, iv 2, iv 1, iv B1, iv CC, iv 1, iv B0, iv CC, iv 1] [(.ref b1)]) (fun _ k => XS.iload X29.here hx rfl (hb hby at_317) rfl  (XS.ifNo X29.here hx rfl (hb hby at_319) rfl ((if0 _ _).trans (feq (by decide : ¬ ((1 : Int32) = (0 : Int32)))).1) (XS.aload X29.here hx rfl (hb hby at_322) rfl rfl k))) ?_
              obtain ⟨v30, T30, L30, X30, hQ30, st30⟩ := own_callV X29 hx hZ (y := own_y7) (z := own_y7) (W := 0) (a := b1) hown (own_h hw 45 rfl) (own_h hw 46 rfl) (notFace_of_selects (args := #[]) (mvT hZ (own_h hw 48 rfl))) (own_h hw 48 rfl) (own_h hw 47 rfl) (own_h hw 2 rfl) (own_h hw 49 rfl) (by decide) (own_rmdc1 l Z a0 hw [] b1 wA11 bA11 sA11 hA11 kw11 kb11 ks11 kh11 p1 W0.toInt64 W1.toInt64 B0.toInt64 CC.toInt64 (((0 : Int64) + (1 : Int64)) - (1 : Int64)) ((0 : Int64) + (1 : Int64)) (0 : Int32) ((0 : Int64) + (1 : Int64)) ((0 : Int32) + (1 : Int32)) (1 : Int32) (2 : Int32) T27.heap n0 Z27 ⟨u28_0, u28_1, u28_2, u28_3, u28_4, u28_5, u28_6, u28_7, u28_8, u28_9, u28_10, u28_11, u28_12, u28_13⟩) (by decide) (by decide) u28_0 (g := (mkF m 324 #[iv p1, iv p2, iv p3, iv p4, iv W0, iv W1, iv B0, iv B1, rv b1, iv 2, iv 1, iv 2, iv 1, iv B1, iv CC, iv 1, iv B0, iv CC, iv 1] [(.ref b1)])) rfl (by rw [hml]; rfl) (argsL := []) (rest := []) rfl (lenOf own_pd5 rfl) rfl (by show 2 * 0 + _ ≤ _; exact Nat.le_of_eq rfl) (hb hby at_324) e29 (by decide) (by decide)
              obtain ⟨rfl, Nq30, e30⟩ := hQ30
              have N30 := Fr.app N29 Nq30
              refine own_s T30 (mkF m 327 #[iv p1, iv p2, iv p3, iv p4, iv W0, iv W1, iv B0, iv B1, rv b1, iv 2, iv 1, iv 2, iv 1, iv B1, iv CC, iv 1, iv B0, iv CC, iv 1] [(.int (own_b (own_dc (2 : Int32) ((0 : Int64) + (1 : Int64)) ((0 : Int64) + (1 : Int64)) ((0 : Int32) + (1 : Int32)) p1 (1 : Int32))))]) st30 ?_
              refine own_s T30 (mkF m 339 #[iv p1, iv p2, iv p3, iv p4, iv W0, iv W1, iv B0, iv B1, rv b1, iv 2, iv 1, iv 2, iv 1, iv B1, iv CC, iv 1, iv B0, iv CC, iv 1] []) (fun _ k => XS.iload X30.here hx rfl (hb hby at_327) rfl  (XS.icmpNo X30.here hx rfl (hb hby at_329) rfl (teq (by simp +decide [own_dc, own_b])).2 (XS.iconst X30.here hx rfl (hb hby at_332) (XS.goto X30.here hx rfl (pc0 := 333) (pc' := 337) rfl (hb hby at_333) (by decide) (by decide) (XS.istore X30.here hx rfl (hb hby at_337) rfl (l' := #[iv p1, iv p2, iv p3, iv p4, iv W0, iv W1, iv B0, iv B1, rv b1, iv 2, iv 1, iv 2, iv 1, iv B1, iv CC, iv 1, iv B0, iv CC, iv 1]) rfl k))))) ?_
              refine own_s T30 (mkF m 341 #[iv p1, iv p2, iv p3, iv p4, iv W0, iv W1, iv B0, iv B1, rv b1, iv 2, iv 1, iv 2, iv 1, iv B1, iv CC, iv 1, iv B0, iv CC, iv 1] [(.ref b1)]) (fun _ k => XS.aload X30.here hx rfl (hb hby at_339) rfl rfl k) ?_
              obtain ⟨v31, T31, L31, X31, hQ31, st31⟩ := own_callV X30 hx hZ (y := own_y3) (z := own_y3) (W := 0) (a := b1) hown (own_h hw 50 rfl) (own_h hw 28 rfl) (notFace_of_selects (args := #[]) (mvT hZ (own_h hw 30 rfl))) (own_h hw 30 rfl) (own_h hw 29 rfl) (own_h hw 2 rfl) (own_h hw 31 rfl) (by decide) (own_rmfo l Z a0 hw [] b1 wA11 bA11 sA11 hA11 kw11 kb11 ks11 kh11 p1 W0.toInt64 W1.toInt64 B0.toInt64 CC.toInt64 (((0 : Int64) + (1 : Int64)) - (1 : Int64)) ((0 : Int64) + (1 : Int64)) (1 : Int32) (0 : Int32) ((0 : Int64) + (1 : Int64)) ((0 : Int32) + (1 : Int32)) (1 : Int32) (2 : Int32) T27.heap n0 Z27 ⟨u28_0, u28_1, u28_2, u28_3, u28_4, u28_5, u28_6, u28_7, u28_8, u28_9, u28_10, u28_11, u28_12, u28_13⟩ hNE hGE mg15 mg19 mg16 mg26) (by decide) (by decide) u28_0 (g := (mkF m 341 #[iv p1, iv p2, iv p3, iv p4, iv W0, iv W1, iv B0, iv B1, rv b1, iv 2, iv 1, iv 2, iv 1, iv B1, iv CC, iv 1, iv B0, iv CC, iv 1] [(.ref b1)])) rfl (by rw [hml]; rfl) (argsL := []) (rest := []) rfl (lenOf own_pd1 rfl) rfl (by show 2 * 0 + _ ≤ _; exact Nat.le_of_eq rfl) (hb hby at_341) e30 (by decide) (by decide)
              obtain ⟨rfl, Nq31, Kq31, hq31⟩ := hQ31
              have N31 := Fr.app N30 Nq31
              have Z31 := Nat.le_trans Z27 Kq31.1
              obtain ⟨u32_0, u32_1, u32_2, u32_3, u32_4, u32_5, u32_6, u32_7, u32_8, u32_9, u32_10, u32_11, u32_12, u32_13⟩ := id hq31
              refine own_s T31 (mkF m 344 #[iv p1, iv p2, iv p3, iv p4, iv W0, iv W1, iv B0, iv B1, rv b1, iv 2, iv 1, iv 2, iv 1, iv B1, iv CC, iv 1, iv B0, iv CC, iv 1] []) st31 ?_
              refine own_s T31 (mkF m 351 #[iv p1, iv p2, iv p3, iv p4, iv W0, iv W1, iv B0, iv B1, rv b1, iv 2, iv 1, iv 2, iv 1, iv B1, iv CC, iv 1, iv B0, iv CC, iv 1] [(.ref b1)]) (fun _ k => XS.iload X31.here hx rfl (hb hby at_344) rfl  (XS.ifNo X31.here hx rfl (hb hby at_346) rfl ((if0 _ _).trans (feq (by decide : ¬ ((1 : Int32) = (0 : Int32)))).1) (XS.aload X31.here hx rfl (hb hby at_349) rfl rfl k))) ?_
              obtain ⟨v33, T33, L33, X33, hQ33, st33⟩ := own_callV X31 hx hZ (y := own_y7) (z := own_y7) (W := 0) (a := b1) hown (own_h hw 45 rfl) (own_h hw 46 rfl) (notFace_of_selects (args := #[]) (mvT hZ (own_h hw 48 rfl))) (own_h hw 48 rfl) (own_h hw 47 rfl) (own_h hw 2 rfl) (own_h hw 49 rfl) (by decide) (own_rmdc1 l Z a0 hw [] b1 wA11 bA11 sA11 hA11 kw11 kb11 ks11 kh11 p1 W0.toInt64 W1.toInt64 B0.toInt64 CC.toInt64 (((0 : Int64) + (1 : Int64)) - (1 : Int64)) ((0 : Int64) + (1 : Int64)) (0 : Int32) (((0 : Int64) + (1 : Int64)) + (1 : Int64)) (0 : Int32) (-1 : Int32) (2 : Int32) T31.heap n0 Z31 ⟨u32_0, u32_1, u32_2, u32_3, u32_4, u32_5, u32_6, u32_7, u32_8, u32_9, u32_10, u32_11, u32_12, u32_13⟩) (by decide) (by decide) u32_0 (g := (mkF m 351 #[iv p1, iv p2, iv p3, iv p4, iv W0, iv W1, iv B0, iv B1, rv b1, iv 2, iv 1, iv 2, iv 1, iv B1, iv CC, iv 1, iv B0, iv CC, iv 1] [(.ref b1)])) rfl (by rw [hml]; rfl) (argsL := []) (rest := []) rfl (lenOf own_pd5 rfl) rfl (by show 2 * 0 + _ ≤ _; exact Nat.le_of_eq rfl) (hb hby at_351) rfl (by decide) (by decide)
              obtain ⟨rfl, Nq33, e33⟩ := hQ33
              have N33 := Fr.app N31 Nq33
              refine own_s T33 (mkF m 354 #[iv p1, iv p2, iv p3, iv p4, iv W0, iv W1, iv B0, iv B1, rv b1, iv 2, iv 1, iv 2, iv 1, iv B1, iv CC, iv 1, iv B0, iv CC, iv 1] [(.int (own_b (own_dc (2 : Int32) ((0 : Int64) + (1 : Int64)) (((0 : Int64) + (1 : Int64)) + (1 : Int64)) (0 : Int32) p1 (-1 : Int32))))]) st33 ?_
              refine own_s T33 (mkF m 368 #[iv p1, iv p2, iv p3, iv p4, iv W0, iv W1, iv B0, iv B1, rv b1, iv 2, iv 1, iv 2, iv 1, iv B1, iv CC, iv 1, iv B0, iv CC, iv 1] [(.int 1)]) (fun _ k => XS.iload X33.here hx rfl (hb hby at_354) rfl  (XS.ifYes X33.here hx rfl (pc0 := 356) (pc' := 363) rfl (hb hby at_356) rfl ((if0 _ _).trans (feq (by decide : ¬ ((2 : Int32) = (0 : Int32)))).2) (by decide) (by decide) (XS.iconst X33.here hx rfl (hb hby at_363) (XS.icmpNo X33.here hx rfl (hb hby at_364) rfl (teq (by simp +decide [own_dc, own_b])).2 (XS.iconst X33.here hx rfl (hb hby at_367) k))))) ?_
              refine own_s T33 (mkF m 372 #[iv p1, iv p2, iv p3, iv p4, iv W0, iv W1, iv B0, iv B1, rv b1, iv 2, iv 1, iv 2, iv 1, iv B1, iv CC, iv 1, iv B0, iv CC, iv 1] [(.int 1)]) (fun _ k => XS.goto X33.here hx rfl (pc0 := 368) (pc' := 372) rfl (hb hby at_368) (by decide) (by decide) k) ?_
              exact own_finZ X33 hx (t := .boolean) hret (by simp) (z' := (1 : Int32)) rfl (hb hby at_372) (own_end (Qv := (own_Q0 Z p1 p2 p3 p4 h0 n0)) X33 (own_some hret) hlk (by decide) (by decide) e33 ⟨rfl, N33⟩)
            · have kk_hy := hy
              refine own_s T25 (mkF m 206 #[iv p1, iv p2, iv p3, iv p4, iv W0, iv W1, iv B0, iv B1, rv b1, iv 2, iv 1, iv 2, iv 1, iv B1, iv CC, u_, u_, u_, u_] [(.int CC), (.ref b1)]) (fun _ k => XS.aload X25.here hx rfl (hb hby at_202) rfl rfl (XS.iload X25.here hx rfl (hb hby at_204) rfl  k)) ?_
              have mg34 := (own_m8 hCC)
              refine own_s T25 (mkF m 207 #[iv p1, iv p2, iv p3, iv p4, iv W0, iv W1, iv B0, iv B1, rv b1, iv 2, iv 1, iv 2, iv 1, iv B1, iv CC, u_, u_, u_, u_] [(.double (FP.l2d CC.toInt64)), (.ref b1)]) (fun _ k => XS.i2dS X25.here hx rfl (hb hby at_206) rfl (i2d_w _) k) ?_
              obtain ⟨v35, T35, L35, X35, hQ35, st35⟩ := own_callV X25 hx hZ (y := own_y6) (z := own_y6) (W := 0) (a := b1) hown (own_h hw 59 rfl) (own_h hw 60 rfl) (notFace_of_selects (args := #[]) (mvT hZ (own_h hw 62 rfl))) (own_h hw 62 rfl) (own_h hw 61 rfl) (own_h hw 2 rfl) (own_h hw 63 rfl) (by decide) (own_rmre12PT l Z a0 hw [] b1 wA11 bA11 sA11 hA11 kw11 kb11 ks11 kh11 p1 W0.toInt64 W1.toInt64 B0.toInt64 B1.toInt64 (((0 : Int64) + (1 : Int64)) - (1 : Int64)) (((0 : Int64) + (1 : Int64)) - (1 : Int64)) ((0 : Int64) + (1 : Int64)) (0 : Int32) CC.toInt64 T21.heap n0 Z21 ⟨u22_0, u22_1, u22_2, u22_3, u22_4, u22_5, u22_6, u22_7, u22_8, u22_9, u22_10, u22_11, u22_12, u22_13⟩ hNE hGE mg15 mg19 mg16 mg20 mg34 (own_p64 hc) (own_p64 hb0) (own_w64 hW0) (own_w64 hW1) (own_k1T hW0 hW1 hB0 hCC hy)) (by decide) (by decide) u22_0 (g := (mkF m 207 #[iv p1, iv p2, iv p3, iv p4, iv W0, iv W1, iv B0, iv B1, rv b1, iv 2, iv 1, iv 2, iv 1, iv B1, iv CC, u_, u_, u_, u_] [(.double (FP.l2d CC.toInt64)), (.ref b1)])) rfl (by rw [hml]; rfl) (argsL := [(.double (FP.l2d CC.toInt64))]) (rest := []) rfl (lenOf own_pd8 rfl) rfl (by show 2 * 0 + _ ≤ _; exact Nat.le_of_eq rfl) (hb hby at_207) e25 (by decide) (by decide)
              obtain ⟨rfl, Nq35, Kq35, hq35⟩ := hQ35
              have N35 := Fr.app N25 Nq35
              have Z35 := Nat.le_trans Z21 Kq35.1
              obtain ⟨u36_0, u36_1, u36_2, u36_3, u36_4, u36_5, u36_6, u36_7, u36_8, u36_9, u36_10, u36_11, u36_12, u36_13⟩ := id hq35
              refine own_s T35 (mkF m 210 #[iv p1, iv p2, iv p3, iv p4, iv W0, iv W1, iv B0, iv B1, rv b1, iv 2, iv 1, iv 2, iv 1, iv B1, iv CC, u_, u_, u_, u_] []) st35 ?_
              refine own_s T35 (mkF m 227 #[iv p1, iv p2, iv p3, iv p4, iv W0, iv W1, iv B0, iv B1, rv b1, iv 2, iv 1, iv 2, iv 1, iv B1, iv CC, u_, u_, u_, u_] []) (fun _ k => XS.iload X35.here hx rfl (hb hby at_210) rfl  (XS.ifNo X35.here hx rfl (hb hby at_212) rfl ((if0 _ _).trans (tlt hc).2.2.2) (XS.iload X35.here hx rfl (hb hby at_215) rfl  (XS.iconst X35.here hx rfl (hb hby at_217) (XS.icmpYes X35.here hx rfl (pc0 := 218) (pc' := 227) rfl (hb hby at_218) rfl (feq (by decide : ¬ ((2 : Int32) = (1 : Int32)))).2 (by decide) (by decide) k))))) ?_
              refine own_s T35 (mkF m 243 #[iv p1, iv p2, iv p3, iv p4, iv W0, iv W1, iv B0, iv B1, rv b1, iv 2, iv 1, iv 2, iv 1, iv B1, iv CC, u_, iv B0, u_, u_] [(.int 1)]) (fun _ k => XS.iload X35.here hx rfl (hb hby at_227) rfl  (XS.ifYes X35.here hx rfl (pc0 := 229) (pc' := 237) rfl (hb hby at_229) rfl ((if0 _ _).trans (feq (by decide : ¬ ((1 : Int32) = (0 : Int32)))).2) (by decide) (by decide) (XS.iload X35.here hx rfl (hb hby at_237) rfl  (XS.istore X35.here hx rfl (hb hby at_239) rfl (l' := #[iv p1, iv p2, iv p3, iv p4, iv W0, iv W1, iv B0, iv B1, rv b1, iv 2, iv 1, iv 2, iv 1, iv B1, iv CC, u_, iv B0, u_, u_]) rfl (XS.iload X35.here hx rfl (hb hby at_241) rfl  k))))) ?_
              refine own_s T35 (mkF m 256 #[iv p1, iv p2, iv p3, iv p4, iv W0, iv W1, iv B0, iv B1, rv b1, iv 2, iv 1, iv 2, iv 1, iv B1, iv CC, u_, iv B0, iv CC, u_] []) (fun _ k => XS.iconst X35.here hx rfl (hb hby at_243) (XS.icmpNo X35.here hx rfl (hb hby at_244) rfl (teq (by decide : ((1 : Int32) = (1 : Int32)))).2 (XS.iload X35.here hx rfl (hb hby at_247) rfl  (XS.goto X35.here hx rfl (pc0 := 249) (pc' := 254) rfl (hb hby at_249) (by decide) (by decide) (XS.istore X35.here hx rfl (hb hby at_254) rfl (l' := #[iv p1, iv p2, iv p3, iv p4, iv W0, iv W1, iv B0, iv B1, rv b1, iv 2, iv 1, iv 2, iv 1, iv B1, iv CC, u_, iv B0, iv CC, u_]) rfl k))))) ?_
              refine own_s T35 (mkF m 264 #[iv p1, iv p2, iv p3, iv p4, iv W0, iv W1, iv B0, iv B1, rv b1, iv 2, iv 1, iv 2, iv 1, iv B1, iv CC, u_, iv B0, iv CC, u_] [(.int W1), (.int CC), (.int W0), (.int B0)]) (fun _ k => XS.iload X35.here hx rfl (hb hby at_256) rfl  (XS.iload X35.here hx rfl (hb hby at_258) rfl  (XS.iload X35.here hx rfl (hb hby at_260) rfl  (XS.iload X35.here hx rfl (hb hby at_262) rfl  k)))) ?_
              obtain ⟨v37, T37, L37, X37, hQ37, st37⟩ := own_callS X35 hx hZ (y := own_y9) (W := 0) hown (own_h hw 72 rfl) (own_h hw 73 rfl) (own_h hw 74 rfl) (own_h hw 75 rfl) (by decide) (own_rmzl l Z a0 hw [] B0 W0 CC W1 T35.heap n0 Z35) (by decide) (by decide) (g := (mkF m 264 #[iv p1, iv p2, iv p3, iv p4, iv W0, iv W1, iv B0, iv B1, rv b1, iv 2, iv 1, iv 2, iv 1, iv B1, iv CC, u_, iv B0, iv CC, u_] [(.int W1), (.int CC), (.int W0), (.int B0)])) rfl (by rw [hml]; rfl) (argsL := [(.int B0), (.int W0), (.int CC), (.int W1)]) (rest := []) rfl (lenOf own_pd6 rfl) rfl (by show 2 * 0 + _ ≤ _; exact Nat.le_of_eq rfl) (hb hby at_264) rfl (by decide) (by decide)
              obtain ⟨rfl, Nq37, e37⟩ := hQ37
              have N37 := Fr.app N35 Nq37
              refine own_s T37 (mkF m 267 #[iv p1, iv p2, iv p3, iv p4, iv W0, iv W1, iv B0, iv B1, rv b1, iv 2, iv 1, iv 2, iv 1, iv B1, iv CC, u_, iv B0, iv CC, u_] [(.int (own_b (!decide (B0 * W1 < CC * W0))))]) st37 ?_
              refine own_s T37 (mkF m 279 #[iv p1, iv p2, iv p3, iv p4, iv W0, iv W1, iv B0, iv B1, rv b1, iv 2, iv 1, iv 2, iv 1, iv B1, iv CC, u_, iv B0, iv CC, iv 0] [(.int 0)]) (fun _ k => XS.ifNo X37.here hx rfl (hb hby at_267) rfl ((if0 _ _).trans (feq (own_b1 (by simp [hy]))).1) (XS.iconst X37.here hx rfl (hb hby at_270) (XS.goto X37.here hx rfl (pc0 := 271) (pc' := 275) rfl (hb hby at_271) (by decide) (by decide) (XS.istore X37.here hx rfl (hb hby at_275) rfl (l' := #[iv p1, iv p2, iv p3, iv p4, iv W0, iv W1, iv B0, iv B1, rv b1, iv 2, iv 1, iv 2, iv 1, iv B1, iv CC, u_, iv B0, iv CC, iv 0]) rfl (XS.iload X37.here hx rfl (hb hby at_277) rfl  k))))) ?_
              refine own_s T37 (mkF m 286 #[iv p1, iv p2, iv p3, iv p4, iv W0, iv W1, iv B0, iv B1, rv b1, iv 2, iv 1, iv 2, iv 1, iv B1, iv CC, u_, iv B0, iv CC, iv 0] [(.int 1), (.int p1)]) (fun _ k => XS.iload X37.here hx rfl (hb hby at_279) rfl  (XS.icmpNo X37.here hx rfl (hb hby at_281) rfl (feq (by decide : ¬ ((0 : Int32) = (1 : Int32)))).1 (XS.iloadN X37.here hx rfl (hb hby at_284) rfl  (XS.iconst X37.here hx rfl (hb hby at_285) k)))) ?_
              by_cases c286 : (1 : Int32) < p1
              · refine own_s T37 (mkF m 319 #[iv p1, iv p2, iv p3, iv p4, iv W0, iv W1, iv B0, iv B1, rv b1, iv 2, iv 1, iv 2, iv 1, iv B1, iv CC, iv 0, iv B0, iv CC, iv 0] [(.int 1)]) (fun _ k => XS.icmpYes X37.here hx rfl (pc0 := 286) (pc' := 293) rfl (hb hby at_286) rfl (tlt c286).2.2.1 (by decide) (by decide) (XS.iconst X37.here hx rfl (hb hby at_293) (XS.istore X37.here hx rfl (hb hby at_294) rfl (l' := #[iv p1, iv p2, iv p3, iv p4, iv W0, iv W1, iv B0, iv B1, rv b1, iv 2, iv 1, iv 2, iv 1, iv B1, iv CC, iv 0, iv B0, iv CC, iv 0]) rfl (XS.goto X37.here hx rfl (pc0 := 296) (pc' := 317) rfl (hb hby at_296) (by decide) (by decide) (XS.iload X37.here hx rfl (hb hby at_317) rfl  k))))) ?_
                refine own_s T37 (mkF m 324 #[iv p1, iv p2, iv p3, iv p4, iv W0, iv W1, iv B0, iv B1, rv b1, iv 2, iv 1, iv 2, iv 1, iv B1, iv CC, iv 0, iv B0, iv CC, iv 0] [(.ref b1)]) (fun _ k => XS.ifNo X37.here hx rfl (hb hby at_319) rfl ((if0 _ _).trans (feq (by decide : ¬ ((1 : Int32) = (0 : Int32)))).1) (XS.aload X37.here hx rfl (hb hby at_322) rfl rfl k)) ?_
                obtain ⟨v38, T38, L38, X38, hQ38, st38⟩ := own_callV X37 hx hZ (y := own_y7) (z := own_y7) (W := 0) (a := b1) hown (own_h hw 45 rfl) (own_h hw 46 rfl) (notFace_of_selects (args := #[]) (mvT hZ (own_h hw 48 rfl))) (own_h hw 48 rfl) (own_h hw 47 rfl) (own_h hw 2 rfl) (own_h hw 49 rfl) (by decide) (own_rmdc0 l Z a0 hw [] b1 wA11 bA11 sA11 hA11 kw11 kb11 ks11 kh11 p1 W0.toInt64 W1.toInt64 B0.toInt64 CC.toInt64 (((0 : Int64) + (1 : Int64)) - (1 : Int64)) ((0 : Int64) + (1 : Int64)) (1 : Int32) ((0 : Int64) + (1 : Int64)) ((0 : Int32) + (1 : Int32)) (1 : Int32) (2 : Int32) T35.heap n0 Z35 ⟨u36_0, u36_1, u36_2, u36_3, u36_4, u36_5, u36_6, u36_7, u36_8, u36_9, u36_10, u36_11, u36_12, u36_13⟩) (by decide) (by decide) u36_0 (g := (mkF m 324 #[iv p1, iv p2, iv p3, iv p4, iv W0, iv W1, iv B0, iv B1, rv b1, iv 2, iv 1, iv 2, iv 1, iv B1, iv CC, iv 0, iv B0, iv CC, iv 0] [(.ref b1)])) rfl (by rw [hml]; rfl) (argsL := []) (rest := []) rfl (lenOf own_pd5 rfl) rfl (by show 2 * 0 + _ ≤ _; exact Nat.le_of_eq rfl) (hb hby at_324) e37 (by decide) (by decide)
                obtain ⟨rfl, Nq38, e38⟩ := hQ38
                have N38 := Fr.app N37 Nq38
                refine own_s T38 (mkF m 327 #[iv p1, iv p2, iv p3, iv p4, iv W0, iv W1, iv B0, iv B1, rv b1, iv 2, iv 1, iv 2, iv 1, iv B1, iv CC, iv 0, iv B0, iv CC, iv 0] [(.int (own_b (own_dc (2 : Int32) (((0 : Int64) + (1 : Int64)) - (1 : Int64)) ((0 : Int64) + (1 : Int64)) ((0 : Int32) + (1 : Int32)) p1 (1 : Int32))))]) st38 ?_
                refine own_s T38 (mkF m 339 #[iv p1, iv p2, iv p3, iv p4, iv W0, iv W1, iv B0, iv B1, rv b1, iv 2, iv 1, iv 2, iv 1, iv B1, iv CC, iv 0, iv B0, iv CC, iv 0] []) (fun _ k => XS.iload X38.here hx rfl (hb hby at_327) rfl  (XS.icmpNo X38.here hx rfl (hb hby at_329) rfl (teq (by simp +decide [own_dc, own_b, c286])).2 (XS.iconst X38.here hx rfl (hb hby at_332) (XS.goto X38.here hx rfl (pc0 := 333) (pc' := 337) rfl (hb hby at_333) (by decide) (by decide) (XS.istore X38.here hx rfl (hb hby at_337) rfl (l' := #[iv p1, iv p2, iv p3, iv p4, iv W0, iv W1, iv B0, iv B1, rv b1, iv 2, iv 1, iv 2, iv 1, iv B1, iv CC, iv 0, iv B0, iv CC, iv 0]) rfl k))))) ?_
                refine own_s T38 (mkF m 341 #[iv p1, iv p2, iv p3, iv p4, iv W0, iv W1, iv B0, iv B1, rv b1, iv 2, iv 1, iv 2, iv 1, iv B1, iv CC, iv 0, iv B0, iv CC, iv 0] [(.ref b1)]) (fun _ k => XS.aload X38.here hx rfl (hb hby at_339) rfl rfl k) ?_
                obtain ⟨v39, T39, L39, X39, hQ39, st39⟩ := own_callV X38 hx hZ (y := own_y3) (z := own_y3) (W := 0) (a := b1) hown (own_h hw 50 rfl) (own_h hw 28 rfl) (notFace_of_selects (args := #[]) (mvT hZ (own_h hw 30 rfl))) (own_h hw 30 rfl) (own_h hw 29 rfl) (own_h hw 2 rfl) (own_h hw 31 rfl) (by decide) (own_rmfo l Z a0 hw [] b1 wA11 bA11 sA11 hA11 kw11 kb11 ks11 kh11 p1 W0.toInt64 W1.toInt64 B0.toInt64 CC.toInt64 (((0 : Int64) + (1 : Int64)) - (1 : Int64)) ((0 : Int64) + (1 : Int64)) (0 : Int32) (1 : Int32) ((0 : Int64) + (1 : Int64)) ((0 : Int32) + (1 : Int32)) (1 : Int32) (2 : Int32) T35.heap n0 Z35 ⟨u36_0, u36_1, u36_2, u36_3, u36_4, u36_5, u36_6, u36_7, u36_8, u36_9, u36_10, u36_11, u36_12, u36_13⟩ hNE hGE mg15 mg19 mg16 mg34) (by decide) (by decide) u36_0 (g := (mkF m 341 #[iv p1, iv p2, iv p3, iv p4, iv W0, iv W1, iv B0, iv B1, rv b1, iv 2, iv 1, iv 2, iv 1, iv B1, iv CC, iv 0, iv B0, iv CC, iv 0] [(.ref b1)])) rfl (by rw [hml]; rfl) (argsL := []) (rest := []) rfl (lenOf own_pd1 rfl) rfl (by show 2 * 0 + _ ≤ _; exact Nat.le_of_eq rfl) (hb hby at_341) e38 (by decide) (by decide)
                obtain ⟨rfl, Nq39, Kq39, hq39⟩ := hQ39
                have N39 := Fr.app N38 Nq39
                have Z39 := Nat.le_trans Z35 Kq39.1
                obtain ⟨u40_0, u40_1, u40_2, u40_3, u40_4, u40_5, u40_6, u40_7, u40_8, u40_9, u40_10, u40_11, u40_12, u40_13⟩ := id hq39
                refine own_s T39 (mkF m 344 #[iv p1, iv p2, iv p3, iv p4, iv W0, iv W1, iv B0, iv B1, rv b1, iv 2, iv 1, iv 2, iv 1, iv B1, iv CC, iv 0, iv B0, iv CC, iv 0] []) st39 ?_
                refine own_s T39 (mkF m 351 #[iv p1, iv p2, iv p3, iv p4, iv W0, iv W1, iv B0, iv B1, rv b1, iv 2, iv 1, iv 2, iv 1, iv B1, iv CC, iv 0, iv B0, iv CC, iv 0] [(.ref b1)]) (fun _ k => XS.iload X39.here hx rfl (hb hby at_344) rfl  (XS.ifNo X39.here hx rfl (hb hby at_346) rfl ((if0 _ _).trans (feq (by decide : ¬ ((1 : Int32) = (0 : Int32)))).1) (XS.aload X39.here hx rfl (hb hby at_349) rfl rfl k))) ?_
                obtain ⟨v41, T41, L41, X41, hQ41, st41⟩ := own_callV X39 hx hZ (y := own_y7) (z := own_y7) (W := 0) (a := b1) hown (own_h hw 45 rfl) (own_h hw 46 rfl) (notFace_of_selects (args := #[]) (mvT hZ (own_h hw 48 rfl))) (own_h hw 48 rfl) (own_h hw 47 rfl) (own_h hw 2 rfl) (own_h hw 49 rfl) (by decide) (own_rmdc0 l Z a0 hw [] b1 wA11 bA11 sA11 hA11 kw11 kb11 ks11 kh11 p1 W0.toInt64 W1.toInt64 B0.toInt64 CC.toInt64 (((0 : Int64) + (1 : Int64)) - (1 : Int64)) ((0 : Int64) + (1 : Int64)) (1 : Int32) (((0 : Int64) + (1 : Int64)) + (1 : Int64)) (0 : Int32) (-1 : Int32) (2 : Int32) T39.heap n0 Z39 ⟨u40_0, u40_1, u40_2, u40_3, u40_4, u40_5, u40_6, u40_7, u40_8, u40_9, u40_10, u40_11, u40_12, u40_13⟩) (by decide) (by decide) u40_0 (g := (mkF m 351 #[iv p1, iv p2, iv p3, iv p4, iv W0, iv W1, iv B0, iv B1, rv b1, iv 2, iv 1, iv 2, iv 1, iv B1, iv CC, iv 0, iv B0, iv CC, iv 0] [(.ref b1)])) rfl (by rw [hml]; rfl) (argsL := []) (rest := []) rfl (lenOf own_pd5 rfl) rfl (by show 2 * 0 + _ ≤ _; exact Nat.le_of_eq rfl) (hb hby at_351) rfl (by decide) (by decide)
                obtain ⟨rfl, Nq41, e41⟩ := hQ41
                have N41 := Fr.app N39 Nq41
                refine own_s T41 (mkF m 354 #[iv p1, iv p2, iv p3, iv p4, iv W0, iv W1, iv B0, iv B1, rv b1, iv 2, iv 1, iv 2, iv 1, iv B1, iv CC, iv 0, iv B0, iv CC, iv 0] [(.int (own_b (own_dc (2 : Int32) (((0 : Int64) + (1 : Int64)) - (1 : Int64)) (((0 : Int64) + (1 : Int64)) + (1 : Int64)) (0 : Int32) p1 (-1 : Int32))))]) st41 ?_
                refine own_s T41 (mkF m 368 #[iv p1, iv p2, iv p3, iv p4, iv W0, iv W1, iv B0, iv B1, rv b1, iv 2, iv 1, iv 2, iv 1, iv B1, iv CC, iv 0, iv B0, iv CC, iv 0] [(.int 1)]) (fun _ k => XS.iload X41.here hx rfl (hb hby at_354) rfl  (XS.ifYes X41.here hx rfl (pc0 := 356) (pc' := 363) rfl (hb hby at_356) rfl ((if0 _ _).trans (feq (by decide : ¬ ((2 : Int32) = (0 : Int32)))).2) (by decide) (by decide) (XS.iconst X41.here hx rfl (hb hby at_363) (XS.icmpNo X41.here hx rfl (hb hby at_364) rfl (teq (by simp +decide [own_dc, own_b, c286])).2 (XS.iconst X41.here hx rfl (hb hby at_367) k))))) ?_
                refine own_s T41 (mkF m 372 #[iv p1, iv p2, iv p3, iv p4, iv W0, iv W1, iv B0, iv B1, rv b1, iv 2, iv 1, iv 2, iv 1, iv B1, iv CC, iv 0, iv B0, iv CC, iv 0] [(.int 1)]) (fun _ k => XS.goto X41.here hx rfl (pc0 := 368) (pc' := 372) rfl (hb hby at_368) (by decide) (by decide) k) ?_
                exact own_finZ X41 hx (t := .boolean) hret (by simp) (z' := (1 : Int32)) rfl (hb hby at_372) (own_end (Qv := (own_Q0 Z p1 p2 p3 p4 h0 n0)) X41 (own_some hret) hlk (by decide) (by decide) e41 ⟨rfl, N41⟩)
              · refine own_s T37 (mkF m 317 #[iv p1, iv p2, iv p3, iv p4, iv W0, iv W1, iv B0, iv B1, rv b1, iv 2, iv 1, iv 2, iv 1, iv B1, iv CC, iv 1, iv B0, iv CC, iv 0] []) (fun _ k => XS.icmpNo X37.here hx rfl (hb hby at_286) rfl (flt c286).2.2.1 (XS.iconst X37.here hx rfl (hb hby at_289) (XS.goto X37.here hx rfl (pc0 := 290) (pc' := 294) rfl (hb hby at_290) (by decide) (by decide) (XS.istore X37.here hx rfl (hb hby at_294) rfl (l' := #[iv p1, iv p2, iv p3, iv p4, iv W0, iv W1, iv B0, iv B1, rv b1, iv 2, iv 1, iv 2, iv 1, iv B1, iv CC, iv 1, iv B0, iv CC, iv 0]) rfl (XS.goto X37.here hx rfl (pc0 := 296) (pc' := 317) rfl (hb hby at_296) (by decide) (by decide) k))))) ?_
                refine own_s T37 (mkF m 324 #[iv p1, iv p2, iv p3, iv p4, iv W0, iv W1, iv B0, iv B1, rv b1, iv 2, iv 1, iv 2, iv 1, iv B1, iv CC, iv 1, iv B0, iv CC, iv 0] [(.ref b1)]) (fun _ k => XS.iload X37.here hx rfl (hb hby at_317) rfl  (XS.ifNo X37.here hx rfl (hb hby at_319) rfl ((if0 _ _).trans (feq (by decide : ¬ ((1 : Int32) = (0 : Int32)))).1) (XS.aload X37.here hx rfl (hb hby at_322) rfl rfl k))) ?_
                obtain ⟨v42, T42, L42, X42, hQ42, st42⟩ := own_callV X37 hx hZ (y := own_y7) (z := own_y7) (W := 0) (a := b1) hown (own_h hw 45 rfl) (own_h hw 46 rfl) (notFace_of_selects (args := #[]) (mvT hZ (own_h hw 48 rfl))) (own_h hw 48 rfl) (own_h hw 47 rfl) (own_h hw 2 rfl) (own_h hw 49 rfl) (by decide) (own_rmdc0 l Z a0 hw [] b1 wA11 bA11 sA11 hA11 kw11 kb11 ks11 kh11 p1 W0.toInt64 W1.toInt64 B0.toInt64 CC.toInt64 (((0 : Int64) + (1 : Int64)) - (1 : Int64)) ((0 : Int64) + (1 : Int64)) (1 : Int32) ((0 : Int64) + (1 : Int64)) ((0 : Int32) + (1 : Int32)) (1 : Int32) (2 : Int32) T35.heap n0 Z35 ⟨u36_0, u36_1, u36_2, u36_3, u36_4, u36_5, u36_6, u36_7, u36_8, u36_9, u36_10, u36_11, u36_12, u36_13⟩) (by decide) (by decide) u36_0 (g := (mkF m 324 #[iv p1, iv p2, iv p3, iv p4, iv W0, iv W1, iv B0, iv B1, rv b1, iv 2, iv 1, iv 2, iv 1, iv B1, iv CC, iv 1, iv B0, iv CC, iv 0] [(.ref b1)])) rfl (by rw [hml]; rfl) (argsL := []) (rest := []) rfl (lenOf own_pd5 rfl) rfl (by show 2 * 0 + _ ≤ _; exact Nat.le_of_eq rfl) (hb hby at_324) e37 (by decide) (by decide)
                obtain ⟨rfl, Nq42, e42⟩ := hQ42
                have N42 := Fr.app N37 Nq42
                refine own_s T42 (mkF m 327 #[iv p1, iv p2, iv p3, iv p4, iv W0, iv W1, iv B0, iv B1, rv b1, iv 2, iv 1, iv 2, iv 1, iv B1, iv CC, iv 1, iv B0, iv CC, iv 0] [(.int (own_b (own_dc (2 : Int32) (((0 : Int64) + (1 : Int64)) - (1 : Int64)) ((0 : Int64) + (1 : Int64)) ((0 : Int32) + (1 : Int32)) p1 (1 : Int32))))]) st42 ?_
                refine own_s T42 (mkF m 339 #[iv p1, iv p2, iv p3, iv p4, iv W0, iv W1, iv B0, iv B1, rv b1, iv 2, iv 1, iv 2, iv 1, iv B1, iv CC, iv 1, iv B0, iv CC, iv 0] []) (fun _ k => XS.iload X42.here hx rfl (hb hby at_327) rfl  (XS.icmpNo X42.here hx rfl (hb hby at_329) rfl (teq (by simp +decide [own_dc, own_b, c286])).2 (XS.iconst X42.here hx rfl (hb hby at_332) (XS.goto X42.here hx rfl (pc0 := 333) (pc' := 337) rfl (hb hby at_333) (by decide) (by decide) (XS.istore X42.here hx rfl (hb hby at_337) rfl (l' := #[iv p1, iv p2, iv p3, iv p4, iv W0, iv W1, iv B0, iv B1, rv b1, iv 2, iv 1, iv 2, iv 1, iv B1, iv CC, iv 1, iv B0, iv CC, iv 0]) rfl k))))) ?_
                refine own_s T42 (mkF m 341 #[iv p1, iv p2, iv p3, iv p4, iv W0, iv W1, iv B0, iv B1, rv b1, iv 2, iv 1, iv 2, iv 1, iv B1, iv CC, iv 1, iv B0, iv CC, iv 0] [(.ref b1)]) (fun _ k => XS.aload X42.here hx rfl (hb hby at_339) rfl rfl k) ?_
                obtain ⟨v43, T43, L43, X43, hQ43, st43⟩ := own_callV X42 hx hZ (y := own_y3) (z := own_y3) (W := 0) (a := b1) hown (own_h hw 50 rfl) (own_h hw 28 rfl) (notFace_of_selects (args := #[]) (mvT hZ (own_h hw 30 rfl))) (own_h hw 30 rfl) (own_h hw 29 rfl) (own_h hw 2 rfl) (own_h hw 31 rfl) (by decide) (own_rmfo l Z a0 hw [] b1 wA11 bA11 sA11 hA11 kw11 kb11 ks11 kh11 p1 W0.toInt64 W1.toInt64 B0.toInt64 CC.toInt64 (((0 : Int64) + (1 : Int64)) - (1 : Int64)) ((0 : Int64) + (1 : Int64)) (0 : Int32) (1 : Int32) ((0 : Int64) + (1 : Int64)) ((0 : Int32) + (1 : Int32)) (1 : Int32) (2 : Int32) T35.heap n0 Z35 ⟨u36_0, u36_1, u36_2, u36_3, u36_4, u36_5, u36_6, u36_7, u36_8, u36_9, u36_10, u36_11, u36_12, u36_13⟩ hNE hGE mg15 mg19 mg16 mg34) (by decide) (by decide) u36_0 (g := (mkF m 341 #[iv p1, iv p2, iv p3, iv p4, iv W0, iv W1, iv B0, iv B1, rv b1, iv 2, iv 1, iv 2, iv 1, iv B1, iv CC, iv 1, iv B0, iv CC, iv 0] [(.ref b1)])) rfl (by rw [hml]; rfl) (argsL := []) (rest := []) rfl (lenOf own_pd1 rfl) rfl (by show 2 * 0 + _ ≤ _; exact Nat.le_of_eq rfl) (hb hby at_341) e42 (by decide) (by decide)
                obtain ⟨rfl, Nq43, Kq43, hq43⟩ := hQ43
                have N43 := Fr.app N42 Nq43
                have Z43 := Nat.le_trans Z35 Kq43.1
                obtain ⟨u44_0, u44_1, u44_2, u44_3, u44_4, u44_5, u44_6, u44_7, u44_8, u44_9, u44_10, u44_11, u44_12, u44_13⟩ := id hq43
                refine own_s T43 (mkF m 344 #[iv p1, iv p2, iv p3, iv p4, iv W0, iv W1, iv B0, iv B1, rv b1, iv 2, iv 1, iv 2, iv 1, iv B1, iv CC, iv 1, iv B0, iv CC, iv 0] []) st43 ?_
                refine own_s T43 (mkF m 351 #[iv p1, iv p2, iv p3, iv p4, iv W0, iv W1, iv B0, iv B1, rv b1, iv 2, iv 1, iv 2, iv 1, iv B1, iv CC, iv 1, iv B0, iv CC, iv 0] [(.ref b1)]) (fun _ k => XS.iload X43.here hx rfl (hb hby at_344) rfl  (XS.ifNo X43.here hx rfl (hb hby at_346) rfl ((if0 _ _).trans (feq (by decide : ¬ ((1 : Int32) = (0 : Int32)))).1) (XS.aload X43.here hx rfl (hb hby at_349) rfl rfl k))) ?_
                obtain ⟨v45, T45, L45, X45, hQ45, st45⟩ := own_callV X43 hx hZ (y := own_y7) (z := own_y7) (W := 0) (a := b1) hown (own_h hw 45 rfl) (own_h hw 46 rfl) (notFace_of_selects (args := #[]) (mvT hZ (own_h hw 48 rfl))) (own_h hw 48 rfl) (own_h hw 47 rfl) (own_h hw 2 rfl) (own_h hw 49 rfl) (by decide) (own_rmdc0 l Z a0 hw [] b1 wA11 bA11 sA11 hA11 kw11 kb11 ks11 kh11 p1 W0.toInt64 W1.toInt64 B0.toInt64 CC.toInt64 (((0 : Int64) + (1 : Int64)) - (1 : Int64)) ((0 : Int64) + (1 : Int64)) (1 : Int32) (((0 : Int64) + (1 : Int64)) + (1 : Int64)) (0 : Int32) (-1 : Int32) (2 : Int32) T43.heap n0 Z43 ⟨u44_0, u44_1, u44_2, u44_3, u44_4, u44_5, u44_6, u44_7, u44_8, u44_9, u44_10, u44_11, u44_12, u44_13⟩) (by decide) (by decide) u44_0 (g := (mkF m 351 #[iv p1, iv p2, iv p3, iv p4, iv W0, iv W1, iv B0, iv B1, rv b1, iv 2, iv 1, iv 2, iv 1, iv B1, iv CC, iv 1, iv B0, iv CC, iv 0] [(.ref b1)])) rfl (by rw [hml]; rfl) (argsL := []) (rest := []) rfl (lenOf own_pd5 rfl) rfl (by show 2 * 0 + _ ≤ _; exact Nat.le_of_eq rfl) (hb hby at_351) rfl (by decide) (by decide)
                obtain ⟨rfl, Nq45, e45⟩ := hQ45
                have N45 := Fr.app N43 Nq45
                refine own_s T45 (mkF m 354 #[iv p1, iv p2, iv p3, iv p4, iv W0, iv W1, iv B0, iv B1, rv b1, iv 2, iv 1, iv 2, iv 1, iv B1, iv CC, iv 1, iv B0, iv CC, iv 0] [(.int (own_b (own_dc (2 : Int32) (((0 : Int64) + (1 : Int64)) - (1 : Int64)) (((0 : Int64) + (1 : Int64)) + (1 : Int64)) (0 : Int32) p1 (-1 : Int32))))]) st45 ?_
                refine own_s T45 (mkF m 368 #[iv p1, iv p2, iv p3, iv p4, iv W0, iv W1, iv B0, iv B1, rv b1, iv 2, iv 1, iv 2, iv 1, iv B1, iv CC, iv 1, iv B0, iv CC, iv 0] [(.int 1)]) (fun _ k => XS.iload X45.here hx rfl (hb hby at_354) rfl  (XS.ifYes X45.here hx rfl (pc0 := 356) (pc' := 363) rfl (hb hby at_356) rfl ((if0 _ _).trans (feq (by decide : ¬ ((2 : Int32) = (0 : Int32)))).2) (by decide) (by decide) (XS.iconst X45.here hx rfl (hb hby at_363) (XS.icmpNo X45.here hx rfl (hb hby at_364) rfl (teq (by simp +decide [own_dc, own_b, c286])).2 (XS.iconst X45.here hx rfl (hb hby at_367) k))))) ?_
                refine own_s T45 (mkF m 372 #[iv p1, iv p2, iv p3, iv p4, iv W0, iv W1, iv B0, iv B1, rv b1, iv 2, iv 1, iv 2, iv 1, iv B1, iv CC, iv 1, iv B0, iv CC, iv 0] [(.int 1)]) (fun _ k => XS.goto X45.here hx rfl (pc0 := 368) (pc' := 372) rfl (hb hby at_368) (by decide) (by decide) k) ?_
                exact own_finZ X45 hx (t := .boolean) hret (by simp) (z' := (1 : Int32)) rfl (hb hby at_372) (own_end (Qv := (own_Q0 Z p1 p2 p3 p4 h0 n0)) X45 (own_some hret) hlk (by decide) (by decide) e45 ⟨rfl, N45⟩)
          · have kk_hc := hc
            refine own_s T25 (mkF m 206 #[iv p1, iv p2, iv p3, iv p4, iv W0, iv W1, iv B0, iv B1, rv b1, iv 2, iv 1, iv 2, iv 1, iv B1, iv CC, u_, u_, u_, u_] [(.int CC), (.ref b1)]) (fun _ k => XS.aload X25.here hx rfl (hb hby at_202) rfl rfl (XS.iload X25.here hx rfl (hb hby at_204) rfl  k)) ?_
            have mg46 := (own_m8 hCC)
            refine own_s T25 (mkF m 207 #[iv p1, iv p2, iv p3, iv p4, iv W0, iv W1, iv B0, iv B1, rv b1, iv 2, iv 1, iv 2, iv 1, iv B1, iv CC, u_, u_, u_, u_] [(.double (FP.l2d CC.toInt64)), (.ref b1)]) (fun _ k => XS.i2dS X25.here hx rfl (hb hby at_206) rfl (i2d_w _) k) ?_
            obtain ⟨v47, T47, L47, X47, hQ47, st47⟩ := own_callV X25 hx hZ (y := own_y6) (z := own_y6) (W := 0) (a := b1) hown (own_h hw 59 rfl) (own_h hw 60 rfl) (notFace_of_selects (args := #[]) (mvT hZ (own_h hw 62 rfl))) (own_h hw 62 rfl) (own_h hw 61 rfl) (own_h hw 2 rfl) (own_h hw 63 rfl) (by decide) (own_rmre12N l Z a0 hw [] b1 wA11 bA11 sA11 hA11 kw11 kb11 ks11 kh11 p1 W0.toInt64 W1.toInt64 B0.toInt64 B1.toInt64 (((0 : Int64) + (1 : Int64)) - (1 : Int64)) (((0 : Int64) + (1 : Int64)) - (1 : Int64)) ((0 : Int64) + (1 : Int64)) (0 : Int32) CC.toInt64 T21.heap n0 Z21 ⟨u22_0, u22_1, u22_2, u22_3, u22_4, u22_5, u22_6, u22_7, u22_8, u22_9, u22_10, u22_11, u22_12, u22_13⟩ hNE hGE mg15 mg19 mg16 mg20 mg46 (own_n64 hc)) (by decide) (by decide) u22_0 (g := (mkF m 207 #[iv p1, iv p2, iv p3, iv p4, iv W0, iv W1, iv B0, iv B1, rv b1, iv 2, iv 1, iv 2, iv 1, iv B1, iv CC, u_, u_, u_, u_] [(.double (FP.l2d CC.toInt64)), (.ref b1)])) rfl (by rw [hml]; rfl) (argsL := [(.double (FP.l2d CC.toInt64))]) (rest := []) rfl (lenOf own_pd8 rfl) rfl (by show 2 * 0 + _ ≤ _; exact Nat.le_of_eq rfl) (hb hby at_207) e25 (by decide) (by decide)
            obtain ⟨rfl, Nq47, Kq47, hq47⟩ := hQ47
            have N47 := Fr.app N25 Nq47
            have Z47 := Nat.le_trans Z21 Kq47.1
            obtain ⟨u48_0, u48_1, u48_2, u48_3, u48_4, u48_5, u48_6, u48_7, u48_8, u48_9, u48_10, u48_11, u48_12, u48_13⟩ := id hq47
            refine own_s T47 (mkF m 210 #[iv p1, iv p2, iv p3, iv p4, iv W0, iv W1, iv B0, iv B1, rv b1, iv 2, iv 1, iv 2, iv 1, iv B1, iv CC, u_, u_, u_, u_] []) st47 ?_
            refine own_s T47 (mkF m 303 #[iv p1, iv p2, iv p3, iv p4, iv W0, iv W1, iv B0, iv B1, rv b1, iv 2, iv 1, iv 2, iv 1, iv B1, iv CC, u_, u_, u_, u_] [(.int 1)]) (fun _ k => XS.iload X47.here hx rfl (hb hby at_210) rfl  (XS.ifYes X47.here hx rfl (pc0 := 212) (pc' := 299) rfl (hb hby at_212) rfl ((if0 _ _).trans (flt hc).2.2.2) (by decide) (by decide) (XS.iload X47.here hx rfl (hb hby at_299) rfl  (XS.iconst X47.here hx rfl (hb hby at_301) (XS.isub X47.here hx rfl (hb hby at_302) rfl k))))) ?_
            refine own_s T47 (mkF m 317 #[iv p1, iv p2, iv p3, iv p4, iv W0, iv W1, iv B0, iv B1, rv b1, iv 2, iv 1, iv 1, iv 1, iv B1, iv CC, iv 0, u_, u_, u_] []) (fun _ k => XS.istore X47.here hx rfl (hb hby at_303) rfl (l' := #[iv p1, iv p2, iv p3, iv p4, iv W0, iv W1, iv B0, iv B1, rv b1, iv 2, iv 1, iv 1, iv 1, iv B1, iv CC, u_, u_, u_, u_]) rfl (XS.iload X47.here hx rfl (hb hby at_305) rfl  (XS.ifYes X47.here hx rfl (pc0 := 307) (pc' := 314) rfl (hb hby at_307) rfl ((if0 _ _).trans (feq (by decide : ¬ ((1 : Int32) = (0 : Int32)))).2) (by decide) (by decide) (XS.iconst X47.here hx rfl (hb hby at_314) (XS.istore X47.here hx rfl (hb hby at_315) rfl (l' := #[iv p1, iv p2, iv p3, iv p4, iv W0, iv W1, iv B0, iv B1, rv b1, iv 2, iv 1, iv 1, iv 1, iv B1, iv CC, iv 0, u_, u_, u_]) rfl k))))) ?_
            refine own_s T47 (mkF m 324 #[iv p1, iv p2, iv p3, iv p4, iv W0, iv W1, iv B0, iv B1, rv b1, iv 2, iv 1, iv 1, iv 1, iv B1, iv CC, iv 0, u_, u_, u_] [(.ref b1)]) (fun _ k => XS.iload X47.here hx rfl (hb hby at_317) rfl  (XS.ifNo X47.here hx rfl (hb hby at_319) rfl ((if0 _ _).trans (feq (by decide : ¬ ((1 : Int32) = (0 : Int32)))).1) (XS.aload X47.here hx rfl (hb hby at_322) rfl rfl k))) ?_
            obtain ⟨v49, T49, L49, X49, hQ49, st49⟩ := own_callV X47 hx hZ (y := own_y7) (z := own_y7) (W := 0) (a := b1) hown (own_h hw 45 rfl) (own_h hw 46 rfl) (notFace_of_selects (args := #[]) (mvT hZ (own_h hw 48 rfl))) (own_h hw 48 rfl) (own_h hw 47 rfl) (own_h hw 2 rfl) (own_h hw 49 rfl) (by decide) (own_rmdc0 l Z a0 hw [] b1 wA11 bA11 sA11 hA11 kw11 kb11 ks11 kh11 p1 W0.toInt64 W1.toInt64 B0.toInt64 CC.toInt64 (((0 : Int64) + (1 : Int64)) - (1 : Int64)) ((0 : Int64) + (1 : Int64)) (0 : Int32) ((0 : Int64) + (1 : Int64)) ((0 : Int32) + (1 : Int32)) (-1 : Int32) (1 : Int32) T47.heap n0 Z47 ⟨u48_0, u48_1, u48_2, u48_3, u48_4, u48_5, u48_6, u48_7, u48_8, u48_9, u48_10, u48_11, u48_12, u48_13⟩) (by decide) (by decide) u48_0 (g := (mkF m 324 #[iv p1, iv p2, iv p3, iv p4, iv W0, iv W1, iv B0, iv B1, rv b1, iv 2, iv 1, iv 1, iv 1, iv B1, iv CC, iv 0, u_, u_, u_] [(.ref b1)])) rfl (by rw [hml]; rfl) (argsL := []) (rest := []) rfl (lenOf own_pd5 rfl) rfl (by show 2 * 0 + _ ≤ _; exact Nat.le_of_eq rfl) (hb hby at_324) rfl (by decide) (by decide)
            obtain ⟨rfl, Nq49, e49⟩ := hQ49
            have N49 := Fr.app N47 Nq49
            refine own_s T49 (mkF m 327 #[iv p1, iv p2, iv p3, iv p4, iv W0, iv W1, iv B0, iv B1, rv b1, iv 2, iv 1, iv 1, iv 1, iv B1, iv CC, iv 0, u_, u_, u_] [(.int (own_b (own_dc (1 : Int32) (((0 : Int64) + (1 : Int64)) - (1 : Int64)) ((0 : Int64) + (1 : Int64)) ((0 : Int32) + (1 : Int32)) p1 (-1 : Int32))))]) st49 ?_
            refine own_s T49 (mkF m 339 #[iv p1, iv p2, iv p3, iv p4, iv W0, iv W1, iv B0, iv B1, rv b1, iv 2, iv 1, iv 1, iv 1, iv B1, iv CC, iv 0, u_, u_, u_] []) (fun _ k => XS.iload X49.here hx rfl (hb hby at_327) rfl  (XS.icmpNo X49.here hx rfl (hb hby at_329) rfl (teq (by simp +decide [own_dc, own_b])).2 (XS.iconst X49.here hx rfl (hb hby at_332) (XS.goto X49.here hx rfl (pc0 := 333) (pc' := 337) rfl (hb hby at_333) (by decide) (by decide) (XS.istore X49.here hx rfl (hb hby at_337) rfl (l' := #[iv p1, iv p2, iv p3, iv p4, iv W0, iv W1, iv B0, iv B1, rv b1, iv 2, iv 1, iv 1, iv 1, iv B1, iv CC, iv 0, u_, u_, u_]) rfl k))))) ?_
            refine own_s T49 (mkF m 341 #[iv p1, iv p2, iv p3, iv p4, iv W0, iv W1, iv B0, iv B1, rv b1, iv 2, iv 1, iv 1, iv 1, iv B1, iv CC, iv 0, u_, u_, u_] [(.ref b1)]) (fun _ k => XS.aload X49.here hx rfl (hb hby at_339) rfl rfl k) ?_
            obtain ⟨v50, T50, L50, X50, hQ50, st50⟩ := own_callV X49 hx hZ (y := own_y3) (z := own_y3) (W := 0) (a := b1) hown (own_h hw 50 rfl) (own_h hw 28 rfl) (notFace_of_selects (args := #[]) (mvT hZ (own_h hw 30 rfl))) (own_h hw 30 rfl) (own_h hw 29 rfl) (own_h hw 2 rfl) (own_h hw 31 rfl) (by decide) (own_rmfo l Z a0 hw [] b1 wA11 bA11 sA11 hA11 kw11 kb11 ks11 kh11 p1 W0.toInt64 W1.toInt64 B0.toInt64 CC.toInt64 (((0 : Int64) + (1 : Int64)) - (1 : Int64)) ((0 : Int64) + (1 : Int64)) (0 : Int32) (0 : Int32) ((0 : Int64) + (1 : Int64)) ((0 : Int32) + (1 : Int32)) (-1 : Int32) (1 : Int32) T47.heap n0 Z47 ⟨u48_0, u48_1, u48_2, u48_3, u48_4, u48_5, u48_6, u48_7, u48_8, u48_9, u48_10, u48_11, u48_12, u48_13⟩ hNE hGE mg15 mg19 mg16 mg46) (by decide) (by decide) u48_0 (g := (mkF m 341 #[iv p1, iv p2, iv p3, iv p4, iv W0, iv W1, iv B0, iv B1, rv b1, iv 2, iv 1, iv 1, iv 1, iv B1, iv CC, iv 0, u_, u_, u_] [(.ref b1)])) rfl (by rw [hml]; rfl) (argsL := []) (rest := []) rfl (lenOf own_pd1 rfl) rfl (by show 2 * 0 + _ ≤ _; exact Nat.le_of_eq rfl) (hb hby at_341) e49 (by decide) (by decide)
            obtain ⟨rfl, Nq50, Kq50, hq50⟩ := hQ50
            have N50 := Fr.app N49 Nq50
            have Z50 := Nat.le_trans Z47 Kq50.1
            obtain ⟨u51_0, u51_1, u51_2, u51_3, u51_4, u51_5, u51_6, u51_7, u51_8, u51_9, u51_10, u51_11, u51_12, u51_13⟩ := id hq50
            refine own_s T50 (mkF m 344 #[iv p1, iv p2, iv p3, iv p4, iv W0, iv W1, iv B0, iv B1, rv b1, iv 2, iv 1, iv 1, iv 1, iv B1, iv CC, iv 0, u_, u_, u_] []) st50 ?_
            refine own_s T50 (mkF m 351 #[iv p1, iv p2, iv p3, iv p4, iv W0, iv W1, iv B0, iv B1, rv b1, iv 2, iv 1, iv 1, iv 1, iv B1, iv CC, iv 0, u_, u_, u_] [(.ref b1)]) (fun _ k => XS.iload X50.here hx rfl (hb hby at_344) rfl  (XS.ifNo X50.here hx rfl (hb hby at_346) rfl ((if0 _ _).trans (feq (by decide : ¬ ((1 : Int32) = (0 : Int32)))).1) (XS.aload X50.here hx rfl (hb hby at_349) rfl rfl k))) ?_
            obtain ⟨v52, T52, L52, X52, hQ52, st52⟩ := own_callV X50 hx hZ (y := own_y7) (z := own_y7) (W := 0) (a := b1) hown (own_h hw 45 rfl) (own_h hw 46 rfl) (notFace_of_selects (args := #[]) (mvT hZ (own_h hw 48 rfl))) (own_h hw 48 rfl) (own_h hw 47 rfl) (own_h hw 2 rfl) (own_h hw 49 rfl) (by decide) (own_rmdc0 l Z a0 hw [] b1 wA11 bA11 sA11 hA11 kw11 kb11 ks11 kh11 p1 W0.toInt64 W1.toInt64 B0.toInt64 CC.toInt64 (((0 : Int64) + (1 : Int64)) - (1 : Int64)) ((0 : Int64) + (1 : Int64)) (0 : Int32) (((0 : Int64) + (1 : Int64)) + (1 : Int64)) (0 : Int32) (-1 : Int32) (1 : Int32) T50.heap n0 Z50 ⟨u51_0, u51_1, u51_2, u51_3, u51_4, u51_5, u51_6, u51_7, u51_8, u51_9, u51_10, u51_11, u51_12, u51_13⟩) (by decide) (by decide) u51_0 (g := (mkF m 351 #[iv p1, iv p2, iv p3, iv p4, iv W0, iv W1, iv B0, iv B1, rv b1, iv 2, iv 1, iv 1, iv 1, iv B1, iv CC, iv 0, u_, u_, u_] [(.ref b1)])) rfl (by rw [hml]; rfl) (argsL := []) (rest := []) rfl (lenOf own_pd5 rfl) rfl (by show 2 * 0 + _ ≤ _; exact Nat.le_of_eq rfl) (hb hby at_351) rfl (by decide) (by decide)
            obtain ⟨rfl, Nq52, e52⟩ := hQ52
            have N52 := Fr.app N50 Nq52
            refine own_s T52 (mkF m 354 #[iv p1, iv p2, iv p3, iv p4, iv W0, iv W1, iv B0, iv B1, rv b1, iv 2, iv 1, iv 1, iv 1, iv B1, iv CC, iv 0, u_, u_, u_] [(.int (own_b (own_dc (1 : Int32) (((0 : Int64) + (1 : Int64)) - (1 : Int64)) (((0 : Int64) + (1 : Int64)) + (1 : Int64)) (0 : Int32) p1 (-1 : Int32))))]) st52 ?_
            refine own_s T52 (mkF m 368 #[iv p1, iv p2, iv p3, iv p4, iv W0, iv W1, iv B0, iv B1, rv b1, iv 2, iv 1, iv 1, iv 1, iv B1, iv CC, iv 0, u_, u_, u_] [(.int 1)]) (fun _ k => XS.iload X52.here hx rfl (hb hby at_354) rfl  (XS.ifYes X52.here hx rfl (pc0 := 356) (pc' := 363) rfl (hb hby at_356) rfl ((if0 _ _).trans (feq (by decide : ¬ ((1 : Int32) = (0 : Int32)))).2) (by decide) (by decide) (XS.iconst X52.here hx rfl (hb hby at_363) (XS.icmpNo X52.here hx rfl (hb hby at_364) rfl (teq (by simp +decide [own_dc, own_b])).2 (XS.iconst X52.here hx rfl (hb hby at_367) k))))) ?_
            refine own_s T52 (mkF m 372 #[iv p1, iv p2, iv p3, iv p4, iv W0, iv W1, iv B0, iv B1, rv b1, iv 2, iv 1, iv 1, iv 1, iv B1, iv CC, iv 0, u_, u_, u_] [(.int 1)]) (fun _ k => XS.goto X52.here hx rfl (pc0 := 368) (pc' := 372) rfl (hb hby at_368) (by decide) (by decide) k) ?_
            exact own_finZ X52 hx (t := .boolean) hret (by simp) (z' := (1 : Int32)) rfl (hb hby at_372) (own_end (Qv := (own_Q0 Z p1 p2 p3 p4 h0 n0)) X52 (own_some hret) hlk (by decide) (by decide) e52 ⟨rfl, N52⟩)
        · have kk_hz := hz
          obtain ⟨T53, h53, X53, e53, E53, A53, D53, -, st53⟩ := newO X0 hx hZ hown (own_h hw 0 rfl) (own_h hw 1 rfl) (own_h hw 2 rfl) e0 (g := (mkF m 32 #[iv p1, iv p2, iv p3, iv p4, iv W0, iv W1, iv B0, iv B1, u_, u_, u_, u_, u_, u_, u_, u_, u_, u_, u_] [])) rfl (hb hby at_32) (by decide) (by decide)
          obtain ⟨b53, g53⟩ : ∃ z, z = h0.size := ⟨_, rfl⟩
          have g_b53 : n0 ≤ b53 := Nat.le_trans Z0 (Nat.le_of_eq g53.symm)
          have sz_b53 : h0.size ≤ b53 := Nat.le_trans (Keep.refl h0 []).1 (Nat.le_of_eq g53.symm)
          rw [← g53] at A53 D53 st53
          have K53 : Keep h0 h53 [] := (Keep.refl h0 []).ext E53
          have Z53 := Nat.le_trans Z0 E53.1
          have f54 : Fld Z h53 b53 "com/example/allotrope/allotrope/procure/CoverQueue" "reach" "I" (.int 0) := D53 (Or.inr (own_h hw 10 rfl)) (ty := .int) (by decide)
          have f55 : Fld Z h53 b53 "com/example/allotrope/allotrope/procure/CoverQueue" "weights" "[D" .null := D53 (Or.inr (own_h hw 13 rfl)) (ty := (.array .double)) (by decide)
          have f56 : Fld Z h53 b53 "com/example/allotrope/allotrope/procure/CoverQueue" "bounds" "[D" .null := D53 (Or.inr (own_h hw 15 rfl)) (ty := (.array .double)) (by decide)
          have f57 : Fld Z h53 b53 "com/example/allotrope/allotrope/procure/CoverQueue" "setAt" "[J" .null := D53 (Or.inr (own_h hw 18 rfl)) (ty := (.array .long)) (by decide)
          have f58 : Fld Z h53 b53 "com/example/allotrope/allotrope/procure/CoverQueue" "heap" "[I" .null := D53 (Or.inr (own_h hw 21 rfl)) (ty := (.array .int)) (by decide)
          have f59 : Fld Z h53 b53 "com/example/allotrope/allotrope/procure/CoverQueue" "forgotten" "J" (.long 0) := D53 (Or.inl (own_h hw 33 rfl)) (ty := .long) (by decide)
          have f60 : Fld Z h53 b53 "com/example/allotrope/allotrope/procure/CoverQueue" "reckonings" "I" (.int 0) := D53 (Or.inl (own_h hw 35 rfl)) (ty := .int) (by decide)
          have f61 : Fld Z h53 b53 "com/example/allotrope/allotrope/procure/CoverQueue" "best" "I" (.int 0) := D53 (Or.inl (own_h hw 37 rfl)) (ty := .int) (by decide)
          have f62 : Fld Z h53 b53 "com/example/allotrope/allotrope/procure/CoverQueue" "size" "I" (.int 0) := D53 (Or.inl (own_h hw 39 rfl)) (ty := .int) (by decide)
          refine own_s T53 (mkF m 35 #[iv p1, iv p2, iv p3, iv p4, iv W0, iv W1, iv B0, iv B1, u_, u_, u_, u_, u_, u_, u_, u_, u_, u_, u_] [(.ref b53)]) st53 ?_
          refine own_s T53 (mkF m 38 #[iv p1, iv p2, iv p3, iv p4, iv W0, iv W1, iv B0, iv B1, u_, u_, u_, u_, u_, u_, u_, u_, u_, u_, u_] [(.int p1), (.int 2), (.ref b53), (.ref b53)]) (fun _ k => XS.dup X53.here hx rfl (hb hby at_35) rfl rfl (XS.iconst X53.here hx rfl (hb hby at_36) (XS.iloadN X53.here hx rfl (hb hby at_37) rfl  k))) ?_
          obtain ⟨v63, T63, L63, X63, hQ63, st63⟩ := own_callI X53 hx hZ (y := own_y8) (W := 1) (a := b53) rfl hown (own_h hw 3 rfl) (own_h hw 4 rfl) (own_h hw 2 rfl) (own_h hw 5 rfl) (by decide) (own_rmini l Z a0 hw [] b53 p1 h53 n0 Z53 g_b53 A53 f54 f55 f56 f57 f58 f59 f60 f61 f62) (by decide) (by decide) (g := (mkF m 38 #[iv p1, iv p2, iv p3, iv p4, iv W0, iv W1, iv B0, iv B1, u_, u_, u_, u_, u_, u_, u_, u_, u_, u_, u_] [(.int p1), (.int 2), (.ref b53), (.ref b53)])) rfl (by rw [hml]; rfl) (argsL := [(.int 2), (.int p1)]) (rest := [(.ref b53)]) rfl (lenOf own_pd3 rfl) rfl (by show 2 * 0 + _ ≤ _; exact Nat.le_of_eq rfl) (hb hby at_38) e53 (by decide) (by decide)
          obtain ⟨rfl, Nq63, Kq63, wA63, bA63, sA63, hA63, kw63, kb63, ks63, kh63, hNE, hGE, hq63⟩ := hQ63
          have N63 := Fr.app N0 Nq63
          have Z63 := Nat.le_trans Z53 Kq63.1
          obtain ⟨u64_0, u64_1, u64_2, u64_3, u64_4, u64_5, u64_6, u64_7, u64_8, u64_9, u64_10, u64_11, u64_12, u64_13⟩ := id hq63
          refine own_s T63 (mkF m 41 #[iv p1, iv p2, iv p3, iv p4, iv W0, iv W1, iv B0, iv B1, u_, u_, u_, u_, u_, u_, u_, u_, u_, u_, u_] [(.ref b53)]) st63 ?_
          refine own_s T63 (mkF m 45 #[iv p1, iv p2, iv p3, iv p4, iv W0, iv W1, iv B0, iv B1, rv b53, u_, u_, u_, u_, u_, u_, u_, u_, u_, u_] [(.ref b53)]) (fun _ k => XS.astore X63.here hx rfl (hb hby at_41) rfl rfl (l' := #[iv p1, iv p2, iv p3, iv p4, iv W0, iv W1, iv B0, iv B1, rv b53, u_, u_, u_, u_, u_, u_, u_, u_, u_, u_]) rfl (XS.aload X63.here hx rfl (hb hby at_43) rfl rfl k)) ?_
          obtain ⟨v65, T65, L65, X65, hQ65, st65⟩ := own_callV X63 hx hZ (y := own_y4) (z := own_y4) (W := 0) (a := b53) hown (own_h hw 22 rfl) (own_h hw 23 rfl) (notFace_of_selects (args := #[]) (mvT hZ (own_h hw 25 rfl))) (own_h hw 25 rfl) (own_h hw 24 rfl) (own_h hw 2 rfl) (own_h hw 26 rfl) (by decide) (own_rmsta l Z a0 hw [] b53 wA63 bA63 sA63 hA63 kw63 kb63 ks63 kh63 p1 0 0 0 0 (0 : Int64) (0 : Int64) (0 : Int32) (0 : Int32) (0 : Int64) (0 : Int32) (0 : Int32) (0 : Int32) T63.heap n0 Z63 ⟨u64_0, u64_1, u64_2, u64_3, u64_4, u64_5, u64_6, u64_7, u64_8, u64_9, u64_10, u64_11, u64_12, u64_13⟩ hNE hGE own_mg8 own_mg8 own_mg8 own_mg8) (by decide) (by decide) u64_0 (g := (mkF m 45 #[iv p1, iv p2, iv p3, iv p4, iv W0, iv W1, iv B0, iv B1, rv b53, u_, u_, u_, u_, u_, u_, u_, u_, u_, u_] [(.ref b53)])) rfl (by rw [hml]; rfl) (argsL := []) (rest := []) rfl (lenOf own_pd1 rfl) rfl (by show 2 * 0 + _ ≤ _; exact Nat.le_of_eq rfl) (hb hby at_45) rfl (by decide) (by decide)
          obtain ⟨rfl, Nq65, Kq65, hq65⟩ := hQ65
          have N65 := Fr.app N63 Nq65
          have Z65 := Nat.le_trans Z63 Kq65.1
          obtain ⟨u66_0, u66_1, u66_2, u66_3, u66_4, u66_5, u66_6, u66_7, u66_8, u66_9, u66_10, u66_11, u66_12, u66_13⟩ := id hq65
          refine own_s T65 (mkF m 48 #[iv p1, iv p2, iv p3, iv p4, iv W0, iv W1, iv B0, iv B1, rv b53, u_, u_, u_, u_, u_, u_, u_, u_, u_, u_] []) st65 ?_
          refine own_s T65 (mkF m 53 #[iv p1, iv p2, iv p3, iv p4, iv W0, iv W1, iv B0, iv B1, rv b53, u_, u_, u_, u_, u_, u_, u_, u_, u_, u_] [(.int W0), (.int 0), (.ref b53)]) (fun _ k => XS.aload X65.here hx rfl (hb hby at_48) rfl rfl (XS.iconst X65.here hx rfl (hb hby at_50) (XS.iload X65.here hx rfl (hb hby at_51) rfl  k))) ?_
          have mg67 := (own_m8 hW0)
          refine own_s T65 (mkF m 56 #[iv p1, iv p2, iv p3, iv p4, iv W0, iv W1, iv B0, iv B1, rv b53, u_, u_, u_, u_, u_, u_, u_, u_, u_, u_] [(.int B0), (.double (FP.l2d W0.toInt64)), (.int 0), (.ref b53)]) (fun _ k => XS.i2dS X65.here hx rfl (hb hby at_53) rfl (i2d_w _) (XS.iload X65.here hx rfl (hb hby at_54) rfl  k)) ?_
          have mg68 := (own_m8 hB0)
          refine own_s T65 (mkF m 57 #[iv p1, iv p2, iv p3, iv p4, iv W0, iv W1, iv B0, iv B1, rv b53, u_, u_, u_, u_, u_, u_, u_, u_, u_, u_] [(.double (FP.l2d B0.toInt64)), (.double (FP.l2d W0.toInt64)), (.int 0), (.ref b53)]) (fun _ k => XS.i2dS X65.here hx rfl (hb hby at_56) rfl (i2d_w _) k) ?_
          obtain ⟨v69, T69, L69, X69, hQ69, st69⟩ := own_callV X65 hx hZ (y := own_y5) (z := own_y5) (W := 0) (a := b53) hown (own_h hw 40 rfl) (own_h hw 41 rfl) (notFace_of_selects (args := #[]) (mvT hZ (own_h hw 43 rfl))) (own_h hw 43 rfl) (own_h hw 42 rfl) (own_h hw 2 rfl) (own_h hw 44 rfl) (by decide) (own_rma0T l Z a0 hw [] b53 wA63 bA63 sA63 hA63 kw63 kb63 ks63 kh63 p1 0 0 0 0 (0 : Int64) (0 : Int64) (0 : Int32) (0 : Int32) ((0 : Int64) + (1 : Int64)) (0 : Int32) (-1 : Int32) W0.toInt64 B0.toInt64 T65.heap n0 Z65 ⟨u66_0, u66_1, u66_2, u66_3, u66_4, u66_5, u66_6, u66_7, u66_8, u66_9, u66_10, u66_11, u66_12, u66_13⟩ hNE hGE own_mg8 own_mg8 own_mg8 own_mg8 mg67 mg68 (own_p64 hb0)) (by decide) (by decide) u66_0 (g := (mkF m 57 #[iv p1, iv p2, iv p3, iv p4, iv W0, iv W1, iv B0, iv B1, rv b53, u_, u_, u_, u_, u_, u_, u_, u_, u_, u_] [(.double (FP.l2d B0.toInt64)), (.double (FP.l2d W0.toInt64)), (.int 0), (.ref b53)])) rfl (by rw [hml]; rfl) (argsL := [(.int 0), (.double (FP.l2d W0.toInt64)), (.double (FP.l2d B0.toInt64))]) (rest := []) rfl (lenOf own_pd4 rfl) rfl (by show 2 * 0 + _ ≤ _; exact Nat.le_of_eq rfl) (hb hby at_57) rfl (by decide) (by decide)
          obtain ⟨rfl, Nq69, Kq69, hq69⟩ := hQ69
          have N69 := Fr.app N65 Nq69
          have Z69 := Nat.le_trans Z65 Kq69.1
          obtain ⟨u70_0, u70_1, u70_2, u70_3, u70_4, u70_5, u70_6, u70_7, u70_8, u70_9, u70_10, u70_11, u70_12, u70_13⟩ := id hq69
          refine own_s T69 (mkF m 60 #[iv p1, iv p2, iv p3, iv p4, iv W0, iv W1, iv B0, iv B1, rv b53, u_, u_, u_, u_, u_, u_, u_, u_, u_, u_] []) st69 ?_
          refine own_s T69 (mkF m 65 #[iv p1, iv p2, iv p3, iv p4, iv W0, iv W1, iv B0, iv B1, rv b53, u_, u_, u_, u_, u_, u_, u_, u_, u_, u_] [(.int W1), (.int 1), (.ref b53)]) (fun _ k => XS.aload X69.here hx rfl (hb hby at_60) rfl rfl (XS.iconst X69.here hx rfl (hb hby at_62) (XS.iload X69.here hx rfl (hb hby at_63) rfl  k))) ?_
          have mg71 := (own_m8 hW1)
          refine own_s T69 (mkF m 68 #[iv p1, iv p2, iv p3, iv p4, iv W0, iv W1, iv B0, iv B1, rv b53, u_, u_, u_, u_, u_, u_, u_, u_, u_, u_] [(.int B1), (.double (FP.l2d W1.toInt64)), (.int 1), (.ref b53)]) (fun _ k => XS.i2dS X69.here hx rfl (hb hby at_65) rfl (i2d_w _) (XS.iload X69.here hx rfl (hb hby at_66) rfl  k)) ?_
          have mg72 := (own_m8 hB1)
          refine own_s T69 (mkF m 69 #[iv p1, iv p2, iv p3, iv p4, iv W0, iv W1, iv B0, iv B1, rv b53, u_, u_, u_, u_, u_, u_, u_, u_, u_, u_] [(.double (FP.l2d B1.toInt64)), (.double (FP.l2d W1.toInt64)), (.int 1), (.ref b53)]) (fun _ k => XS.i2dS X69.here hx rfl (hb hby at_68) rfl (i2d_w _) k) ?_
          obtain ⟨v73, T73, L73, X73, hQ73, st73⟩ := own_callV X69 hx hZ (y := own_y5) (z := own_y5) (W := 0) (a := b53) hown (own_h hw 40 rfl) (own_h hw 41 rfl) (notFace_of_selects (args := #[]) (mvT hZ (own_h hw 43 rfl))) (own_h hw 43 rfl) (own_h hw 42 rfl) (own_h hw 2 rfl) (own_h hw 44 rfl) (by decide) (own_rma1N l Z a0 hw [] b53 wA63 bA63 sA63 hA63 kw63 kb63 ks63 kh63 p1 W0.toInt64 0 B0.toInt64 0 (((0 : Int64) + (1 : Int64)) - (1 : Int64)) (0 : Int64) (0 : Int32) ((0 : Int64) + (1 : Int64)) (0 : Int32) (-1 : Int32) W1.toInt64 B1.toInt64 T69.heap n0 Z69 ⟨u70_0, u70_1, u70_2, u70_3, u70_4, u70_5, u70_6, u70_7, u70_8, u70_9, u70_10, u70_11, u70_12, u70_13⟩ hNE hGE mg67 own_mg8 mg68 own_mg8 mg71 mg72 (own_p64 hb1) (own_p64 hb0) (own_w64 hW0) (own_w64 hW1) (own_lF hW0 hW1 hB0 hB1 hz)) (by decide) (by decide) u70_0 (g := (mkF m 69 #[iv p1, iv p2, iv p3, iv p4, iv W0, iv W1, iv B0, iv B1, rv b53, u_, u_, u_, u_, u_, u_, u_, u_, u_, u_] [(.double (FP.l2d B1.toInt64)), (.double (FP.l2d W1.toInt64)), (.int 1), (.ref b53)])) rfl (by rw [hml]; rfl) (argsL := [(.int 1), (.double (FP.l2d W1.toInt64)), (.double (FP.l2d B1.toInt64))]) (rest := []) rfl (lenOf own_pd4 rfl) rfl (by show 2 * 0 + _ ≤ _; exact Nat.le_of_eq rfl) (hb hby at_69) rfl (by decide) (by decide)
          obtain ⟨rfl, Nq73, Kq73, hq73⟩ := hQ73
          have N73 := Fr.app N69 Nq73
          have Z73 := Nat.le_trans Z69 Kq73.1
          obtain ⟨u74_0, u74_1, u74_2, u74_3, u74_4, u74_5, u74_6, u74_7, u74_8, u74_9, u74_10, u74_11, u74_12, u74_13⟩ := id hq73
          refine own_s T73 (mkF m 72 #[iv p1, iv p2, iv p3, iv p4, iv W0, iv W1, iv B0, iv B1, rv b53, u_, u_, u_, u_, u_, u_, u_, u_, u_, u_] []) st73 ?_
          refine own_s T73 (mkF m 84 #[iv p1, iv p2, iv p3, iv p4, iv W0, iv W1, iv B0, iv B1, rv b53, u_, u_, u_, u_, u_, u_, u_, u_, u_, u_] [(.int B1), (.int 1)]) (fun _ k => XS.iload X73.here hx rfl (hb hby at_72) rfl  (XS.ifNo X73.here hx rfl (hb hby at_74) rfl ((if0 _ _).trans (tlt hb0).2.2.2) (XS.iconst X73.here hx rfl (hb hby at_77) (XS.goto X73.here hx rfl (pc0 := 78) (pc' := 82) rfl (hb hby at_78) (by decide) (by decide) (XS.iload X73.here hx rfl (hb hby at_82) rfl  k))))) ?_
          refine own_s T73 (mkF m 95 #[iv p1, iv p2, iv p3, iv p4, iv W0, iv W1, iv B0, iv B1, rv b53, iv 2, u_, u_, u_, u_, u_, u_, u_, u_, u_] []) (fun _ k => XS.ifNo X73.here hx rfl (hb hby at_84) rfl ((if0 _ _).trans (tlt hb1).2.2.2) (XS.iconst X73.here hx rfl (hb hby at_87) (XS.goto X73.here hx rfl (pc0 := 88) (pc' := 92) rfl (hb hby at_88) (by decide) (by decide) (XS.iadd X73.here hx rfl (hb hby at_92) rfl (XS.istore X73.here hx rfl (hb hby at_93) rfl (l' := #[iv p1, iv p2, iv p3, iv p4, iv W0, iv W1, iv B0, iv B1, rv b53, iv 2, u_, u_, u_, u_, u_, u_, u_, u_, u_]) rfl k))))) ?_
          refine own_s T73 (mkF m 97 #[iv p1, iv p2, iv p3, iv p4, iv W0, iv W1, iv B0, iv B1, rv b53, iv 2, u_, u_, u_, u_, u_, u_, u_, u_, u_] [(.ref b53)]) (fun _ k => XS.aload X73.here hx rfl (hb hby at_95) rfl rfl k) ?_
          obtain ⟨v75, T75, L75, X75, hQ75, st75⟩ := own_callV X73 hx hZ (y := own_y7) (z := own_y7) (W := 0) (a := b53) hown (own_h hw 45 rfl) (own_h hw 46 rfl) (notFace_of_selects (args := #[]) (mvT hZ (own_h hw 48 rfl))) (own_h hw 48 rfl) (own_h hw 47 rfl) (own_h hw 2 rfl) (own_h hw 49 rfl) (by decide) (own_rmdc0 l Z a0 hw [] b53 wA63 bA63 sA63 hA63 kw63 kb63 ks63 kh63 p1 W0.toInt64 W1.toInt64 B0.toInt64 B1.toInt64 (((0 : Int64) + (1 : Int64)) - (1 : Int64)) (((0 : Int64) + (1 : Int64)) - (1 : Int64)) (1 : Int32) ((0 : Int64) + (1 : Int64)) (0 : Int32) (-1 : Int32) (2 : Int32) T73.heap n0 Z73 ⟨u74_0, u74_1, u74_2, u74_3, u74_4, u74_5, u74_6, u74_7, u74_8, u74_9, u74_10, u74_11, u74_12, u74_13⟩) (by decide) (by decide) u74_0 (g := (mkF m 97 #[iv p1, iv p2, iv p3, iv p4, iv W0, iv W1, iv B0, iv B1, rv b53, iv 2, u_, u_, u_, u_, u_, u_, u_, u_, u_] [(.ref b53)])) rfl (by rw [hml]; rfl) (argsL := []) (rest := []) rfl (lenOf own_pd5 rfl) rfl (by show 2 * 0 + _ ≤ _; exact Nat.le_of_eq rfl) (hb hby at_97) rfl (by decide) (by decide)
          obtain ⟨rfl, Nq75, e75⟩ := hQ75
          have N75 := Fr.app N73 Nq75
          refine own_s T75 (mkF m 100 #[iv p1, iv p2, iv p3, iv p4, iv W0, iv W1, iv B0, iv B1, rv b53, iv 2, u_, u_, u_, u_, u_, u_, u_, u_, u_] [(.int (own_b (own_dc (2 : Int32) (((0 : Int64) + (1 : Int64)) - (1 : Int64)) ((0 : Int64) + (1 : Int64)) (0 : Int32) p1 (-1 : Int32))))]) st75 ?_
          refine own_s T75 (mkF m 114 #[iv p1, iv p2, iv p3, iv p4, iv W0, iv W1, iv B0, iv B1, rv b53, iv 2, u_, u_, u_, u_, u_, u_, u_, u_, u_] [(.int 1)]) (fun _ k => XS.iload X75.here hx rfl (hb hby at_100) rfl  (XS.ifYes X75.here hx rfl (pc0 := 102) (pc' := 109) rfl (hb hby at_102) rfl ((if0 _ _).trans (feq (by decide : ¬ ((2 : Int32) = (0 : Int32)))).2) (by decide) (by decide) (XS.iconst X75.here hx rfl (hb hby at_109) (XS.icmpNo X75.here hx rfl (hb hby at_110) rfl (teq (by simp +decide [own_dc, own_b])).2 (XS.iconst X75.here hx rfl (hb hby at_113) k))))) ?_
          refine own_s T75 (mkF m 126 #[iv p1, iv p2, iv p3, iv p4, iv W0, iv W1, iv B0, iv B1, rv b53, iv 2, iv 1, iv 2, u_, u_, u_, u_, u_, u_, u_] [(.int 2)]) (fun _ k => XS.goto X75.here hx rfl (pc0 := 114) (pc' := 118) rfl (hb hby at_114) (by decide) (by decide) (XS.istore X75.here hx rfl (hb hby at_118) rfl (l' := #[iv p1, iv p2, iv p3, iv p4, iv W0, iv W1, iv B0, iv B1, rv b53, iv 2, iv 1, u_, u_, u_, u_, u_, u_, u_, u_]) rfl (XS.iload X75.here hx rfl (hb hby at_120) rfl  (XS.istore X75.here hx rfl (hb hby at_122) rfl (l' := #[iv p1, iv p2, iv p3, iv p4, iv W0, iv W1, iv B0, iv B1, rv b53, iv 2, iv 1, iv 2, u_, u_, u_, u_, u_, u_, u_]) rfl (XS.iload X75.here hx rfl (hb hby at_124) rfl  k))))) ?_
          refine own_s T75 (mkF m 139 #[iv p1, iv p2, iv p3, iv p4, iv W0, iv W1, iv B0, iv B1, rv b53, iv 2, iv 1, iv 2, u_, u_, u_, u_, u_, u_, u_] []) (fun _ k => XS.ifNo X75.here hx rfl (hb hby at_126) rfl ((if0 _ _).trans (tlt (by decide : ((0 : Int32) < (2 : Int32)))).2.2.2) (XS.iload X75.here hx rfl (hb hby at_129) rfl  (XS.ifNo X75.here hx rfl (hb hby at_131) rfl ((if0 _ _).trans (tlt hb0).2.2.2) (XS.iload X75.here hx rfl (hb hby at_134) rfl  (XS.ifNo X75.here hx rfl (hb hby at_136) rfl ((if0 _ _).trans (tlt hb1).2.2.2) k))))) ?_
          refine own_s T75 (mkF m 147 #[iv p1, iv p2, iv p3, iv p4, iv W0, iv W1, iv B0, iv B1, rv b53, iv 2, iv 1, iv 2, u_, u_, u_, u_, u_, u_, u_] [(.int W1), (.int B1), (.int W0), (.int B0)]) (fun _ k => XS.iload X75.here hx rfl (hb hby at_139) rfl  (XS.iload X75.here hx rfl (hb hby at_141) rfl  (XS.iload X75.here hx rfl (hb hby at_143) rfl  (XS.iload X75.here hx rfl (hb hby at_145) rfl  k)))) ?_
          obtain ⟨v76, T76, L76, X76, hQ76, st76⟩ := own_callS X75 hx hZ (y := own_y9) (W := 0) hown (own_h hw 72 rfl) (own_h hw 73 rfl) (own_h hw 74 rfl) (own_h hw 75 rfl) (by decide) (own_rmzl l Z a0 hw [] B0 W0 B1 W1 T73.heap n0 Z73) (by decide) (by decide) (g := (mkF m 147 #[iv p1, iv p2, iv p3, iv p4, iv W0, iv W1, iv B0, iv B1, rv b53, iv 2, iv 1, iv 2, u_, u_, u_, u_, u_, u_, u_] [(.int W1), (.int B1), (.int W0), (.int B0)])) rfl (by rw [hml]; rfl) (argsL := [(.int B0), (.int W0), (.int B1), (.int W1)]) (rest := []) rfl (lenOf own_pd6 rfl) rfl (by show 2 * 0 + _ ≤ _; exact Nat.le_of_eq rfl) (hb hby at_147) e75 (by decide) (by decide)
          obtain ⟨rfl, Nq76, e76⟩ := hQ76
          have N76 := Fr.app N75 Nq76
          refine own_s T76 (mkF m 150 #[iv p1, iv p2, iv p3, iv p4, iv W0, iv W1, iv B0, iv B1, rv b53, iv 2, iv 1, iv 2, u_, u_, u_, u_, u_, u_, u_] [(.int (own_b (!decide (B0 * W1 < B1 * W0))))]) st76 ?_
          refine own_s T76 (mkF m 175 #[iv p1, iv p2, iv p3, iv p4, iv W0, iv W1, iv B0, iv B1, rv b53, iv 2, iv 1, iv 2, iv 0, u_, u_, u_, u_, u_, u_] []) (fun _ k => XS.ifNo X76.here hx rfl (hb hby at_150) rfl ((if0 _ _).trans (feq (own_b1 (by simp [hz]))).1) (XS.iconst X76.here hx rfl (hb hby at_153) (XS.goto X76.here hx rfl (pc0 := 154) (pc' := 158) rfl (hb hby at_154) (by decide) (by decide) (XS.istore X76.here hx rfl (hb hby at_158) rfl (l' := #[iv p1, iv p2, iv p3, iv p4, iv W0, iv W1, iv B0, iv B1, rv b53, iv 2, iv 1, iv 2, iv 0, u_, u_, u_, u_, u_, u_]) rfl (XS.goto X76.here hx rfl (pc0 := 160) (pc' := 175) rfl (hb hby at_160) (by decide) (by decide) k))))) ?_
          refine own_s T76 (mkF m 189 #[iv p1, iv p2, iv p3, iv p4, iv W0, iv W1, iv B0, iv B1, rv b53, iv 2, iv 1, iv 2, iv 0, iv B0, u_, u_, u_, u_, u_] []) (fun _ k => XS.iload X76.here hx rfl (hb hby at_175) rfl  (XS.ifNo X76.here hx rfl (hb hby at_177) rfl ((if0 _ _).trans (teq (by decide : ((0 : Int32) = (0 : Int32)))).2) (XS.iload X76.here hx rfl (hb hby at_180) rfl  (XS.goto X76.here hx rfl (pc0 := 182) (pc' := 187) rfl (hb hby at_182) (by decide) (by decide) (XS.istore X76.here hx rfl (hb hby at_187) rfl (l' := #[iv p1, iv p2, iv p3, iv p4, iv W0, iv W1, iv B0, iv B1, rv b53, iv 2, iv 1, iv 2, iv 0, iv B0, u_, u_, u_, u_, u_]) rfl k))))) ?_
          refine own_s T76 (mkF m 195 #[iv p1, iv p2, iv p3, iv p4, iv W0, iv W1, iv B0, iv B1, rv b53, iv 2, iv 1, iv 2, iv 0, iv B0, u_, u_, u_, u_, u_] [(.int ((p4 &&& (7 : Int32)) - (2 : Int32)))]) (fun _ k => XS.iloadN X76.here hx rfl (hb hby at_189) rfl  (XS.bipush X76.here hx rfl (hb hby at_190) (XS.iand X76.here hx rfl (hb hby at_192) rfl (XS.iconst X76.here hx rfl (hb hby at_193) (XS.isub X76.here hx rfl (hb hby at_194) rfl k))))) ?_
          refine own_s T76 (mkF m 197 #[iv p1, iv p2, iv p3, iv p4, iv W0, iv W1, iv B0, iv B1, rv b53, iv 2, iv 1, iv 2, iv 0, iv B0, u_, u_, u_, u_, u_] [(.int B0), (.int ((p4 &&& (7 : Int32)) - (2 : Int32)))]) (fun _ k => XS.iload X76.here hx rfl (hb hby at_195) rfl  k) ?_
          obtain ⟨v77, T77, L77, X77, hQ77, st77⟩ := own_callS X76 hx hZ (y := own_y10) (W := 0) hown (own_h hw 55 rfl) (own_h hw 56 rfl) (own_h hw 57 rfl) (own_h hw 58 rfl) (by decide) (own_rmmn l Z a0 hw [] ((p4 &&& (7 : Int32)) - (2 : Int32)) B0 T73.heap n0 Z73) (by decide) (by decide) (g := (mkF m 197 #[iv p1, iv p2, iv p3, iv p4, iv W0, iv W1, iv B0, iv B1, rv b53, iv 2, iv 1, iv 2, iv 0, iv B0, u_, u_, u_, u_, u_] [(.int B0), (.int ((p4 &&& (7 : Int32)) - (2 : Int32)))])) rfl (by rw [hml]; rfl) (argsL := [(.int ((p4 &&& (7 : Int32)) - (2 : Int32))), (.int B0)]) (rest := []) rfl (lenOf own_pd7 rfl) rfl (by show 2 * 0 + _ ≤ _; exact Nat.le_of_eq rfl) (hb hby at_197) e76 (by decide) (by decide)
          obtain ⟨rfl, Nq77, e77⟩ := hQ77
          have N77 := Fr.app N76 Nq77
          refine own_s T77 (mkF m 200 #[iv p1, iv p2, iv p3, iv p4, iv W0, iv W1, iv B0, iv B1, rv b53, iv 2, iv 1, iv 2, iv 0, iv B0, u_, u_, u_, u_, u_] [(.int (own_mn ((p4 &&& (7 : Int32)) - (2 : Int32)) B0))]) st77 ?_
          refine own_s T77 (mkF m 202 #[iv p1, iv p2, iv p3, iv p4, iv W0, iv W1, iv B0, iv B1, rv b53, iv 2, iv 1, iv 2, iv 0, iv B0, iv (own_mn ((p4 &&& (7 : Int32)) - (2 : Int32)) B0), u_, u_, u_, u_] []) (fun _ k => XS.istore X77.here hx rfl (hb hby at_200) rfl (l' := #[iv p1, iv p2, iv p3, iv p4, iv W0, iv W1, iv B0, iv B1, rv b53, iv 2, iv 1, iv 2, iv 0, iv B0, iv (own_mn ((p4 &&& (7 : Int32)) - (2 : Int32)) B0), u_, u_, u_, u_]) rfl k) ?_
          obtain ⟨CC, eCC, hCC⟩ : ∃ z, z = (own_mn ((p4 &&& (7 : Int32)) - (2 : Int32)) B0) ∧ own_rg (-8) 8 z := ⟨_, rfl, own_mnR hB0⟩
          rw [← eCC]
          by_cases hc : (0 : Int32) < CC
          · have kk_hc := hc
            by_cases hy : CC * W1 < B1 * W0
            · have kk_hy := hy
              refine own_s T77 (mkF m 206 #[iv p1, iv p2, iv p3, iv p4, iv W0, iv W1, iv B0, iv B1, rv b53, iv 2, iv 1, iv 2, iv 0, iv B0, iv CC, u_, u_, u_, u_] [(.int CC), (.ref b53)]) (fun _ k => XS.aload X77.here hx rfl (hb hby at_202) rfl rfl (XS.iload X77.here hx rfl (hb hby at_204) rfl  k)) ?_
              have mg78 := (own_m8 hCC)
              refine own_s T77 (mkF m 207 #[iv p1, iv p2, iv p3, iv p4, iv W0, iv W1, iv B0, iv B1, rv b53, iv 2, iv 1, iv 2, iv 0, iv B0, iv CC, u_, u_, u_, u_] [(.double (FP.l2d CC.toInt64)), (.ref b53)]) (fun _ k => XS.i2dS X77.here hx rfl (hb hby at_206) rfl (i2d_w _) k) ?_
              obtain ⟨v79, T79, L79, X79, hQ79, st79⟩ := own_callV X77 hx hZ (y := own_y6) (z := own_y6) (W := 0) (a := b53) hown (own_h hw 59 rfl) (own_h hw 60 rfl) (notFace_of_selects (args := #[]) (mvT hZ (own_h hw 62 rfl))) (own_h hw 62 rfl) (own_h hw 61 rfl) (own_h hw 2 rfl) (own_h hw 63 rfl) (by decide) (own_rmre02PT l Z a0 hw [] b53 wA63 bA63 sA63 hA63 kw63 kb63 ks63 kh63 p1 W0.toInt64 W1.toInt64 B0.toInt64 B1.toInt64 (((0 : Int64) + (1 : Int64)) - (1 : Int64)) (((0 : Int64) + (1 : Int64)) - (1 : Int64)) ((0 : Int64) + (1 : Int64)) (0 : Int32) CC.toInt64 T73.heap n0 Z73 ⟨u74_0, u74_1, u74_2, u74_3, u74_4, u74_5, u74_6, u74_7, u74_8, u74_9, u74_10, u74_11, u74_12, u74_13⟩ hNE hGE mg67 mg71 mg68 mg72 mg78 (own_p64 hc) (own_p64 hb1) (own_w64 hW0) (own_w64 hW1) (own_k0T hW0 hW1 hCC hB1 hy)) (by decide) (by decide) u74_0 (g := (mkF m 207 #[iv p1, iv p2, iv p3, iv p4, iv W0, iv W1, iv B0, iv B1, rv b53, iv 2, iv 1, iv 2, iv 0, iv B0, iv CC, u_, u_, u_, u_] [(.double (FP.l2d CC.toInt64)), (.ref b53)])) rfl (by rw [hml]; rfl) (argsL := [(.double (FP.l2d CC.toInt64))]) (rest := []) rfl (lenOf own_pd8 rfl) rfl (by show 2 * 0 + _ ≤ _; exact Nat.le_of_eq rfl) (hb hby at_207) e77 (by decide) (by decide)
              obtain ⟨rfl, Nq79, Kq79, hq79⟩ := hQ79
              have N79 := Fr.app N77 Nq79
              have Z79 := Nat.le_trans Z73 Kq79.1
              obtain ⟨u80_0, u80_1, u80_2, u80_3, u80_4, u80_5, u80_6, u80_7, u80_8, u80_9, u80_10, u80_11, u80_12, u80_13⟩ := id hq79
              refine own_s T79 (mkF m 210 #[iv p1, iv p2, iv p3, iv p4, iv W0, iv W1, iv B0, iv B1, rv b53, iv 2, iv 1, iv 2, iv 0, iv B0, iv CC, u_, u_, u_, u_] []) st79 ?_
              refine own_s T79 (mkF m 227 #[iv p1, iv p2, iv p3, iv p4, iv W0, iv W1, iv B0, iv B1, rv b53, iv 2, iv 1, iv 2, iv 0, iv B0, iv CC, u_, u_, u_, u_] []) (fun _ k => XS.iload X79.here hx rfl (hb hby at_210) rfl  (XS.ifNo X79.here hx rfl (hb hby at_212) rfl ((if0 _ _).trans (tlt hc).2.2.2) (XS.iload X79.here hx rfl (hb hby at_215) rfl  (XS.iconst X79.here hx rfl (hb hby at_217) (XS.icmpYes X79.here hx rfl (pc0 := 218) (pc' := 227) rfl (hb hby at_218) rfl (feq (by decide : ¬ ((2 : Int32) = (1 : Int32)))).2 (by decide) (by decide) k))))) ?_
              refine own_s T79 (mkF m 241 #[iv p1, iv p2, iv p3, iv p4, iv W0, iv W1, iv B0, iv B1, rv b53, iv 2, iv 1, iv 2, iv 0, iv B0, iv CC, u_, iv CC, u_, u_] []) (fun _ k => XS.iload X79.here hx rfl (hb hby at_227) rfl  (XS.ifNo X79.here hx rfl (hb hby at_229) rfl ((if0 _ _).trans (teq (by decide : ((0 : Int32) = (0 : Int32)))).2) (XS.iload X79.here hx rfl (hb hby at_232) rfl  (XS.goto X79.here hx rfl (pc0 := 234) (pc' := 239) rfl (hb hby at_234) (by decide) (by decide) (XS.istore X79.here hx rfl (hb hby at_239) rfl (l' := #[iv p1, iv p2, iv p3, iv p4, iv W0, iv W1, iv B0, iv B1, rv b53, iv 2, iv 1, iv 2, iv 0, iv B0, iv CC, u_, iv CC, u_, u_]) rfl k))))) ?_
              refine own_s T79 (mkF m 256 #[iv p1, iv p2, iv p3, iv p4, iv W0, iv W1, iv B0, iv B1, rv b53, iv 2, iv 1, iv 2, iv 0, iv B0, iv CC, u_, iv CC, iv B1, u_] []) (fun _ k => XS.iload X79.here hx rfl (hb hby at_241) rfl  (XS.iconst X79.here hx rfl (hb hby at_243) (XS.icmpYes X79.here hx rfl (pc0 := 244) (pc' := 252) rfl (hb hby at_244) rfl (feq (by decide : ¬ ((0 : Int32) = (1 : Int32)))).2 (by decide) (by decide) (XS.iload X79.here hx rfl (hb hby at_252) rfl  (XS.istore X79.here hx rfl (hb hby at_254) rfl (l' := #[iv p1, iv p2, iv p3, iv p4, iv W0, iv W1, iv B0, iv B1, rv b53, iv 2, iv 1, iv 2, iv 0, iv B0, iv CC, u_, iv CC, iv B1, u_]) rfl k))))) ?_
              refine own_s T79 (mkF m 264 #[iv p1, iv p2, iv p3, iv p4, iv W0, iv W1, iv B0, iv B1, rv b53, iv 2, iv 1, iv 2, iv 0, iv B0, iv CC, u_, iv CC, iv B1, u_] [(.int W1), (.int B1), (.int W0), (.int CC)]) (fun _ k => XS.iload X79.here hx rfl (hb hby at_256) rfl  (XS.iload X79.here hx rfl (hb hby at_258) rfl  (XS.iload X79.here hx rfl (hb hby at_260) rfl  (XS.iload X79.here hx rfl (hb hby at_262) rfl  k)))) ?_
              obtain ⟨v81, T81, L81, X81, hQ81, st81⟩ := own_callS X79 hx hZ (y := own_y9) (W := 0) hown (own_h hw 72 rfl) (own_h hw 73 rfl) (own_h hw 74 rfl) (own_h hw 75 rfl) (by decide) (own_rmzl l Z a0 hw [] CC W0 B1 W1 T79.heap n0 Z79) (by decide) (by decide) (g := (mkF m 264 #[iv p1, iv p2, iv p3, iv p4, iv W0, iv W1, iv B0, iv B1, rv b53, iv 2, iv 1, iv 2, iv 0, iv B0, iv CC, u_, iv CC, iv B1, u_] [(.int W1), (.int B1), (.int W0), (.int CC)])) rfl (by rw [hml]; rfl) (argsL := [(.int CC), (.int W0), (.int B1), (.int W1)]) (rest := []) rfl (lenOf own_pd6 rfl) rfl (by show 2 * 0 + _ ≤ _; exact Nat.le_of_eq rfl) (hb hby at_264) rfl (by decide) (by decide)
              obtain ⟨rfl, Nq81, e81⟩ := hQ81
              have N81 := Fr.app N79 Nq81
              refine own_s T81 (mkF m 267 #[iv p1, iv p2, iv p3, iv p4, iv W0, iv W1, iv B0, iv B1, rv b53, iv 2, iv 1, iv 2, iv 0, iv B0, iv CC, u_, iv CC, iv B1, u_] [(.int (own_b (!decide (CC * W1 < B1 * W0))))]) st81 ?_
              refine own_s T81 (mkF m 281 #[iv p1, iv p2, iv p3, iv p4, iv W0, iv W1, iv B0, iv B1, rv b53, iv 2, iv 1, iv 2, iv 0, iv B0, iv CC, u_, iv CC, iv B1, iv 1] [(.int 0), (.int 1)]) (fun _ k => XS.ifYes X81.here hx rfl (pc0 := 267) (pc' := 274) rfl (hb hby at_267) rfl ((if0 _ _).trans (teq (own_b0 (by simp [hy]))).1) (by decide) (by decide) (XS.iconst X81.here hx rfl (hb hby at_274) (XS.istore X81.here hx rfl (hb hby at_275) rfl (l' := #[iv p1, iv p2, iv p3, iv p4, iv W0, iv W1, iv B0, iv B1, rv b53, iv 2, iv 1, iv 2, iv 0, iv B0, iv CC, u_, iv CC, iv B1, iv 1]) rfl (XS.iload X81.here hx rfl (hb hby at_277) rfl  (XS.iload X81.here hx rfl (hb hby at_279) rfl  k))))) ?_
              refine own_s T81 (mkF m 286 #[iv p1, iv p2, iv p3, iv p4, iv W0, iv W1, iv B0, iv B1, rv b53, iv 2, iv 1, iv 2, iv 0, iv B0, iv CC, u_, iv CC, iv B1, iv 1] [(.int 1), (.int p1)]) (fun _ k => XS.icmpNo X81.here hx rfl (hb hby at_281) rfl (feq (by decide : ¬ ((1 : Int32) = (0 : Int32)))).1 (XS.iloadN X81.here hx rfl (hb hby at_284) rfl  (XS.iconst X81.here hx rfl (hb hby at_285) k))) ?_
              by_cases c286 : (1 : Int32) < p1
              · refine own_s T81 (mkF m 319 #[iv p1, iv p2, iv p3, iv p4, iv W0, iv W1, iv B0, iv B1, rv b53, iv 2, iv 1, iv 2, iv 0, iv B0, iv CC, iv 0, iv CC, iv B1, iv 1] [(.int 1)]) (fun _ k => XS.icmpYes X81.here hx rfl (pc0 := 286) (pc' := 293) rfl (hb hby at_286) rfl (tlt c286).2.2.1 (by decide) (by decide) (XS.iconst X81.here hx rfl (hb hby at_293) (XS.istore X81.here hx rfl (hb hby at_294) rfl (l' := #[iv p1, iv p2, iv p3, iv p4, iv W0, iv W1, iv B0, iv B1, rv b53, iv 2, iv 1, iv 2, iv 0, iv B0, iv CC, iv 0, iv CC, iv B1, iv 1]) rfl (XS.goto X81.here hx rfl (pc0 := 296) (pc' := 317) rfl (hb hby at_296) (by decide) (by decide) (XS.iload X81.here hx rfl (hb hby at_317) rfl  k))))) ?_
                refine own_s T81 (mkF m 324 #[iv p1, iv p2, iv p3, iv p4, iv W0, iv W1, iv B0, iv B1, rv b53, iv 2, iv 1, iv 2, iv 0, iv B0, iv CC, iv 0, iv CC, iv B1, iv 1] [(.ref b53)]) (fun _ k => XS.ifNo X81.here hx rfl (hb hby at_319) rfl ((if0 _ _).trans (feq (by decide : ¬ ((1 : Int32) = (0 : Int32)))).1) (XS.aload X81.here hx rfl (hb hby at_322) rfl rfl k)) ?_
                obtain ⟨v82, T82, L82, X82, hQ82, st82⟩ := own_callV X81 hx hZ (y := own_y7) (z := own_y7) (W := 0) (a := b53) hown (own_h hw 45 rfl) (own_h hw 46 rfl) (notFace_of_selects (args := #[]) (mvT hZ (own_h hw 48 rfl))) (own_h hw 48 rfl) (own_h hw 47 rfl) (own_h hw 2 rfl) (own_h hw 49 rfl) (by decide) (own_rmdc1 l Z a0 hw [] b53 wA63 bA63 sA63 hA63 kw63 kb63 ks63 kh63 p1 W0.toInt64 W1.toInt64 CC.toInt64 B1.toInt64 ((0 : Int64) + (1 : Int64)) (((0 : Int64) + (1 : Int64)) - (1 : Int64)) (0 : Int32) ((0 : Int64) + (1 : Int64)) ((0 : Int32) + (1 : Int32)) (0 : Int32) (2 : Int32) T79.heap n0 Z79 ⟨u80_0, u80_1, u80_2, u80_3, u80_4, u80_5, u80_6, u80_7, u80_8, u80_9, u80_10, u80_11, u80_12, u80_13⟩) (by decide) (by decide) u80_0 (g := (mkF m 324 #[iv p1, iv p2, iv p3, iv p4, iv W0, iv W1, iv B0, iv B1, rv b53, iv 2, iv 1, iv 2, iv 0, iv B0, iv CC, iv 0, iv CC, iv B1, iv 1] [(.ref b53)])) rfl (by rw [hml]; rfl) (argsL := []) (rest := []) rfl (lenOf own_pd5 rfl) rfl (by show 2 * 0 + _ ≤ _; exact Nat.le_of_eq rfl) (hb hby at_324) e81 (by decide) (by decide)
                obtain ⟨rfl, Nq82, e82⟩ := hQ82
                have N82 := Fr.app N81 Nq82
                refine own_s T82 (mkF m 327 #[iv p1, iv p2, iv p3, iv p4, iv W0, iv W1, iv B0, iv B1, rv b53, iv 2, iv 1, iv 2, iv 0, iv B0, iv CC, iv 0, iv CC, iv B1, iv 1] [(.int (own_b (own_dc (2 : Int32) (((0 : Int64) + (1 : Int64)) - (1 : Int64)) ((0 : Int64) + (1 : Int64)) ((0 : Int32) + (1 : Int32)) p1 (0 : Int32))))]) st82 ?_
                refine own_s T82 (mkF m 339 #[iv p1, iv p2, iv p3, iv p4, iv W0, iv W1, iv B0, iv B1, rv b53, iv 2, iv 1, iv 2, iv 0, iv B0, iv CC, iv 0, iv CC, iv B1, iv 1] []) (fun _ k => XS.iload X82.here hx rfl (hb hby at_327) rfl  (XS.icmpNo X82.here hx rfl (hb hby at_329) rfl (teq (by simp +decide [own_dc, own_b, c286])).2 (XS.iconst X82.here hx rfl (hb hby at_332) (XS.goto X82.here hx rfl (pc0 := 333) (pc' := 337) rfl (hb hby at_333) (by decide) (by decide) (XS.istore X82.here hx rfl (hb hby at_337) rfl (l' := #[iv p1, iv p2, iv p3, iv p4, iv W0, iv W1, iv B0, iv B1, rv b53, iv 2, iv 1, iv 2, iv 0, iv B0, iv CC, iv 0, iv CC, iv B1, iv 1]) rfl k))))) ?_
                refine own_s T82 (mkF m 341 #[iv p1, iv p2, iv p3, iv p4, iv W0, iv W1, iv B0, iv B1, rv b53, iv 2, iv 1, iv 2, iv 0, iv B0, iv CC, iv 0, iv CC, iv B1, iv 1] [(.ref b53)]) (fun _ k => XS.aload X82.here hx rfl (hb hby at_339) rfl rfl k) ?_
                obtain ⟨v83, T83, L83, X83, hQ83, st83⟩ := own_callV X82 hx hZ (y := own_y3) (z := own_y3) (W := 0) (a := b53) hown (own_h hw 50 rfl) (own_h hw 28 rfl) (notFace_of_selects (args := #[]) (mvT hZ (own_h hw 30 rfl))) (own_h hw 30 rfl) (own_h hw 29 rfl) (own_h hw 2 rfl) (own_h hw 31 rfl) (by decide) (own_rmfo l Z a0 hw [] b53 wA63 bA63 sA63 hA63 kw63 kb63 ks63 kh63 p1 W0.toInt64 W1.toInt64 CC.toInt64 B1.toInt64 ((0 : Int64) + (1 : Int64)) (((0 : Int64) + (1 : Int64)) - (1 : Int64)) (1 : Int32) (0 : Int32) ((0 : Int64) + (1 : Int64)) ((0 : Int32) + (1 : Int32)) (0 : Int32) (2 : Int32) T79.heap n0 Z79 ⟨u80_0, u80_1, u80_2, u80_3, u80_4, u80_5, u80_6, u80_7, u80_8, u80_9, u80_10, u80_11, u80_12, u80_13⟩ hNE hGE mg67 mg71 mg78 mg72) (by decide) (by decide) u80_0 (g := (mkF m 341 #[iv p1, iv p2, iv p3, iv p4, iv W0, iv W1, iv B0, iv B1, rv b53, iv 2, iv 1, iv 2, iv 0, iv B0, iv CC, iv 0, iv CC, iv B1, iv 1] [(.ref b53)])) rfl (by rw [hml]; rfl) (argsL := []) (rest := []) rfl (lenOf own_pd1 rfl) rfl (by show 2 * 0 + _ ≤ _; exact Nat.le_of_eq rfl) (hb hby at_341) e82 (by decide) (by decide)
                obtain ⟨rfl, Nq83, Kq83, hq83⟩ := hQ83
                have N83 := Fr.app N82 Nq83
                have Z83 := Nat.le_trans Z79 Kq83.1
                obtain ⟨u84_0, u84_1, u84_2, u84_3, u84_4, u84_5, u84_6, u84_7, u84_8, u84_9, u84_10, u84_11, u84_12, u84_13⟩ := id hq83
                refine own_s T83 (mkF m 344 #[iv p1, iv p2, iv p3, iv p4, iv W0, iv W1, iv B0, iv B1, rv b53, iv 2, iv 1, iv 2, iv 0, iv B0, iv CC, iv 0, iv CC, iv B1, iv 1] []) st83 ?_
                refine own_s T83 (mkF m 351 #[iv p1, iv p2, iv p3, iv p4, iv W0, iv W1, iv B0, iv B1, rv b53, iv 2, iv 1, iv 2, iv 0, iv B0, iv CC, iv 0, iv CC, iv B1, iv 1] [(.ref b53)]) (fun _ k => XS.iload X83.here hx rfl (hb hby at_344) rfl  (XS.ifNo X83.here hx rfl (hb hby at_346) rfl ((if0 _ _).trans (feq (by decide : ¬ ((1 : Int32) = (0 : Int32)))).1) (XS.aload X83.here hx rfl (hb hby at_349) rfl rfl k))) ?_
                obtain ⟨v85, T85, L85, X85, hQ85, st85⟩ := own_callV X83 hx hZ (y := own_y7) (z := own_y7) (W := 0) (a := b53) hown (own_h hw 45 rfl) (own_h hw 46 rfl) (notFace_of_selects (args := #[]) (mvT hZ (own_h hw 48 rfl))) (own_h hw 48 rfl) (own_h hw 47 rfl) (own_h hw 2 rfl) (own_h hw 49 rfl) (by decide) (own_rmdc1 l Z a0 hw [] b53 wA63 bA63 sA63 hA63 kw63 kb63 ks63 kh63 p1 W0.toInt64 W1.toInt64 CC.toInt64 B1.toInt64 ((0 : Int64) + (1 : Int64)) (((0 : Int64) + (1 : Int64)) - (1 : Int64)) (0 : Int32) (((0 : Int64) + (1 : Int64)) + (1 : Int64)) (0 : Int32) (-1 : Int32) (2 : Int32) T83.heap n0 Z83 ⟨u84_0, u84_1, u84_2, u84_3, u84_4, u84_5, u84_6, u84_7, u84_8, u84_9, u84_10, u84_11, u84_12, u84_13⟩) (by decide) (by decide) u84_0 (g := (mkF m 351 #[iv p1, iv p2, iv p3, iv p4, iv W0, iv W1, iv B0, iv B1, rv b53, iv 2, iv 1, iv 2, iv 0, iv B0, iv CC, iv 0, iv CC, iv B1, iv 1] [(.ref b53)])) rfl (by rw [hml]; rfl) (argsL := []) (rest := []) rfl (lenOf own_pd5 rfl) rfl (by show 2 * 0 + _ ≤ _; exact Nat.le_of_eq rfl) (hb hby at_351) rfl (by decide) (by decide)
                obtain ⟨rfl, Nq85, e85⟩ := hQ85
                have N85 := Fr.app N83 Nq85
                refine own_s T85 (mkF m 354 #[iv p1, iv p2, iv p3, iv p4, iv W0, iv W1, iv B0, iv B1, rv b53, iv 2, iv 1, iv 2, iv 0, iv B0, iv CC, iv 0, iv CC, iv B1, iv 1] [(.int (own_b (own_dc (2 : Int32) (((0 : Int64) + (1 : Int64)) - (1 : Int64)) (((0 : Int64) + (1 : Int64)) + (1 : Int64)) (0 : Int32) p1 (-1 : Int32))))]) st85 ?_
                refine own_s T85 (mkF m 368 #[iv p1, iv p2, iv p3, iv p4, iv W0, iv W1, iv B0, iv B1, rv b53, iv 2, iv 1, iv 2, iv 0, iv B0, iv CC, iv 0, iv CC, iv B1, iv 1] [(.int 1)]) (fun _ k => XS.iload X85.here hx rfl (hb hby at_354) rfl  (XS.ifYes X85.here hx rfl (pc0 := 356) (pc' := 363) rfl (hb hby at_356) rfl ((if0 _ _).trans (feq (by decide : ¬ ((2 : Int32) = (0 : Int32)))).2) (by decide) (by decide) (XS.iconst X85.here hx rfl (hb hby at_363) (XS.icmpNo X85.here hx rfl (hb hby at_364) rfl (teq (by simp +decide [own_dc, own_b, c286])).2 (XS.iconst X85.here hx rfl (hb hby at_367) k))))) ?_
                refine own_s T85 (mkF m 372 #[iv p1, iv p2, iv p3, iv p4, iv W0, iv W1, iv B0, iv B1, rv b53, iv 2, iv 1, iv 2, iv 0, iv B0, iv CC, iv 0, iv CC, iv B1, iv 1] [(.int 1)]) (fun _ k => XS.goto X85.here hx rfl (pc0 := 368) (pc' := 372) rfl (hb hby at_368) (by decide) (by decide) k) ?_
                exact own_finZ X85 hx (t := .boolean) hret (by simp) (z' := (1 : Int32)) rfl (hb hby at_372) (own_end (Qv := (own_Q0 Z p1 p2 p3 p4 h0 n0)) X85 (own_some hret) hlk (by decide) (by decide) e85 ⟨rfl, N85⟩)
              · refine own_s T81 (mkF m 317 #[iv p1, iv p2, iv p3, iv p4, iv W0, iv W1, iv B0, iv B1, rv b53, iv 2, iv 1, iv 2, iv 0, iv B0, iv CC, iv 1, iv CC, iv B1, iv 1] []) (fun _ k => XS.icmpNo X81.here hx rfl (hb hby at_286) rfl (flt c286).2.2.1 (XS.iconst X81.here hx rfl (hb hby at_289) (XS.goto X81.here hx rfl (pc0 := 290) (pc' := 294) rfl (hb hby at_290) (by decide) (by decide) (XS.istore X81.here hx rfl (hb hby at_294) rfl (l' := #[iv p1, iv p2, iv p3, iv p4, iv W0, iv W1, iv B0, iv B1, rv b53, iv 2, iv 1, iv 2, iv 0, iv B0, iv CC, iv 1, iv CC, iv B1, iv 1]) rfl (XS.goto X81.here hx rfl (pc0 := 296) (pc' := 317) rfl (hb hby at_296) (by decide) (by decide) k))))) ?_
                refine own_s T81 (mkF m 324 #[iv p1, iv p2, iv p3, iv p4, iv W0, iv W1, iv B0, iv B1, rv b53, iv 2, iv 1, iv 2, iv 0, iv B0, iv CC, iv 1, iv CC, iv B1, iv 1] [(.ref b53)]) (fun _ k => XS.iload X81.here hx rfl (hb hby at_317) rfl  (XS.ifNo X81.here hx rfl (hb hby at_319) rfl ((if0 _ _).trans (feq (by decide : ¬ ((1 : Int32) = (0 : Int32)))).1) (XS.aload X81.here hx rfl (hb hby at_322) rfl rfl k))) ?_
                obtain ⟨v86, T86, L86, X86, hQ86, st86⟩ := own_callV X81 hx hZ (y := own_y7) (z := own_y7) (W := 0) (a := b53) hown (own_h hw 45 rfl) (own_h hw 46 rfl) (notFace_of_selects (args := #[]) (mvT hZ (own_h hw 48 rfl))) (own_h hw 48 rfl) (own_h hw 47 rfl) (own_h hw 2 rfl) (own_h hw 49 rfl) (by decide) (own_rmdc1 l Z a0 hw [] b53 wA63 bA63 sA63 hA63 kw63 kb63 ks63 kh63 p1 W0.toInt64 W1.toInt64 CC.toInt64 B1.toInt64 ((0 : Int64) + (1 : Int64)) (((0 : Int64) + (1 : Int64)) - (1 : Int64)) (0 : Int32) ((0 : Int64) + (1 : Int64)) ((0 : Int32) + (1 : Int32)) (0 : Int32) (2 : Int32) T79.heap n0 Z79 ⟨u80_0, u80_1, u80_2, u80_3, u80_4, u80_5, u80_6, u80_7, u80_8, u80_9, u80_10, u80_11, u80_12, u80_13⟩) (by decide) (by decide) u80_0 (g := (mkF m 324 #[iv p1, iv p2, iv p3, iv p4, iv W0, iv W1, iv B0, iv B1, rv b53, iv 2, iv 1, iv 2, iv 0, iv B0, iv CC, iv 1, iv CC, iv B1, iv 1] [(.ref b53)])) rfl (by rw [hml]; rfl) (argsL := []) (rest := []) rfl (lenOf own_pd5 rfl) rfl (by show 2 * 0 + _ ≤ _; exact Nat.le_of_eq rfl) (hb hby at_324) e81 (by decide) (by decide)
                obtain ⟨rfl, Nq86, e86⟩ := hQ86
                have N86 := Fr.app N81 Nq86
                refine own_s T86 (mkF m 327 #[iv p1, iv p2, iv p3, iv p4, iv W0, iv W1, iv B0, iv B1, rv b53, iv 2, iv 1, iv 2, iv 0, iv B0, iv CC, iv 1, iv CC, iv B1, iv 1] [(.int (own_b (own_dc (2 : Int32) (((0 : Int64) + (1 : Int64)) - (1 : Int64)) ((0 : Int64) + (1 : Int64)) ((0 : Int32) + (1 : Int32)) p1 (0 : Int32))))]) st86 ?_
                refine own_s T86 (mkF m 339 #[iv p1, iv p2, iv p3, iv p4, iv W0, iv W1, iv B0, iv B1, rv b53, iv 2, iv 1, iv 2, iv 0, iv B0, iv CC, iv 1, iv CC, iv B1, iv 1] []) (fun _ k => XS.iload X86.here hx rfl (hb hby at_327) rfl  (XS.icmpNo X86.here hx rfl (hb hby at_329) rfl (teq (by simp +decide [own_dc, own_b, c286])).2 (XS.iconst X86.here hx rfl (hb hby at_332) (XS.goto X86.here hx rfl (pc0 := 333) (pc' := 337) rfl (hb hby at_333) (by decide) (by decide) (XS.istore X86.here hx rfl (hb hby at_337) rfl (l' := #[iv p1, iv p2, iv p3, iv p4, iv W0, iv W1, iv B0, iv B1, rv b53, iv 2, iv 1, iv 2, iv 0, iv B0, iv CC, iv 1, iv CC, iv B1, iv 1]) rfl k))))) ?_
                refine own_s T86 (mkF m 341 #[iv p1, iv p2, iv p3, iv p4, iv W0, iv W1, iv B0, iv B1, rv b53, iv 2, iv 1, iv 2, iv 0, iv B0, iv CC, iv 1, iv CC, iv B1, iv 1] [(.ref b53)]) (fun _ k => XS.aload X86.here hx rfl (hb hby at_339) rfl rfl k) ?_
                obtain ⟨v87, T87, L87, X87, hQ87, st87⟩ := own_callV X86 hx hZ (y := own_y3) (z := own_y3) (W := 0) (a := b53) hown (own_h hw 50 rfl) (own_h hw 28 rfl) (notFace_of_selects (args := #[]) (mvT hZ (own_h hw 30 rfl))) (own_h hw 30 rfl) (own_h hw 29 rfl) (own_h hw 2 rfl) (own_h hw 31 rfl) (by decide) (own_rmfo l Z a0 hw [] b53 wA63 bA63 sA63 hA63 kw63 kb63 ks63 kh63 p1 W0.toInt64 W1.toInt64 CC.toInt64 B1.toInt64 ((0 : Int64) + (1 : Int64)) (((0 : Int64) + (1 : Int64)) - (1 : Int64)) (1 : Int32) (0 : Int32) ((0 : Int64) + (1 : Int64)) ((0 : Int32) + (1 : Int32)) (0 : Int32) (2 : Int32) T79.heap n0 Z79 ⟨u80_0, u80_1, u80_2, u80_3, u80_4, u80_5, u80_6, u80_7, u80_8, u80_9, u80_10, u80_11, u80_12, u80_13⟩ hNE hGE mg67 mg71 mg78 mg72) (by decide) (by decide) u80_0 (g := (mkF m 341 #[iv p1, iv p2, iv p3, iv p4, iv W0, iv W1, iv B0, iv B1, rv b53, iv 2, iv 1, iv 2, iv 0, iv B0, iv CC, iv 1, iv CC, iv B1, iv 1] [(.ref b53)])) rfl (by rw [hml]; rfl) (argsL := []) (rest := []) rfl (lenOf own_pd1 rfl) rfl (by show 2 * 0 + _ ≤ _; exact Nat.le_of_eq rfl) (hb hby at_341) e86 (by decide) (by decide)
                obtain ⟨rfl, Nq87, Kq87, hq87⟩ := hQ87
                have N87 := Fr.app N86 Nq87
                have Z87 := Nat.le_trans Z79 Kq87.1
                obtain ⟨u88_0, u88_1, u88_2, u88_3, u88_4, u88_5, u88_6, u88_7, u88_8, u88_9, u88_10, u88_11, u88_12, u88_13⟩ := id hq87
                refine own_s T87 (mkF m 344 #[iv p1, iv p2, iv p3, iv p4, iv W0, iv W1, iv B0, iv B1, rv b53, iv 2, iv 1, iv 2, iv 0, iv B0, iv CC, iv 1, iv CC, iv B1, iv 1] []) st87 ?_
                refine own_s T87 (mkF m 351 #[iv p1, iv p2, iv p3, iv p4, iv W0, iv W1, iv B0, iv B1, rv b53, iv 2, iv 1, iv 2, iv 0, iv B0, iv CC, iv 1, iv CC, iv B1, iv 1] [(.ref b53)]) (fun _ k => XS.iload X87.here hx rfl (hb hby at_344) rfl  (XS.ifNo X87.here hx rfl (hb hby at_346) rfl ((if0 _ _).trans (feq (by decide : ¬ ((1 : Int32) = (0 : Int32)))).1) (XS.aload X87.here hx rfl (hb hby at_349) rfl rfl k))) ?_
                obtain ⟨v89, T89, L89, X89, hQ89, st89⟩ := own_callV X87 hx hZ (y := own_y7) (z := own_y7) (W := 0) (a := b53) hown (own_h hw 45 rfl) (own_h hw 46 rfl) (notFace_of_selects (args := #[]) (mvT hZ (own_h hw 48 rfl))) (own_h hw 48 rfl) (own_h hw 47 rfl) (own_h hw 2 rfl) (own_h hw 49 rfl) (by decide) (own_rmdc1 l Z a0 hw [] b53 wA63 bA63 sA63 hA63 kw63 kb63 ks63 kh63 p1 W0.toInt64 W1.toInt64 CC.toInt64 B1.toInt64 ((0 : Int64) + (1 : Int64)) (((0 : Int64) + (1 : Int64)) - (1 : Int64)) (0 : Int32) (((0 : Int64) + (1 : Int64)) + (1 : Int64)) (0 : Int32) (-1 : Int32) (2 : Int32) T87.heap n0 Z87 ⟨u88_0, u88_1, u88_2, u88_3, u88_4, u88_5, u88_6, u88_7, u88_8, u88_9, u88_10, u88_11, u88_12, u88_13⟩) (by decide) (by decide) u88_0 (g := (mkF m 351 #[iv p1, iv p2, iv p3, iv p4, iv W0, iv W1, iv B0, iv B1, rv b53, iv 2, iv 1, iv 2, iv 0, iv B0, iv CC, iv 1, iv CC, iv B1, iv 1] [(.ref b53)])) rfl (by rw [hml]; rfl) (argsL := []) (rest := []) rfl (lenOf own_pd5 rfl) rfl (by show 2 * 0 + _ ≤ _; exact Nat.le_of_eq rfl) (hb hby at_351) rfl (by decide) (by decide)
                obtain ⟨rfl, Nq89, e89⟩ := hQ89
                have N89 := Fr.app N87 Nq89
                refine own_s T89 (mkF m 354 #[iv p1, iv p2, iv p3, iv p4, iv W0, iv W1, iv B0, iv B1, rv b53, iv 2, iv 1, iv 2, iv 0, iv B0, iv CC, iv 1, iv CC, iv B1, iv 1] [(.int (own_b (own_dc (2 : Int32) (((0 : Int64) + (1 : Int64)) - (1 : Int64)) (((0 : Int64) + (1 : Int64)) + (1 : Int64)) (0 : Int32) p1 (-1 : Int32))))]) st89 ?_
                refine own_s T89 (mkF m 368 #[iv p1, iv p2, iv p3, iv p4, iv W0, iv W1, iv B0, iv B1, rv b53, iv 2, iv 1, iv 2, iv 0, iv B0, iv CC, iv 1, iv CC, iv B1, iv 1] [(.int 1)]) (fun _ k => XS.iload X89.here hx rfl (hb hby at_354) rfl  (XS.ifYes X89.here hx rfl (pc0 := 356) (pc' := 363) rfl (hb hby at_356) rfl ((if0 _ _).trans (feq (by decide : ¬ ((2 : Int32) = (0 : Int32)))).2) (by decide) (by decide) (XS.iconst X89.here hx rfl (hb hby at_363) (XS.icmpNo X89.here hx rfl (hb hby at_364) rfl (teq (by simp +decide [own_dc, own_b, c286])).2 (XS.iconst X89.here hx rfl (hb hby at_367) k))))) ?_
                refine own_s T89 (mkF m 372 #[iv p1, iv p2, iv p3, iv p4, iv W0, iv W1, iv B0, iv B1, rv b53, iv 2, iv 1, iv 2, iv 0, iv B0, iv CC, iv 1, iv CC, iv B1, iv 1] [(.int 1)]) (fun _ k => XS.goto X89.here hx rfl (pc0 := 368) (pc' := 372) rfl (hb hby at_368) (by decide) (by decide) k) ?_
                exact own_finZ X89 hx (t := .boolean) hret (by simp) (z' := (1 : Int32)) rfl (hb hby at_372) (own_end (Qv := (own_Q0 Z p1 p2 p3 p4 h0 n0)) X89 (own_some hret) hlk (by decide) (by decide) e89 ⟨rfl, N89⟩)
            · have kk_hy := hy
              refine own_s T77 (mkF m 206 #[iv p1, iv p2, iv p3, iv p4, iv W0, iv W1, iv B0, iv B1, rv b53, iv 2, iv 1, iv 2, iv 0, iv B0, iv CC, u_, u_, u_, u_] [(.int CC), (.ref b53)]) (fun _ k => XS.aload X77.here hx rfl (hb hby at_202) rfl rfl (XS.iload X77.here hx rfl (hb hby at_204) rfl  k)) ?_
              have mg90 := (own_m8 hCC)
              refine own_s T77 (mkF m 207 #[iv p1, iv p2, iv p3, iv p4, iv W0, iv W1, iv B0, iv B1, rv b53, iv 2, iv 1, iv 2, iv 0, iv B0, iv CC, u_, u_, u_, u_] [(.double (FP.l2d CC.toInt64)), (.ref b53)]) (fun _ k => XS.i2dS X77.here hx rfl (hb hby at_206) rfl (i2d_w _) k) ?_
              obtain ⟨v91, T91, L91, X91, hQ91, st91⟩ := own_callV X77 hx hZ (y := own_y6) (z := own_y6) (W := 0) (a := b53) hown (own_h hw 59 rfl) (own_h hw 60 rfl) (notFace_of_selects (args := #[]) (mvT hZ (own_h hw 62 rfl))) (own_h hw 62 rfl) (own_h hw 61 rfl) (own_h hw 2 rfl) (own_h hw 63 rfl) (by decide) (own_rmre02PF l Z a0 hw [] b53 wA63 bA63 sA63 hA63 kw63 kb63 ks63 kh63 p1 W0.toInt64 W1.toInt64 B0.toInt64 B1.toInt64 (((0 : Int64) + (1 : Int64)) - (1 : Int64)) (((0 : Int64) + (1 : Int64)) - (1 : Int64)) ((0 : Int64) + (1 : Int64)) (0 : Int32) CC.toInt64 T73.heap n0 Z73 ⟨u74_0, u74_1, u74_2, u74_3, u74_4, u74_5, u74_6, u74_7, u74_8, u74_9, u74_10, u74_11, u74_12, u74_13⟩ hNE hGE mg67 mg71 mg68 mg72 mg90 (own_p64 hc) (own_p64 hb1) (own_w64 hW0) (own_w64 hW1) (own_k0F hW0 hW1 hCC hB1 hy)) (by decide) (by decide) u74_0 (g := (mkF m 207 #[iv p1, iv p2, iv p3, iv p4, iv W0, iv W1, iv B0, iv B1, rv b53, iv 2, iv 1, iv 2, iv 0, iv B0, iv CC, u_, u_, u_, u_] [(.double (FP.l2d CC.toInt64)), (.ref b53)])) rfl (by rw [hml]; rfl) (argsL := [(.double (FP.l2d CC.toInt64))]) (rest := []) rfl (lenOf own_pd8 rfl) rfl (by show 2 * 0 + _ ≤ _; exact Nat.le_of_eq rfl) (hb hby at_207) e77 (by decide) (by decide)
              obtain ⟨rfl, Nq91, Kq91, hq91⟩ := hQ91
              have N91 := Fr.app N77 Nq91
              have Z91 := Nat.le_trans Z73 Kq91.1
              obtain ⟨u92_0, u92_1, u92_2, u92_3, u92_4, u92_5, u92_6, u92_7, u92_8, u92_9, u92_10, u92_11, u92_12, u92_13⟩ := id hq91
              refine own_s T91 (mkF m 210 #[iv p1, iv p2, iv p3, iv p4, iv W0, iv W1, iv B0, iv B1, rv b53, iv 2, iv 1, iv 2, iv 0, iv B0, iv CC, u_, u_, u_, u_] []) st91 ?_
              refine own_s T91 (mkF m 227 #[iv p1, iv p2, iv p3, iv p4, iv W0, iv W1, iv B0, iv B1, rv b53, iv 2, iv 1, iv 2, iv 0, iv B0, iv CC, u_, u_, u_, u_] []) (fun _ k => XS.iload X91.here hx rfl (hb hby at_210) rfl  (XS.ifNo X91.here hx rfl (hb hby at_212) rfl ((if0 _ _).trans (tlt hc).2.2.2) (XS.iload X91.here hx rfl (hb hby at_215) rfl  (XS.iconst X91.here hx rfl (hb hby at_217) (XS.icmpYes X91.here hx rfl (pc0 := 218) (pc' := 227) rfl (hb hby at_218) rfl (feq (by decide : ¬ ((2 : Int32) = (1 : Int32)))).2 (by decide) (by decide) k))))) ?_
              refine own_s T91 (mkF m 241 #[iv p1, iv p2, iv p3, iv p4, iv W0, iv W1, iv B0, iv B1, rv b53, iv 2, iv 1, iv 2, iv 0, iv B0, iv CC, u_, iv CC, u_, u_] []) (fun _ k => XS.iload X91.here hx rfl (hb hby at_227) rfl  (XS.ifNo X91.here hx rfl (hb hby at_229) rfl ((if0 _ _).trans (teq (by decide : ((0 : Int32) = (0 : Int32)))).2) (XS.iload X91.here hx rfl (hb hby at_232) rfl  (XS.goto X91.here hx rfl (pc0 := 234) (pc' := 239) rfl (hb hby at_234) (by decide) (by decide) (XS.istore X91.here hx rfl (hb hby at_239) rfl (l' := #[iv p1, iv p2, iv p3, iv p4, iv W0, iv W1, iv B0, iv B1, rv b53, iv 2, iv 1, iv 2, iv 0, iv B0, iv CC, u_, iv CC, u_, u_]) rfl k))))) ?_
              refine own_s T91 (mkF m 256 #[iv p1, iv p2, iv p3, iv p4, iv W0, iv W1, iv B0, iv B1, rv b53, iv 2, iv 1, iv 2, iv 0, iv B0, iv CC, u_, iv CC, iv B1, u_] []) (fun _ k => XS.iload X91.here hx rfl (hb hby at_241) rfl  (XS.iconst X91.here hx rfl (hb hby at_243) (XS.icmpYes X91.here hx rfl (pc0 := 244) (pc' := 252) rfl (hb hby at_244) rfl (feq (by decide : ¬ ((0 : Int32) = (1 : Int32)))).2 (by decide) (by decide) (XS.iload X91.here hx rfl (hb hby at_252) rfl  (XS.istore X91.here hx rfl (hb hby at_254) rfl (l' := #[iv p1, iv p2, iv p3, iv p4, iv W0, iv W1, iv B0, iv B1, rv b53, iv 2, iv 1, iv 2, iv 0, iv B0, iv CC, u_, iv CC, iv B1, u_]) rfl k))))) ?_
              refine own_s T91 (mkF m 264 #[iv p1, iv p2, iv p3, iv p4, iv W0, iv W1, iv B0, iv B1, rv b53, iv 2, iv 1, iv 2, iv 0, iv B0, iv CC, u_, iv CC, iv B1, u_] [(.int W1), (.int B1), (.int W0), (.int CC)]) (fun _ k => XS.iload X91.here hx rfl (hb hby at_256) rfl  (XS.iload X91.here hx rfl (hb hby at_258) rfl  (XS.iload X91.here hx rfl (hb hby at_260) rfl  (XS.iload X91.here hx rfl (hb hby at_262) rfl  k)))) ?_
              obtain ⟨v93, T93, L93, X93, hQ93, st93⟩ := own_callS X91 hx hZ (y := own_y9) (W := 0) hown (own_h hw 72 rfl) (own_h hw 73 rfl) (own_h hw 74 rfl) (own_h hw 75 rfl) (by decide) (own_rmzl l Z a0 hw [] CC W0 B1 W1 T91.heap n0 Z91) (by decide) (by decide) (g := (mkF m 264 #[iv p1, iv p2, iv p3, iv p4, iv W0, iv W1, iv B0, iv B1, rv b53, iv 2, iv 1, iv 2, iv 0, iv B0, iv CC, u_, iv CC, iv B1, u_] [(.int W1), (.int B1), (.int W0), (.int CC)])) rfl (by rw [hml]; rfl) (argsL := [(.int CC), (.int W0), (.int B1), (.int W1)]) (rest := []) rfl (lenOf own_pd6 rfl) rfl (by show 2 * 0 + _ ≤ _; exact Nat.le_of_eq rfl) (hb hby at_264) rfl (by decide) (by decide)
              obtain ⟨rfl, Nq93, e93⟩ := hQ93
              have N93 := Fr.app N91 Nq93
              refine own_s T93 (mkF m 267 #[iv p1, iv p2, iv p3, iv p4, iv W0, iv W1, iv B0, iv B1, rv b53, iv 2, iv 1, iv 2, iv 0, iv B0, iv CC, u_, iv CC, iv B1, u_] [(.int (own_b (!decide (CC * W1 < B1 * W0))))]) st93 ?_
              refine own_s T93 (mkF m 279 #[iv p1, iv p2, iv p3, iv p4, iv W0, iv W1, iv B0, iv B1, rv b53, iv 2, iv 1, iv 2, iv 0, iv B0, iv CC, u_, iv CC, iv B1, iv 0] [(.int 0)]) (fun _ k => XS.ifNo X93.here hx rfl (hb hby at_267) rfl ((if0 _ _).trans (feq (own_b1 (by simp [hy]))).1) (XS.iconst X93.here hx rfl (hb hby at_270) (XS.goto X93.here hx rfl (pc0 := 271) (pc' := 275) rfl (hb hby at_271) (by decide) (by decide) (XS.istore X93.here hx rfl (hb hby at_275) rfl (l' := #[iv p1, iv p2, iv p3, iv p4, iv W0, iv W1, iv B0, iv B1, rv b53, iv 2, iv 1, iv 2, iv 0, iv B0, iv CC, u_, iv CC, iv B1, iv 0]) rfl (XS.iload X93.here hx rfl (hb hby at_277) rfl  k))))) ?_
              refine own_s T93 (mkF m 296 #[iv p1, iv p2, iv p3, iv p4, iv W0, iv W1, iv B0, iv B1, rv b53, iv 2, iv 1, iv 2, iv 0, iv B0, iv CC, iv 1, iv CC, iv B1, iv 0] []) (fun _ k => XS.iload X93.here hx rfl (hb hby at_279) rfl  (XS.icmpYes X93.here hx rfl (pc0 := 281) (pc' := 289) rfl (hb hby at_281) rfl (teq (by decide : ((0 : Int32) = (0 : Int32)))).1 (by decide) (by decide) (XS.iconst X93.here hx rfl (hb hby at_289) (XS.goto X93.here hx rfl (pc0 := 290) (pc' := 294) rfl (hb hby at_290) (by decide) (by decide) (XS.istore X93.here hx rfl (hb hby at_294) rfl (l' := #[iv p1, iv p2, iv p3, iv p4, iv W0, iv W1, iv B0, iv B1, rv b53, iv 2, iv 1, iv 2, iv 0, iv B0, iv CC, iv 1, iv CC, iv B1, iv 0]) rfl k))))) ?_
              refine own_s T93 (mkF m 324 #[iv p1, iv p2, iv p3, iv p4, iv W0, iv W1, iv B0, iv B1, rv b53, iv 2, iv 1, iv 2, iv 0, iv B0, iv CC, iv 1, iv CC, iv B1, iv 0] [(.ref b53)]) (fun _ k => XS.goto X93.here hx rfl (pc0 := 296) (pc' := 317) rfl (hb hby at_296) (by decide) (by decide) (XS.iload X93.here hx rfl (hb hby at_317) rfl  (XS.ifNo X93.here hx rfl (hb hby at_319) rfl ((if0 _ _).trans (feq (by decide : ¬ ((1 : Int32) = (0 : Int32)))).1) (XS.aload X93.here hx rfl (hb hby at_322) rfl rfl k)))) ?_
              obtain ⟨v94, T94, L94, X94, hQ94, st94⟩ := own_callV X93 hx hZ (y := own_y7) (z := own_y7) (W := 0) (a := b53) hown (own_h hw 45 rfl) (own_h hw 46 rfl) (notFace_of_selects (args := #[]) (mvT hZ (own_h hw 48 rfl))) (own_h hw 48 rfl) (own_h hw 47 rfl) (own_h hw 2 rfl) (own_h hw 49 rfl) (by decide) (own_rmdc0 l Z a0 hw [] b53 wA63 bA63 sA63 hA63 kw63 kb63 ks63 kh63 p1 W0.toInt64 W1.toInt64 CC.toInt64 B1.toInt64 ((0 : Int64) + (1 : Int64)) (((0 : Int64) + (1 : Int64)) - (1 : Int64)) (1 : Int32) ((0 : Int64) + (1 : Int64)) ((0 : Int32) + (1 : Int32)) (0 : Int32) (2 : Int32) T91.heap n0 Z91 ⟨u92_0, u92_1, u92_2, u92_3, u92_4, u92_5, u92_6, u92_7, u92_8, u92_9, u92_10, u92_11, u92_12, u92_13⟩) (by decide) (by decide) u92_0 (g := (mkF m 324 #[iv p1, iv p2, iv p3, iv p4, iv W0, iv W1, iv B0, iv B1, rv b53, iv 2, iv 1, iv 2, iv 0, iv B0, iv CC, iv 1, iv CC, iv B1, iv 0] [(.ref b53)])) rfl (by rw [hml]; rfl) (argsL := []) (rest := []) rfl (lenOf own_pd5 rfl) rfl (by show 2 * 0 + _ ≤ _; exact Nat.le_of_eq rfl) (hb hby at_324) e93 (by decide) (by decide)
              obtain ⟨rfl, Nq94, e94⟩ := hQ94
              have N94 := Fr.app N93 Nq94
              refine own_s T94 (mkF m 327 #[iv p1, iv p2, iv p3, iv p4, iv W0, iv W1, iv B0, iv B1, rv b53, iv 2, iv 1, iv 2, iv 0, iv B0, iv CC, iv 1, iv CC, iv B1, iv 0] [(.int (own_b (own_dc (2 : Int32) ((0 : Int64) + (1 : Int64)) ((0 : Int64) + (1 : Int64)) ((0 : Int32) + (1 : Int32)) p1 (0 : Int32))))]) st94 ?_
              refine own_s T94 (mkF m 339 #[iv p1, iv p2, iv p3, iv p4, iv W0, iv W1, iv B0, iv B1, rv b53, iv 2, iv 1, iv 2, iv 0, iv B0, iv CC, iv 1, iv CC, iv B1, iv 0] []) (fun _ k => XS.iload X94.here hx rfl (hb hby at_327) rfl  (XS.icmpNo X94.here hx rfl (hb hby at_329) rfl (teq (by simp +decide [own_dc, own_b])).2 (XS.iconst X94.here hx rfl (hb hby at_332) (XS.goto X94.here hx rfl (pc0 := 333) (pc' := 337) rfl (hb hby at_333) (by decide) (by decide) (XS.istore X94.here hx rfl (hb hby at_337) rfl (l' := #[iv p1, iv p2, iv p3, iv p4, iv W0, iv W1, iv B0, iv B1, rv b53, iv 2, iv 1, iv 2, iv 0, iv B0, iv CC, iv 1, iv CC, iv B1, iv 0]) rfl k))))) ?_
              refine own_s T94 (mkF m 341 #[iv p1, iv p2, iv p3, iv p4, iv W0, iv W1, iv B0, iv B1, rv b53, iv 2, iv 1, iv 2, iv 0, iv B0, iv CC, iv 1, iv CC, iv B1, iv 0] [(.ref b53)]) (fun _ k => XS.aload X94.here hx rfl (hb hby at_339) rfl rfl k) ?_
              obtain ⟨v95, T95, L95, X95, hQ95, st95⟩ := own_callV X94 hx hZ (y := own_y3) (z := own_y3) (W := 0) (a := b53) hown (own_h hw 50 rfl) (own_h hw 28 rfl) (notFace_of_selects (args := #[]) (mvT hZ (own_h hw 30 rfl))) (own_h hw 30 rfl) (own_h hw 29 rfl) (own_h hw 2 rfl) (own_h hw 31 rfl) (by decide) (own_rmfo l Z a0 hw [] b53 wA63 bA63 sA63 hA63 kw63 kb63 ks63 kh63 p1 W0.toInt64 W1.toInt64 CC.toInt64 B1.toInt64 ((0 : Int64) + (1 : Int64)) (((0 : Int64) + (1 : Int64)) - (1 : Int64)) (0 : Int32) (1 : Int32) ((0 : Int64) + (1 : Int64)) ((0 : Int32) + (1 : Int32)) (0 : Int32) (2 : Int32) T91.heap n0 Z91 ⟨u92_0, u92_1, u92_2, u92_3, u92_4, u92_5, u92_6, u92_7, u92_8, u92_9, u92_10, u92_11, u92_12, u92_13⟩ hNE hGE mg67 mg71 mg90 mg72) (by decide) (by decide) u92_0 (g := (mkF m 341 #[iv p1, iv p2, iv p3, iv p4, iv W0, iv W1, iv B0, iv B1, rv b53, iv 2, iv 1, iv 2, iv 0, iv B0, iv CC, iv 1, iv CC, iv B1, iv 0] [(.ref b53)])) rfl (by rw [hml]; rfl) (argsL := []) (rest := []) rfl (lenOf own_pd1 rfl) rfl (by show 2 * 0 + _ ≤ _; exact Nat.le_of_eq rfl) (hb hby at_341) e94 (by decide) (by decide)
              obtain ⟨rfl, Nq95, Kq95, hq95⟩ := hQ95
              have N95 := Fr.app N94 Nq95
              have Z95 := Nat.le_trans Z91 Kq95.1
              obtain ⟨u96_0, u96_1, u96_2, u96_3, u96_4, u96_5, u96_6, u96_7, u96_8, u96_9, u96_10, u96_11, u96_12, u96_13⟩ := id hq95
              refine own_s T95 (mkF m 344 #[iv p1, iv p2, iv p3, iv p4, iv W0, iv W1, iv B0, iv B1, rv b53, iv 2, iv 1, iv 2, iv 0, iv B0, iv CC, iv 1, iv CC, iv B1, iv 0] []) st95 ?_
              refine own_s T95 (mkF m 351 #[iv p1, iv p2, iv p3, iv p4, iv W0, iv W1, iv B0, iv B1, rv b53, iv 2, iv 1, iv 2, iv 0, iv B0, iv CC, iv 1, iv CC, iv B1, iv 0] [(.ref b53)]) (fun _ k => XS.iload X95.here hx rfl (hb hby at_344) rfl  (XS.ifNo X95.here hx rfl (hb hby at_346) rfl ((if0 _ _).trans (feq (by decide : ¬ ((1 : Int32) = (0 : Int32)))).1) (XS.aload X95.here hx rfl (hb hby at_349) rfl rfl k))) ?_
              obtain ⟨v97, T97, L97, X97, hQ97, st97⟩ := own_callV X95 hx hZ (y := own_y7) (z := own_y7) (W := 0) (a := b53) hown (own_h hw 45 rfl) (own_h hw 46 rfl) (notFace_of_selects (args := #[]) (mvT hZ (own_h hw 48 rfl))) (own_h hw 48 rfl) (own_h hw 47 rfl) (own_h hw 2 rfl) (own_h hw 49 rfl) (by decide) (own_rmdc0 l Z a0 hw [] b53 wA63 bA63 sA63 hA63 kw63 kb63 ks63 kh63 p1 W0.toInt64 W1.toInt64 CC.toInt64 B1.toInt64 ((0 : Int64) + (1 : Int64)) (((0 : Int64) + (1 : Int64)) - (1 : Int64)) (1 : Int32) (((0 : Int64) + (1 : Int64)) + (1 : Int64)) (0 : Int32) (-1 : Int32) (2 : Int32) T95.heap n0 Z95 ⟨u96_0, u96_1, u96_2, u96_3, u96_4, u96_5, u96_6, u96_7, u96_8, u96_9, u96_10, u96_11, u96_12, u96_13⟩) (by decide) (by decide) u96_0 (g := (mkF m 351 #[iv p1, iv p2, iv p3, iv p4, iv W0, iv W1, iv B0, iv B1, rv b53, iv 2, iv 1, iv 2, iv 0, iv B0, iv CC, iv 1, iv CC, iv B1, iv 0] [(.ref b53)])) rfl (by rw [hml]; rfl) (argsL := []) (rest := []) rfl (lenOf own_pd5 rfl) rfl (by show 2 * 0 + _ ≤ _; exact Nat.le_of_eq rfl) (hb hby at_351) rfl (by decide) (by decide)
              obtain ⟨rfl, Nq97, e97⟩ := hQ97
              have N97 := Fr.app N95 Nq97
              refine own_s T97 (mkF m 354 #[iv p1, iv p2, iv p3, iv p4, iv W0, iv W1, iv B0, iv B1, rv b53, iv 2, iv 1, iv 2, iv 0, iv B0, iv CC, iv 1, iv CC, iv B1, iv 0] [(.int (own_b (own_dc (2 : Int32) ((0 : Int64) + (1 : Int64)) (((0 : Int64) + (1 : Int64)) + (1 : Int64)) (0 : Int32) p1 (-1 : Int32))))]) st97 ?_
              refine own_s T97 (mkF m 368 #[iv p1, iv p2, iv p3, iv p4, iv W0, iv W1, iv B0, iv B1, rv b53, iv 2, iv 1, iv 2, iv 0, iv B0, iv CC, iv 1, iv CC, iv B1, iv 0] [(.int 1)]) (fun _ k => XS.iload X97.here hx rfl (hb hby at_354) rfl  (XS.ifYes X97.here hx rfl (pc0 := 356) (pc' := 363) rfl (hb hby at_356) rfl ((if0 _ _).trans (feq (by decide : ¬ ((2 : Int32) = (0 : Int32)))).2) (by decide) (by decide) (XS.iconst X97.here hx rfl (hb hby at_363) (XS.icmpNo X97.here hx rfl (hb hby at_364) rfl (teq (by simp +decide [own_dc, own_b])).2 (XS.iconst X97.here hx rfl (hb hby at_367) k))))) ?_
              refine own_s T97 (mkF m 372 #[iv p1, iv p2, iv p3, iv p4, iv W0, iv W1, iv B0, iv B1, rv b53, iv 2, iv 1, iv 2, iv 0, iv B0, iv CC, iv 1, iv CC, iv B1, iv 0] [(.int 1)]) (fun _ k => XS.goto X97.here hx rfl (pc0 := 368) (pc' := 372) rfl (hb hby at_368) (by decide) (by decide) k) ?_
              exact own_finZ X97 hx (t := .boolean) hret (by simp) (z' := (1 : Int32)) rfl (hb hby at_372) (own_end (Qv := (own_Q0 Z p1 p2 p3 p4 h0 n0)) X97 (own_some hret) hlk (by decide) (by decide) e97 ⟨rfl, N97⟩)
          · have kk_hc := hc
            refine own_s T77 (mkF m 206 #[iv p1, iv p2, iv p3, iv p4, iv W0, iv W1, iv B0, iv B1, rv b53, iv 2, iv 1, iv 2, iv 0, iv B0, iv CC, u_, u_, u_, u_] [(.int CC), (.ref b53)]) (fun _ k => XS.aload X77.here hx rfl (hb hby at_202) rfl rfl (XS.iload X77.here hx rfl (hb hby at_204) rfl  k)) ?_
            have mg98 := (own_m8 hCC)
            refine own_s T77 (mkF m 207 #[iv p1, iv p2, iv p3, iv p4, iv W0, iv W1, iv B0, iv B1, rv b53, iv 2, iv 1, iv 2, iv 0, iv B0, iv CC, u_, u_, u_, u_] [(.double (FP.l2d CC.toInt64)), (.ref b53)]) (fun _ k => XS.i2dS X77.here hx rfl (hb hby at_206) rfl (i2d_w _) k) ?_
            obtain ⟨v99, T99, L99, X99, hQ99, st99⟩ := own_callV X77 hx hZ (y := own_y6) (z := own_y6) (W := 0) (a := b53) hown (own_h hw 59 rfl) (own_h hw 60 rfl) (notFace_of_selects (args := #[]) (mvT hZ (own_h hw 62 rfl))) (own_h hw 62 rfl) (own_h hw 61 rfl) (own_h hw 2 rfl) (own_h hw 63 rfl) (by decide) (own_rmre02N l Z a0 hw [] b53 wA63 bA63 sA63 hA63 kw63 kb63 ks63 kh63 p1 W0.toInt64 W1.toInt64 B0.toInt64 B1.toInt64 (((0 : Int64) + (1 : Int64)) - (1 : Int64)) (((0 : Int64) + (1 : Int64)) - (1 : Int64)) ((0 : Int64) + (1 : Int64)) (0 : Int32) CC.toInt64 T73.heap n0 Z73 ⟨u74_0, u74_1, u74_2, u74_3, u74_4, u74_5, u74_6, u74_7, u74_8, u74_9, u74_10, u74_11, u74_12, u74_13⟩ hNE hGE mg67 mg71 mg68 mg72 mg98 (own_n64 hc)) (by decide) (by decide) u74_0 (g := (mkF m 207 #[iv p1, iv p2, iv p3, iv p4, iv W0, iv W1, iv B0, iv B1, rv b53, iv 2, iv 1, iv 2, iv 0, iv B0, iv CC, u_, u_, u_, u_] [(.double (FP.l2d CC.toInt64)), (.ref b53)])) rfl (by rw [hml]; rfl) (argsL := [(.double (FP.l2d CC.toInt64))]) (rest := []) rfl (lenOf own_pd8 rfl) rfl (by show 2 * 0 + _ ≤ _; exact Nat.le_of_eq rfl) (hb hby at_207) e77 (by decide) (by decide)
            obtain ⟨rfl, Nq99, Kq99, hq99⟩ := hQ99
            have N99 := Fr.app N77 Nq99
            have Z99 := Nat.le_trans Z73 Kq99.1
            obtain ⟨u100_0, u100_1, u100_2, u100_3, u100_4, u100_5, u100_6, u100_7, u100_8, u100_9, u100_10, u100_11, u100_12, u100_13⟩ := id hq99
            refine own_s T99 (mkF m 210 #[iv p1, iv p2, iv p3, iv p4, iv W0, iv W1, iv B0, iv B1, rv b53, iv 2, iv 1, iv 2, iv 0, iv B0, iv CC, u_, u_, u_, u_] []) st99 ?_
            refine own_s T99 (mkF m 303 #[iv p1, iv p2, iv p3, iv p4, iv W0, iv W1, iv B0, iv B1, rv b53, iv 2, iv 1, iv 2, iv 0, iv B0, iv CC, u_, u_, u_, u_] [(.int 1)]) (fun _ k => XS.iload X99.here hx rfl (hb hby at_210) rfl  (XS.ifYes X99.here hx rfl (pc0 := 212) (pc' := 299) rfl (hb hby at_212) rfl ((if0 _ _).trans (flt hc).2.2.2) (by decide) (by decide) (XS.iload X99.here hx rfl (hb hby at_299) rfl  (XS.iconst X99.here hx rfl (hb hby at_301) (XS.isub X99.here hx rfl (hb hby at_302) rfl k))))) ?_
            refine own_s T99 (mkF m 317 #[iv p1, iv p2, iv p3, iv p4, iv W0, iv W1, iv B0, iv B1, rv b53, iv 2, iv 1, iv 1, iv 0, iv B0, iv CC, iv 0, u_, u_, u_] []) (fun _ k => XS.istore X99.here hx rfl (hb hby at_303) rfl (l' := #[iv p1, iv p2, iv p3, iv p4, iv W0, iv W1, iv B0, iv B1, rv b53, iv 2, iv 1, iv 1, iv 0, iv B0, iv CC, u_, u_, u_, u_]) rfl (XS.iload X99.here hx rfl (hb hby at_305) rfl  (XS.ifYes X99.here hx rfl (pc0 := 307) (pc' := 314) rfl (hb hby at_307) rfl ((if0 _ _).trans (feq (by decide : ¬ ((1 : Int32) = (0 : Int32)))).2) (by decide) (by decide) (XS.iconst X99.here hx rfl (hb hby at_314) (XS.istore X99.here hx rfl (hb hby at_315) rfl (l' := #[iv p1, iv p2, iv p3, iv p4, iv W0, iv W1, iv B0, iv B1, rv b53, iv 2, iv 1, iv 1, iv 0, iv B0, iv CC, iv 0, u_, u_, u_]) rfl k))))) ?_
            refine own_s T99 (mkF m 324 #[iv p1, iv p2, iv p3, iv p4, iv W0, iv W1, iv B0, iv B1, rv b53, iv 2, iv 1, iv 1, iv 0, iv B0, iv CC, iv 0, u_, u_, u_] [(.ref b53)]) (fun _ k => XS.iload X99.here hx rfl (hb hby at_317) rfl  (XS.ifNo X99.here hx rfl (hb hby at_319) rfl ((if0 _ _).trans (feq (by decide : ¬ ((1 : Int32) = (0 : Int32)))).1) (XS.aload X99.here hx rfl (hb hby at_322) rfl rfl k))) ?_
            obtain ⟨v101, T101, L101, X101, hQ101, st101⟩ := own_callV X99 hx hZ (y := own_y7) (z := own_y7) (W := 0) (a := b53) hown (own_h hw 45 rfl) (own_h hw 46 rfl) (notFace_of_selects (args := #[]) (mvT hZ (own_h hw 48 rfl))) (own_h hw 48 rfl) (own_h hw 47 rfl) (own_h hw 2 rfl) (own_h hw 49 rfl) (by decide) (own_rmdc1 l Z a0 hw [] b53 wA63 bA63 sA63 hA63 kw63 kb63 ks63 kh63 p1 W0.toInt64 W1.toInt64 CC.toInt64 B1.toInt64 ((0 : Int64) + (1 : Int64)) (((0 : Int64) + (1 : Int64)) - (1 : Int64)) (1 : Int32) ((0 : Int64) + (1 : Int64)) ((0 : Int32) + (1 : Int32)) (-1 : Int32) (1 : Int32) T99.heap n0 Z99 ⟨u100_0, u100_1, u100_2, u100_3, u100_4, u100_5, u100_6, u100_7, u100_8, u100_9, u100_10, u100_11, u100_12, u100_13⟩) (by decide) (by decide) u100_0 (g := (mkF m 324 #[iv p1, iv p2, iv p3, iv p4, iv W0, iv W1, iv B0, iv B1, rv b53, iv 2, iv 1, iv 1, iv 0, iv B0, iv CC, iv 0, u_, u_, u_] [(.ref b53)])) rfl (by rw [hml]; rfl) (argsL := []) (rest := []) rfl (lenOf own_pd5 rfl) rfl (by show 2 * 0 + _ ≤ _; exact Nat.le_of_eq rfl) (hb hby at_324) rfl (by decide) (by decide)
            obtain ⟨rfl, Nq101, e101⟩ := hQ101
            have N101 := Fr.app N99 Nq101
            refine own_s T101 (mkF m 327 #[iv p1, iv p2, iv p3, iv p4, iv W0, iv W1, iv B0, iv B1, rv b53, iv 2, iv 1, iv 1, iv 0, iv B0, iv CC, iv 0, u_, u_, u_] [(.int (own_b (own_dc (1 : Int32) (((0 : Int64) + (1 : Int64)) - (1 : Int64)) ((0 : Int64) + (1 : Int64)) ((0 : Int32) + (1 : Int32)) p1 (-1 : Int32))))]) st101 ?_
            refine own_s T101 (mkF m 339 #[iv p1, iv p2, iv p3, iv p4, iv W0, iv W1, iv B0, iv B1, rv b53, iv 2, iv 1, iv 1, iv 0, iv B0, iv CC, iv 0, u_, u_, u_] []) (fun _ k => XS.iload X101.here hx rfl (hb hby at_327) rfl  (XS.icmpNo X101.here hx rfl (hb hby at_329) rfl (teq (by simp +decide [own_dc, own_b])).2 (XS.iconst X101.here hx rfl (hb hby at_332) (XS.goto X101.here hx rfl (pc0 := 333) (pc' := 337) rfl (hb hby at_333) (by decide) (by decide) (XS.istore X101.here hx rfl (hb hby at_337) rfl (l' := #[iv p1, iv p2, iv p3, iv p4, iv W0, iv W1, iv B0, iv B1, rv b53, iv 2, iv 1, iv 1, iv 0, iv B0, iv CC, iv 0, u_, u_, u_]) rfl k))))) ?_
            refine own_s T101 (mkF m 341 #[iv p1, iv p2, iv p3, iv p4, iv W0, iv W1, iv B0, iv B1, rv b53, iv 2, iv 1, iv 1, iv 0, iv B0, iv CC, iv 0, u_, u_, u_] [(.ref b53)]) (fun _ k => XS.aload X101.here hx rfl (hb hby at_339) rfl rfl k) ?_
            obtain ⟨v102, T102, L102, X102, hQ102, st102⟩ := own_callV X101 hx hZ (y := own_y3) (z := own_y3) (W := 0) (a := b53) hown (own_h hw 50 rfl) (own_h hw 28 rfl) (notFace_of_selects (args := #[]) (mvT hZ (own_h hw 30 rfl))) (own_h hw 30 rfl) (own_h hw 29 rfl) (own_h hw 2 rfl) (own_h hw 31 rfl) (by decide) (own_rmfo l Z a0 hw [] b53 wA63 bA63 sA63 hA63 kw63 kb63 ks63 kh63 p1 W0.toInt64 W1.toInt64 CC.toInt64 B1.toInt64 ((0 : Int64) + (1 : Int64)) (((0 : Int64) + (1 : Int64)) - (1 : Int64)) (1 : Int32) (1 : Int32) ((0 : Int64) + (1 : Int64)) ((0 : Int32) + (1 : Int32)) (-1 : Int32) (1 : Int32) T99.heap n0 Z99 ⟨u100_0, u100_1, u100_2, u100_3, u100_4, u100_5, u100_6, u100_7, u100_8, u100_9, u100_10, u100_11, u100_12, u100_13⟩ hNE hGE mg67 mg71 mg98 mg72) (by decide) (by decide) u100_0 (g := (mkF m 341 #[iv p1, iv p2, iv p3, iv p4, iv W0, iv W1, iv B0, iv B1, rv b53, iv 2, iv 1, iv 1, iv 0, iv B0, iv CC, iv 0, u_, u_, u_] [(.ref b53)])) rfl (by rw [hml]; rfl) (argsL := []) (rest := []) rfl (lenOf own_pd1 rfl) rfl (by show 2 * 0 + _ ≤ _; exact Nat.le_of_eq rfl) (hb hby at_341) e101 (by decide) (by decide)
            obtain ⟨rfl, Nq102, Kq102, hq102⟩ := hQ102
            have N102 := Fr.app N101 Nq102
            have Z102 := Nat.le_trans Z99 Kq102.1
            obtain ⟨u103_0, u103_1, u103_2, u103_3, u103_4, u103_5, u103_6, u103_7, u103_8, u103_9, u103_10, u103_11, u103_12, u103_13⟩ := id hq102
            refine own_s T102 (mkF m 344 #[iv p1, iv p2, iv p3, iv p4, iv W0, iv W1, iv B0, iv B1, rv b53, iv 2, iv 1, iv 1, iv 0, iv B0, iv CC, iv 0, u_, u_, u_] []) st102 ?_
            refine own_s T102 (mkF m 351 #[iv p1, iv p2, iv p3, iv p4, iv W0, iv W1, iv B0, iv B1, rv b53, iv 2, iv 1, iv 1, iv 0, iv B0, iv CC, iv 0, u_, u_, u_] [(.ref b53)]) (fun _ k => XS.iload X102.here hx rfl (hb hby at_344) rfl  (XS.ifNo X102.here hx rfl (hb hby at_346) rfl ((if0 _ _).trans (feq (by decide : ¬ ((1 : Int32) = (0 : Int32)))).1) (XS.aload X102.here hx rfl (hb hby at_349) rfl rfl k))) ?_
            obtain ⟨v104, T104, L104, X104, hQ104, st104⟩ := own_callV X102 hx hZ (y := own_y7) (z := own_y7) (W := 0) (a := b53) hown (own_h hw 45 rfl) (own_h hw 46 rfl) (notFace_of_selects (args := #[]) (mvT hZ (own_h hw 48 rfl))) (own_h hw 48 rfl) (own_h hw 47 rfl) (own_h hw 2 rfl) (own_h hw 49 rfl) (by decide) (own_rmdc1 l Z a0 hw [] b53 wA63 bA63 sA63 hA63 kw63 kb63 ks63 kh63 p1 W0.toInt64 W1.toInt64 CC.toInt64 B1.toInt64 ((0 : Int64) + (1 : Int64)) (((0 : Int64) + (1 : Int64)) - (1 : Int64)) (1 : Int32) (((0 : Int64) + (1 : Int64)) + (1 : Int64)) (0 : Int32) (-1 : Int32) (1 : Int32) T102.heap n0 Z102 ⟨u103_0, u103_1, u103_2, u103_3, u103_4, u103_5, u103_6, u103_7, u103_8, u103_9, u103_10, u103_11, u103_12, u103_13⟩) (by decide) (by decide) u103_0 (g := (mkF m 351 #[iv p1, iv p2, iv p3, iv p4, iv W0, iv W1, iv B0, iv B1, rv b53, iv 2, iv 1, iv 1, iv 0, iv B0, iv CC, iv 0, u_, u_, u_] [(.ref b53)])) rfl (by rw [hml]; rfl) (argsL := []) (rest := []) rfl (lenOf own_pd5 rfl) rfl (by show 2 * 0 + _ ≤ _; exact Nat.le_of_eq rfl) (hb hby at_351) rfl (by decide) (by decide)
            obtain ⟨rfl, Nq104, e104⟩ := hQ104
            have N104 := Fr.app N102 Nq104
            refine own_s T104 (mkF m 354 #[iv p1, iv p2, iv p3, iv p4, iv W0, iv W1, iv B0, iv B1, rv b53, iv 2, iv 1, iv 1, iv 0, iv B0, iv CC, iv 0, u_, u_, u_] [(.int (own_b (own_dc (1 : Int32) (((0 : Int64) + (1 : Int64)) - (1 : Int64)) (((0 : Int64) + (1 : Int64)) + (1 : Int64)) (0 : Int32) p1 (-1 : Int32))))]) st104 ?_
            refine own_s T104 (mkF m 368 #[iv p1, iv p2, iv p3, iv p4, iv W0, iv W1, iv B0, iv B1, rv b53, iv 2, iv 1, iv 1, iv 0, iv B0, iv CC, iv 0, u_, u_, u_] [(.int 1)]) (fun _ k => XS.iload X104.here hx rfl (hb hby at_354) rfl  (XS.ifYes X104.here hx rfl (pc0 := 356) (pc' := 363) rfl (hb hby at_356) rfl ((if0 _ _).trans (feq (by decide : ¬ ((1 : Int32) = (0 : Int32)))).2) (by decide) (by decide) (XS.iconst X104.here hx rfl (hb hby at_363) (XS.icmpNo X104.here hx rfl (hb hby at_364) rfl (teq (by simp +decide [own_dc, own_b])).2 (XS.iconst X104.here hx rfl (hb hby at_367) k))))) ?_
            refine own_s T104 (mkF m 372 #[iv p1, iv p2, iv p3, iv p4, iv W0, iv W1, iv B0, iv B1, rv b53, iv 2, iv 1, iv 1, iv 0, iv B0, iv CC, iv 0, u_, u_, u_] [(.int 1)]) (fun _ k => XS.goto X104.here hx rfl (pc0 := 368) (pc' := 372) rfl (hb hby at_368) (by decide) (by decide) k) ?_
            exact own_finZ X104 hx (t := .boolean) hret (by simp) (z' := (1 : Int32)) rfl (hb hby at_372) (own_end (Qv := (own_Q0 Z p1 p2 p3 p4 h0 n0)) X104 (own_some hret) hlk (by decide) (by decide) e104 ⟨rfl, N104⟩)
      · have kk_hb1 := hb1
        obtain ⟨T105, h105, X105, e105, E105, A105, D105, -, st105⟩ := newO X0 hx hZ hown (own_h hw 0 rfl) (own_h hw 1 rfl) (own_h hw 2 rfl) e0 (g := (mkF m 32 #[iv p1, iv p2, iv p3, iv p4, iv W0, iv W1, iv B0, iv B1, u_, u_, u_, u_, u_, u_, u_, u_, u_, u_, u_] [])) rfl (hb hby at_32) (by decide) (by decide)
        obtain ⟨b105, g105⟩ : ∃ z, z = h0.size := ⟨_, rfl⟩
        have g_b105 : n0 ≤ b105 := Nat.le_trans Z0 (Nat.le_of_eq g105.symm)
        have sz_b105 : h0.size ≤ b105 := Nat.le_trans (Keep.refl h0 []).1 (Nat.le_of_eq g105.symm)
        rw [← g105] at A105 D105 st105
        have K105 : Keep h0 h105 [] := (Keep.refl h0 []).ext E105
        have Z105 := Nat.le_trans Z0 E105.1
        have f106 : Fld Z h105 b105 "com/example/allotrope/allotrope/procure/CoverQueue" "reach" "I" (.int 0) := D105 (Or.inr (own_h hw 10 rfl)) (ty := .int) (by decide)
        have f107 : Fld Z h105 b105 "com/example/allotrope/allotrope/procure/CoverQueue" "weights" "[D" .null := D105 (Or.inr (own_h hw 13 rfl)) (ty := (.array .double)) (by decide)
        have f108 : Fld Z h105 b105 "com/example/allotrope/allotrope/procure/CoverQueue" "bounds" "[D" .null := D105 (Or.inr (own_h hw 15 rfl)) (ty := (.array .double)) (by decide)
        have f109 : Fld Z h105 b105 "com/example/allotrope/allotrope/procure/CoverQueue" "setAt" "[J" .null := D105 (Or.inr (own_h hw 18 rfl)) (ty := (.array .long)) (by decide)
        have f110 : Fld Z h105 b105 "com/example/allotrope/allotrope/procure/CoverQueue" "heap" "[I" .null := D105 (Or.inr (own_h hw 21 rfl)) (ty := (.array .int)) (by decide)
        have f111 : Fld Z h105 b105 "com/example/allotrope/allotrope/procure/CoverQueue" "forgotten" "J" (.long 0) := D105 (Or.inl (own_h hw 33 rfl)) (ty := .long) (by decide)
        have f112 : Fld Z h105 b105 "com/example/allotrope/allotrope/procure/CoverQueue" "reckonings" "I" (.int 0) := D105 (Or.inl (own_h hw 35 rfl)) (ty := .int) (by decide)
        have f113 : Fld Z h105 b105 "com/example/allotrope/allotrope/procure/CoverQueue" "best" "I" (.int 0) := D105 (Or.inl (own_h hw 37 rfl)) (ty := .int) (by decide)
        have f114 : Fld Z h105 b105 "com/example/allotrope/allotrope/procure/CoverQueue" "size" "I" (.int 0) := D105 (Or.inl (own_h hw 39 rfl)) (ty := .int) (by decide)
        refine own_s T105 (mkF m 35 #[iv p1, iv p2, iv p3, iv p4, iv W0, iv W1, iv B0, iv B1, u_, u_, u_, u_, u_, u_, u_, u_, u_, u_, u_] [(.ref b105)]) st105 ?_
        refine own_s T105 (mkF m 38 #[iv p1, iv p2, iv p3, iv p4, iv W0, iv W1, iv B0, iv B1, u_, u_, u_, u_, u_, u_, u_, u_, u_, u_, u_] [(.int p1), (.int 2), (.ref b105), (.ref b105)]) (fun _ k => XS.dup X105.here hx rfl (hb hby at_35) rfl rfl (XS.iconst X105.here hx rfl (hb hby at_36) (XS.iloadN X105.here hx rfl (hb hby at_37) rfl  k))) ?_
        obtain ⟨v115, T115, L115, X115, hQ115, st115⟩ := own_callI X105 hx hZ (y := own_y8) (W := 1) (a := b105) rfl hown (own_h hw 3 rfl) (own_h hw 4 rfl) (own_h hw 2 rfl) (own_h hw 5 rfl) (by decide) (own_rmini l Z a0 hw [] b105 p1 h105 n0 Z105 g_b105 A105 f106 f107 f108 f109 f110 f111 f112 f113 f114) (by decide) (by decide) (g := (mkF m 38 #[iv p1, iv p2, iv p3, iv p4, iv W0, iv W1, iv B0, iv B1, u_, u_, u_, u_, u_, u_, u_, u_, u_, u_, u_] [(.int p1), (.int 2), (.ref b105), (.ref b105)])) rfl (by rw [hml]; rfl) (argsL := [(.int 2), (.int p1)]) (rest := [(.ref b105)]) rfl (lenOf own_pd3 rfl) rfl (by show 2 * 0 + _ ≤ _; exact Nat.le_of_eq rfl) (hb hby at_38) e105 (by decide) (by decide)
        obtain ⟨rfl, Nq115, Kq115, wA115, bA115, sA115, hA115, kw115, kb115, ks115, kh115, hNE, hGE, hq115⟩ := hQ115
        have N115 := Fr.app N0 Nq115
        have Z115 := Nat.le_trans Z105 Kq115.1
        obtain ⟨u116_0, u116_1, u116_2, u116_3, u116_4, u116_5, u116_6, u116_7, u116_8, u116_9, u116_10, u116_11, u116_12, u116_13⟩ := id hq115
        refine own_s T115 (mkF m 41 #[iv p1, iv p2, iv p3, iv p4, iv W0, iv W1, iv B0, iv B1, u_, u_, u_, u_, u_, u_, u_, u_, u_, u_, u_] [(.ref b105)]) st115 ?_
        refine own_s T115 (mkF m 45 #[iv p1, iv p2, iv p3, iv p4, iv W0, iv W1, iv B0, iv B1, rv b105, u_, u_, u_, u_, u_, u_, u_, u_, u_, u_] [(.ref b105)]) (fun _ k => XS.astore X115.here hx rfl (hb hby at_41) rfl rfl (l' := #[iv p1, iv p2, iv p3, iv p4, iv W0, iv W1, iv B0, iv B1, rv b105, u_, u_, u_, u_, u_, u_, u_, u_, u_, u_]) rfl (XS.aload X115.here hx rfl (hb hby at_43) rfl rfl k)) ?_
        obtain ⟨v117, T117, L117, X117, hQ117, st117⟩ := own_callV X115 hx hZ (y := own_y4) (z := own_y4) (W := 0) (a := b105) hown (own_h hw 22 rfl) (own_h hw 23 rfl) (notFace_of_selects (args := #[]) (mvT hZ (own_h hw 25 rfl))) (own_h hw 25 rfl) (own_h hw 24 rfl) (own_h hw 2 rfl) (own_h hw 26 rfl) (by decide) (own_rmsta l Z a0 hw [] b105 wA115 bA115 sA115 hA115 kw115 kb115 ks115 kh115 p1 0 0 0 0 (0 : Int64) (0 : Int64) (0 : Int32) (0 : Int32) (0 : Int64) (0 : Int32) (0 : Int32) (0 : Int32) T115.heap n0 Z115 ⟨u116_0, u116_1, u116_2, u116_3, u116_4, u116_5, u116_6, u116_7, u116_8, u116_9, u116_10, u116_11, u116_12, u116_13⟩ hNE hGE own_mg8 own_mg8 own_mg8 own_mg8) (by decide) (by decide) u116_0 (g := (mkF m 45 #[iv p1, iv p2, iv p3, iv p4, iv W0, iv W1, iv B0, iv B1, rv b105, u_, u_, u_, u_, u_, u_, u_, u_, u_, u_] [(.ref b105)])) rfl (by rw [hml]; rfl) (argsL := []) (rest := []) rfl (lenOf own_pd1 rfl) rfl (by show 2 * 0 + _ ≤ _; exact Nat.le_of_eq rfl) (hb hby at_45) rfl (by decide) (by decide)
        obtain ⟨rfl, Nq117, Kq117, hq117⟩ := hQ117
        have N117 := Fr.app N115 Nq117
        have Z117 := Nat.le_trans Z115 Kq117.1
        obtain ⟨u118_0, u118_1, u118_2, u118_3, u118_4, u118_5, u118_6, u118_7, u118_8, u118_9, u118_10, u118_11, u118_12, u118_13⟩ := id hq117
        refine own_s T117 (mkF m 48 #[iv p1, iv p2, iv p3, iv p4, iv W0, iv W1, iv B0, iv B1, rv b105, u_, u_, u_, u_, u_, u_, u_, u_, u_, u_] []) st117 ?_
        refine own_s T117 (mkF m 53 #[iv p1, iv p2, iv p3, iv p4, iv W0, iv W1, iv B0, iv B1, rv b105, u_, u_, u_, u_, u_, u_, u_, u_, u_, u_] [(.int W0), (.int 0), (.ref b105)]) (fun _ k => XS.aload X117.here hx rfl (hb hby at_48) rfl rfl (XS.iconst X117.here hx rfl (hb hby at_50) (XS.iload X117.here hx rfl (hb hby at_51) rfl  k))) ?_
        have mg119 := (own_m8 hW0)
        refine own_s T117 (mkF m 56 #[iv p1, iv p2, iv p3, iv p4, iv W0, iv W1, iv B0, iv B1, rv b105, u_, u_, u_, u_, u_, u_, u_, u_, u_, u_] [(.int B0), (.double (FP.l2d W0.toInt64)), (.int 0), (.ref b105)]) (fun _ k => XS.i2dS X117.here hx rfl (hb hby at_53) rfl (i2d_w _) (XS.iload X117.here hx rfl (hb hby at_54) rfl  k)) ?_
        have mg120 := (own_m8 hB0)
        refine own_s T117 (mkF m 57 #[iv p1, iv p2, iv p3, iv p4, iv W0, iv W1, iv B0, iv B1, rv b105, u_, u_, u_, u_, u_, u_, u_, u_, u_, u_] [(.double (FP.l2d B0.toInt64)), (.double (FP.l2d W0.toInt64)), (.int 0), (.ref b105)]) (fun _ k => XS.i2dS X117.here hx rfl (hb hby at_56) rfl (i2d_w _) k) ?_
        obtain ⟨v121, T121, L121, X121, hQ121, st121⟩ := own_callV X117 hx hZ (y := own_y5) (z := own_y5) (W := 0) (a := b105) hown (own_h hw 40 rfl) (own_h hw 41 rfl) (notFace_of_selects (args := #[]) (mvT hZ (own_h hw 43 rfl))) (own_h hw 43 rfl) (own_h hw 42 rfl) (own_h hw 2 rfl) (own_h hw 44 rfl) (by decide) (own_rma0T l Z a0 hw [] b105 wA115 bA115 sA115 hA115 kw115 kb115 ks115 kh115 p1 0 0 0 0 (0 : Int64) (0 : Int64) (0 : Int32) (0 : Int32) ((0 : Int64) + (1 : Int64)) (0 : Int32) (-1 : Int32) W0.toInt64 B0.toInt64 T117.heap n0 Z117 ⟨u118_0, u118_1, u118_2, u118_3, u118_4, u118_5, u118_6, u118_7, u118_8, u118_9, u118_10, u118_11, u118_12, u118_13⟩ hNE hGE own_mg8 own_mg8 own_mg8 own_mg8 mg119 mg120 (own_p64 hb0)) (by decide) (by decide) u118_0 (g := (mkF m 57 #[iv p1, iv p2, iv p3, iv p4, iv W0, iv W1, iv B0, iv B1, rv b105, u_, u_, u_, u_, u_, u_, u_, u_, u_, u_] [(.double (FP.l2d B0.toInt64)), (.double (FP.l2d W0.toInt64)), (.int 0), (.ref b105)])) rfl (by rw [hml]; rfl) (argsL := [(.int 0), (.double (FP.l2d W0.toInt64)), (.double (FP.l2d B0.toInt64))]) (rest := []) rfl (lenOf own_pd4 rfl) rfl (by show 2 * 0 + _ ≤ _; exact Nat.le_of_eq rfl) (hb hby at_57) rfl (by decide) (by decide)
        obtain ⟨rfl, Nq121, Kq121, hq121⟩ := hQ121
        have N121 := Fr.app N117 Nq121
        have Z121 := Nat.le_trans Z117 Kq121.1
        obtain ⟨u122_0, u122_1, u122_2, u122_3, u122_4, u122_5, u122_6, u122_7, u122_8, u122_9, u122_10, u122_11, u122_12, u122_13⟩ := id hq121
        refine own_s T121 (mkF m 60 #[iv p1, iv p2, iv p3, iv p4, iv W0, iv W1, iv B0, iv B1, rv b105, u_, u_, u_, u_, u_, u_, u_, u_, u_, u_] []) st121 ?_
        refine own_s T121 (mkF m 65 #[iv p1, iv p2, iv p3, iv p4, iv W0, iv W1, iv B0, iv B1, rv b105, u_, u_, u_, u_, u_, u_, u_, u_, u_, u_] [(.int W1), (.int 1), (.ref b105)]) (fun _ k => XS.aload X121.here hx rfl (hb hby at_60) rfl rfl (XS.iconst X121.here hx rfl (hb hby at_62) (XS.iload X121.here hx rfl (hb hby at_63) rfl  k))) ?_
        have mg123 := (own_m8 hW1)
        refine own_s T121 (mkF m 68 #[iv p1, iv p2, iv p3, iv p4, iv W0, iv W1, iv B0, iv B1, rv b105, u_, u_, u_, u_, u_, u_, u_, u_, u_, u_] [(.int B1), (.double (FP.l2d W1.toInt64)), (.int 1), (.ref b105)]) (fun _ k => XS.i2dS X121.here hx rfl (hb hby at_65) rfl (i2d_w _) (XS.iload X121.here hx rfl (hb hby at_66) rfl  k)) ?_
        have mg124 := (own_m8 hB1)
        refine own_s T121 (mkF m 69 #[iv p1, iv p2, iv p3, iv p4, iv W0, iv W1, iv B0, iv B1, rv b105, u_, u_, u_, u_, u_, u_, u_, u_, u_, u_] [(.double (FP.l2d B1.toInt64)), (.double (FP.l2d W1.toInt64)), (.int 1), (.ref b105)]) (fun _ k => XS.i2dS X121.here hx rfl (hb hby at_68) rfl (i2d_w _) k) ?_
        obtain ⟨v125, T125, L125, X125, hQ125, st125⟩ := own_callV X121 hx hZ (y := own_y5) (z := own_y5) (W := 0) (a := b105) hown (own_h hw 40 rfl) (own_h hw 41 rfl) (notFace_of_selects (args := #[]) (mvT hZ (own_h hw 43 rfl))) (own_h hw 43 rfl) (own_h hw 42 rfl) (own_h hw 2 rfl) (own_h hw 44 rfl) (by decide) (own_rma1F l Z a0 hw [] b105 wA115 bA115 sA115 hA115 kw115 kb115 ks115 kh115 p1 W0.toInt64 0 B0.toInt64 0 (((0 : Int64) + (1 : Int64)) - (1 : Int64)) (0 : Int64) (0 : Int32) (0 : Int32) ((0 : Int64) + (1 : Int64)) (0 : Int32) (-1 : Int32) (1 : Int32) W1.toInt64 B1.toInt64 T121.heap n0 Z121 ⟨u122_0, u122_1, u122_2, u122_3, u122_4, u122_5, u122_6, u122_7, u122_8, u122_9, u122_10, u122_11, u122_12, u122_13⟩ hNE hGE mg119 own_mg8 mg120 own_mg8 mg123 mg124 (own_n64 hb1)) (by decide) (by decide) u122_0 (g := (mkF m 69 #[iv p1, iv p2, iv p3, iv p4, iv W0, iv W1, iv B0, iv B1, rv b105, u_, u_, u_, u_, u_, u_, u_, u_, u_, u_] [(.double (FP.l2d B1.toInt64)), (.double (FP.l2d W1.toInt64)), (.int 1), (.ref b105)])) rfl (by rw [hml]; rfl) (argsL := [(.int 1), (.double (FP.l2d W1.toInt64)), (.double (FP.l2d B1.toInt64))]) (rest := []) rfl (lenOf own_pd4 rfl) rfl (by show 2 * 0 + _ ≤ _; exact Nat.le_of_eq rfl) (hb hby at_69) rfl (by decide) (by decide)
        obtain ⟨rfl, Nq125, Kq125, hq125⟩ := hQ125
        have N125 := Fr.app N121 Nq125
        have Z125 := Nat.le_trans Z121 Kq125.1
        obtain ⟨u126_0, u126_1, u126_2, u126_3, u126_4, u126_5, u126_6, u126_7, u126_8, u126_9, u126_10, u126_11, u126_12, u126_13⟩ := id hq125
        refine own_s T125 (mkF m 72 #[iv p1, iv p2, iv p3, iv p4, iv W0, iv W1, iv B0, iv B1, rv b105, u_, u_, u_, u_, u_, u_, u_, u_, u_, u_] []) st125 ?_
        refine own_s T125 (mkF m 84 #[iv p1, iv p2, iv p3, iv p4, iv W0, iv W1, iv B0, iv B1, rv b105, u_, u_, u_, u_, u_, u_, u_, u_, u_, u_] [(.int B1), (.int 1)]) (fun _ k => XS.iload X125.here hx rfl (hb hby at_72) rfl  (XS.ifNo X125.here hx rfl (hb hby at_74) rfl ((if0 _ _).trans (tlt hb0).2.2.2) (XS.iconst X125.here hx rfl (hb hby at_77) (XS.goto X125.here hx rfl (pc0 := 78) (pc' := 82) rfl (hb hby at_78) (by decide) (by decide) (XS.iload X125.here hx rfl (hb hby at_82) rfl  k))))) ?_
        refine own_s T125 (mkF m 97 #[iv p1, iv p2, iv p3, iv p4, iv W0, iv W1, iv B0, iv B1, rv b105, iv 1, u_, u_, u_, u_, u_, u_, u_, u_, u_] [(.ref b105)]) (fun _ k => XS.ifYes X125.here hx rfl (pc0 := 84) (pc' := 91) rfl (hb hby at_84) rfl ((if0 _ _).trans (flt hb1).2.2.2) (by decide) (by decide) (XS.iconst X125.here hx rfl (hb hby at_91) (XS.iadd X125.here hx rfl (hb hby at_92) rfl (XS.istore X125.here hx rfl (hb hby at_93) rfl (l' := #[iv p1, iv p2, iv p3, iv p4, iv W0, iv W1, iv B0, iv B1, rv b105, iv 1, u_, u_, u_, u_, u_, u_, u_, u_, u_]) rfl (XS.aload X125.here hx rfl (hb hby at_95) rfl rfl k))))) ?_
        obtain ⟨v127, T127, L127, X127, hQ127, st127⟩ := own_callV X125 hx hZ (y := own_y7) (z := own_y7) (W := 0) (a := b105) hown (own_h hw 45 rfl) (own_h hw 46 rfl) (notFace_of_selects (args := #[]) (mvT hZ (own_h hw 48 rfl))) (own_h hw 48 rfl) (own_h hw 47 rfl) (own_h hw 2 rfl) (own_h hw 49 rfl) (by decide) (own_rmdc0 l Z a0 hw [] b105 wA115 bA115 sA115 hA115 kw115 kb115 ks115 kh115 p1 W0.toInt64 W1.toInt64 B0.toInt64 B1.toInt64 (((0 : Int64) + (1 : Int64)) - (1 : Int64)) (((0 : Int64) + (1 : Int64)) - (1 : Int64)) (0 : Int32) ((0 : Int64) + (1 : Int64)) (0 : Int32) (-1 : Int32) (1 : Int32) T125.heap n0 Z125 ⟨u126_0, u126_1, u126_2, u126_3, u126_4, u126_5, u126_6, u126_7, u126_8, u126_9, u126_10, u126_11, u126_12, u126_13⟩) (by decide) (by decide) u126_0 (g := (mkF m 97 #[iv p1, iv p2, iv p3, iv p4, iv W0, iv W1, iv B0, iv B1, rv b105, iv 1, u_, u_, u_, u_, u_, u_, u_, u_, u_] [(.ref b105)])) rfl (by rw [hml]; rfl) (argsL := []) (rest := []) rfl (lenOf own_pd5 rfl) rfl (by show 2 * 0 + _ ≤ _; exact Nat.le_of_eq rfl) (hb hby at_97) rfl (by decide) (by decide)
        obtain ⟨rfl, Nq127, e127⟩ := hQ127
        have N127 := Fr.app N125 Nq127
        refine own_s T127 (mkF m 100 #[iv p1, iv p2, iv p3, iv p4, iv W0, iv W1, iv B0, iv B1, rv b105, iv 1, u_, u_, u_, u_, u_, u_, u_, u_, u_] [(.int (own_b (own_dc (1 : Int32) (((0 : Int64) + (1 : Int64)) - (1 : Int64)) ((0 : Int64) + (1 : Int64)) (0 : Int32) p1 (-1 : Int32))))]) st127 ?_
        refine own_s T127 (mkF m 114 #[iv p1, iv p2, iv p3, iv p4, iv W0, iv W1, iv B0, iv B1, rv b105, iv 1, u_, u_, u_, u_, u_, u_, u_, u_, u_] [(.int 1)]) (fun _ k => XS.iload X127.here hx rfl (hb hby at_100) rfl  (XS.ifYes X127.here hx rfl (pc0 := 102) (pc' := 109) rfl (hb hby at_102) rfl ((if0 _ _).trans (feq (by decide : ¬ ((1 : Int32) = (0 : Int32)))).2) (by decide) (by decide) (XS.iconst X127.here hx rfl (hb hby at_109) (XS.icmpNo X127.here hx rfl (hb hby at_110) rfl (teq (by simp +decide [own_dc, own_b])).2 (XS.iconst X127.here hx rfl (hb hby at_113) k))))) ?_
        refine own_s T127 (mkF m 126 #[iv p1, iv p2, iv p3, iv p4, iv W0, iv W1, iv B0, iv B1, rv b105, iv 1, iv 1, iv 1, u_, u_, u_, u_, u_, u_, u_] [(.int 1)]) (fun _ k => XS.goto X127.here hx rfl (pc0 := 114) (pc' := 118) rfl (hb hby at_114) (by decide) (by decide) (XS.istore X127.here hx rfl (hb hby at_118) rfl (l' := #[iv p1, iv p2, iv p3, iv p4, iv W0, iv W1, iv B0, iv B1, rv b105, iv 1, iv 1, u_, u_, u_, u_, u_, u_, u_, u_]) rfl (XS.iload X127.here hx rfl (hb hby at_120) rfl  (XS.istore X127.here hx rfl (hb hby at_122) rfl (l' := #[iv p1, iv p2, iv p3, iv p4, iv W0, iv W1, iv B0, iv B1, rv b105, iv 1, iv 1, iv 1, u_, u_, u_, u_, u_, u_, u_]) rfl (XS.iload X127.here hx rfl (hb hby at_124) rfl  k))))) ?_
        refine own_s T127 (mkF m 163 #[iv p1, iv p2, iv p3, iv p4, iv W0, iv W1, iv B0, iv B1, rv b105, iv 1, iv 1, iv 1, u_, u_, u_, u_, u_, u_, u_] []) (fun _ k => XS.ifNo X127.here hx rfl (hb hby at_126) rfl ((if0 _ _).trans (tlt (by decide : ((0 : Int32) < (1 : Int32)))).2.2.2) (XS.iload X127.here hx rfl (hb hby at_129) rfl  (XS.ifNo X127.here hx rfl (hb hby at_131) rfl ((if0 _ _).trans (tlt hb0).2.2.2) (XS.iload X127.here hx rfl (hb hby at_134) rfl  (XS.ifYes X127.here hx rfl (pc0 := 136) (pc' := 163) rfl (hb hby at_136) rfl ((if0 _ _).trans (flt hb1).2.2.2) (by decide) (by decide) k))))) ?_
        refine own_s T127 (mkF m 175 #[iv p1, iv p2, iv p3, iv p4, iv W0, iv W1, iv B0, iv B1, rv b105, iv 1, iv 1, iv 1, iv 0, u_, u_, u_, u_, u_, u_] []) (fun _ k => XS.iload X127.here hx rfl (hb hby at_163) rfl  (XS.ifNo X127.here hx rfl (hb hby at_165) rfl ((if0 _ _).trans (tlt hb0).2.2.2) (XS.iconst X127.here hx rfl (hb hby at_168) (XS.goto X127.here hx rfl (pc0 := 169) (pc' := 173) rfl (hb hby at_169) (by decide) (by decide) (XS.istore X127.here hx rfl (hb hby at_173) rfl (l' := #[iv p1, iv p2, iv p3, iv p4, iv W0, iv W1, iv B0, iv B1, rv b105, iv 1, iv 1, iv 1, iv 0, u_, u_, u_, u_, u_, u_]) rfl k))))) ?_
        refine own_s T127 (mkF m 189 #[iv p1, iv p2, iv p3, iv p4, iv W0, iv W1, iv B0, iv B1, rv b105, iv 1, iv 1, iv 1, iv 0, iv B0, u_, u_, u_, u_, u_] []) (fun _ k => XS.iload X127.here hx rfl (hb hby at_175) rfl  (XS.ifNo X127.here hx rfl (hb hby at_177) rfl ((if0 _ _).trans (teq (by decide : ((0 : Int32) = (0 : Int32)))).2) (XS.iload X127.here hx rfl (hb hby at_180) rfl  (XS.goto X127.here hx rfl (pc0 := 182) (pc' := 187) rfl (hb hby at_182) (by decide) (by decide) (XS.istore X127.here hx rfl (hb hby at_187) rfl (l' := #[iv p1, iv p2, iv p3, iv p4, iv W0, iv W1, iv B0, iv B1, rv b105, iv 1, iv 1, iv 1, iv 0, iv B0, u_, u_, u_, u_, u_]) rfl k))))) ?_
        refine own_s T127 (mkF m 195 #[iv p1, iv p2, iv p3, iv p4, iv W0, iv W1, iv B0, iv B1, rv b105, iv 1, iv 1, iv 1, iv 0, iv B0, u_, u_, u_, u_, u_] [(.int ((p4 &&& (7 : Int32)) - (2 : Int32)))]) (fun _ k => XS.iloadN X127.here hx rfl (hb hby at_189) rfl  (XS.bipush X127.here hx rfl (hb hby at_190) (XS.iand X127.here hx rfl (hb hby at_192) rfl (XS.iconst X127.here hx rfl (hb hby at_193) (XS.isub X127.here hx rfl (hb hby at_194) rfl k))))) ?_
        refine own_s T127 (mkF m 197 #[iv p1, iv p2, iv p3, iv p4, iv W0, iv W1, iv B0, iv B1, rv b105, iv 1, iv 1, iv 1, iv 0, iv B0, u_, u_, u_, u_, u_] [(.int B0), (.int ((p4 &&& (7 : Int32)) - (2 : Int32)))]) (fun _ k => XS.iload X127.here hx rfl (hb hby at_195) rfl  k) ?_
        obtain ⟨v128, T128, L128, X128, hQ128, st128⟩ := own_callS X127 hx hZ (y := own_y10) (W := 0) hown (own_h hw 55 rfl) (own_h hw 56 rfl) (own_h hw 57 rfl) (own_h hw 58 rfl) (by decide) (own_rmmn l Z a0 hw [] ((p4 &&& (7 : Int32)) - (2 : Int32)) B0 T125.heap n0 Z125) (by decide) (by decide) (g := (mkF m 197 #[iv p1, iv p2, iv p3, iv p4, iv W0, iv W1, iv B0, iv B1, rv b105, iv 1, iv 1, iv 1, iv 0, iv B0, u_, u_, u_, u_, u_] [(.int B0), (.int ((p4 &&& (7 : Int32)) - (2 : Int32)))])) rfl (by rw [hml]; rfl) (argsL := [(.int ((p4 &&& (7 : Int32)) - (2 : Int32))), (.int B0)]) (rest := []) rfl (lenOf own_pd7 rfl) rfl (by show 2 * 0 + _ ≤ _; exact Nat.le_of_eq rfl) (hb hby at_197) e127 (by decide) (by decide)
        obtain ⟨rfl, Nq128, e128⟩ := hQ128
        have N128 := Fr.app N127 Nq128
        refine own_s T128 (mkF m 200 #[iv p1, iv p2, iv p3, iv p4, iv W0, iv W1, iv B0, iv B1, rv b105, iv 1, iv 1, iv 1, iv 0, iv B0, u_, u_, u_, u_, u_] [(.int (own_mn ((p4 &&& (7 : Int32)) - (2 : Int32)) B0))]) st128 ?_
        refine own_s T128 (mkF m 202 #[iv p1, iv p2, iv p3, iv p4, iv W0, iv W1, iv B0, iv B1, rv b105, iv 1, iv 1, iv 1, iv 0, iv B0, iv (own_mn ((p4 &&& (7 : Int32)) - (2 : Int32)) B0), u_, u_, u_, u_] []) (fun _ k => XS.istore X128.here hx rfl (hb hby at_200) rfl (l' := #[iv p1, iv p2, iv p3, iv p4, iv W0, iv W1, iv B0, iv B1, rv b105, iv 1, iv 1, iv 1, iv 0, iv B0, iv (own_mn ((p4 &&& (7 : Int32)) - (2 : Int32)) B0), u_, u_, u_, u_]) rfl k) ?_
        obtain ⟨CC, eCC, hCC⟩ : ∃ z, z = (own_mn ((p4 &&& (7 : Int32)) - (2 : Int32)) B0) ∧ own_rg (-8) 8 z := ⟨_, rfl, own_mnR hB0⟩
        rw [← eCC]
        by_cases hc : (0 : Int32) < CC
        · have kk_hc := hc
          refine own_s T128 (mkF m 206 #[iv p1, iv p2, iv p3, iv p4, iv W0, iv W1, iv B0, iv B1, rv b105, iv 1, iv 1, iv 1, iv 0, iv B0, iv CC, u_, u_, u_, u_] [(.int CC), (.ref b105)]) (fun _ k => XS.aload X128.here hx rfl (hb hby at_202) rfl rfl (XS.iload X128.here hx rfl (hb hby at_204) rfl  k)) ?_
          have mg129 := (own_m8 hCC)
          refine own_s T128 (mkF m 207 #[iv p1, iv p2, iv p3, iv p4, iv W0, iv W1, iv B0, iv B1, rv b105, iv 1, iv 1, iv 1, iv 0, iv B0, iv CC, u_, u_, u_, u_] [(.double (FP.l2d CC.toInt64)), (.ref b105)]) (fun _ k => XS.i2dS X128.here hx rfl (hb hby at_206) rfl (i2d_w _) k) ?_
          obtain ⟨v130, T130, L130, X130, hQ130, st130⟩ := own_callV X128 hx hZ (y := own_y6) (z := own_y6) (W := 0) (a := b105) hown (own_h hw 59 rfl) (own_h hw 60 rfl) (notFace_of_selects (args := #[]) (mvT hZ (own_h hw 62 rfl))) (own_h hw 62 rfl) (own_h hw 61 rfl) (own_h hw 2 rfl) (own_h hw 63 rfl) (by decide) (own_rmre01P l Z a0 hw [] b105 wA115 bA115 sA115 hA115 kw115 kb115 ks115 kh115 p1 W0.toInt64 W1.toInt64 B0.toInt64 B1.toInt64 (((0 : Int64) + (1 : Int64)) - (1 : Int64)) (((0 : Int64) + (1 : Int64)) - (1 : Int64)) (0 : Int32) ((0 : Int64) + (1 : Int64)) (0 : Int32) CC.toInt64 T125.heap n0 Z125 ⟨u126_0, u126_1, u126_2, u126_3, u126_4, u126_5, u126_6, u126_7, u126_8, u126_9, u126_10, u126_11, u126_12, u126_13⟩ hNE hGE mg119 mg123 mg120 mg124 mg129 (own_p64 hc)) (by decide) (by decide) u126_0 (g := (mkF m 207 #[iv p1, iv p2, iv p3, iv p4, iv W0, iv W1, iv B0, iv B1, rv b105, iv 1, iv 1, iv 1, iv 0, iv B0, iv CC, u_, u_, u_, u_] [(.double (FP.l2d CC.toInt64)), (.ref b105)])) rfl (by rw [hml]; rfl) (argsL := [(.double (FP.l2d CC.toInt64))]) (rest := []) rfl (lenOf own_pd8 rfl) rfl (by show 2 * 0 + _ ≤ _; exact Nat.le_of_eq rfl) (hb hby at_207) e128 (by decide) (by decide)
          obtain ⟨rfl, Nq130, Kq130, hq130⟩ := hQ130
          have N130 := Fr.app N128 Nq130
          have Z130 := Nat.le_trans Z125 Kq130.1
          obtain ⟨u131_0, u131_1, u131_2, u131_3, u131_4, u131_5, u131_6, u131_7, u131_8, u131_9, u131_10, u131_11, u131_12, u131_13⟩ := id hq130
          refine own_s T130 (mkF m 210 #[iv p1, iv p2, iv p3, iv p4, iv W0, iv W1, iv B0, iv B1, rv b105, iv 1, iv 1, iv 1, iv 0, iv B0, iv CC, u_, u_, u_, u_] []) st130 ?_
          refine own_s T130 (mkF m 221 #[iv p1, iv p2, iv p3, iv p4, iv W0, iv W1, iv B0, iv B1, rv b105, iv 1, iv 1, iv 1, iv 0, iv B0, iv CC, u_, u_, u_, u_] []) (fun _ k => XS.iload X130.here hx rfl (hb hby at_210) rfl  (XS.ifNo X130.here hx rfl (hb hby at_212) rfl ((if0 _ _).trans (tlt hc).2.2.2) (XS.iload X130.here hx rfl (hb hby at_215) rfl  (XS.iconst X130.here hx rfl (hb hby at_217) (XS.icmpNo X130.here hx rfl (hb hby at_218) rfl (teq (by decide : ((1 : Int32) = (1 : Int32)))).2 k))))) ?_
          refine own_s T130 (mkF m 322 #[iv p1, iv p2, iv p3, iv p4, iv W0, iv W1, iv B0, iv B1, rv b105, iv 1, iv 1, iv 1, iv 0, iv B0, iv CC, iv 1, u_, u_, u_] []) (fun _ k => XS.iconst X130.here hx rfl (hb hby at_221) (XS.istore X130.here hx rfl (hb hby at_222) rfl (l' := #[iv p1, iv p2, iv p3, iv p4, iv W0, iv W1, iv B0, iv B1, rv b105, iv 1, iv 1, iv 1, iv 0, iv B0, iv CC, iv 1, u_, u_, u_]) rfl (XS.goto X130.here hx rfl (pc0 := 224) (pc' := 317) rfl (hb hby at_224) (by decide) (by decide) (XS.iload X130.here hx rfl (hb hby at_317) rfl  (XS.ifNo X130.here hx rfl (hb hby at_319) rfl ((if0 _ _).trans (feq (by decide : ¬ ((1 : Int32) = (0 : Int32)))).1) k))))) ?_
          refine own_s T130 (mkF m 324 #[iv p1, iv p2, iv p3, iv p4, iv W0, iv W1, iv B0, iv B1, rv b105, iv 1, iv 1, iv 1, iv 0, iv B0, iv CC, iv 1, u_, u_, u_] [(.ref b105)]) (fun _ k => XS.aload X130.here hx rfl (hb hby at_322) rfl rfl k) ?_
          obtain ⟨v132, T132, L132, X132, hQ132, st132⟩ := own_callV X130 hx hZ (y := own_y7) (z := own_y7) (W := 0) (a := b105) hown (own_h hw 45 rfl) (own_h hw 46 rfl) (notFace_of_selects (args := #[]) (mvT hZ (own_h hw 48 rfl))) (own_h hw 48 rfl) (own_h hw 47 rfl) (own_h hw 2 rfl) (own_h hw 49 rfl) (by decide) (own_rmdc0 l Z a0 hw [] b105 wA115 bA115 sA115 hA115 kw115 kb115 ks115 kh115 p1 W0.toInt64 W1.toInt64 CC.toInt64 B1.toInt64 ((0 : Int64) + (1 : Int64)) (((0 : Int64) + (1 : Int64)) - (1 : Int64)) (0 : Int32) ((0 : Int64) + (1 : Int64)) ((0 : Int32) + (1 : Int32)) (0 : Int32) (1 : Int32) T130.heap n0 Z130 ⟨u131_0, u131_1, u131_2, u131_3, u131_4, u131_5, u131_6, u131_7, u131_8, u131_9, u131_10, u131_11, u131_12, u131_13⟩) (by decide) (by decide) u131_0 (g := (mkF m 324 #[iv p1, iv p2, iv p3, iv p4, iv W0, iv W1, iv B0, iv B1, rv b105, iv 1, iv 1, iv 1, iv 0, iv B0, iv CC, iv 1, u_, u_, u_] [(.ref b105)])) rfl (by rw [hml]; rfl) (argsL := []) (rest := []) rfl (lenOf own_pd5 rfl) rfl (by show 2 * 0 + _ ≤ _; exact Nat.le_of_eq rfl) (hb hby at_324) rfl (by decide) (by decide)
          obtain ⟨rfl, Nq132, e132⟩ := hQ132
          have N132 := Fr.app N130 Nq132
          refine own_s T132 (mkF m 327 #[iv p1, iv p2, iv p3, iv p4, iv W0, iv W1, iv B0, iv B1, rv b105, iv 1, iv 1, iv 1, iv 0, iv B0, iv CC, iv 1, u_, u_, u_] [(.int (own_b (own_dc (1 : Int32) ((0 : Int64) + (1 : Int64)) ((0 : Int64) + (1 : Int64)) ((0 : Int32) + (1 : Int32)) p1 (0 : Int32))))]) st132 ?_
          refine own_s T132 (mkF m 339 #[iv p1, iv p2, iv p3, iv p4, iv W0, iv W1, iv B0, iv B1, rv b105, iv 1, iv 1, iv 1, iv 0, iv B0, iv CC, iv 1, u_, u_, u_] []) (fun _ k => XS.iload X132.here hx rfl (hb hby at_327) rfl  (XS.icmpNo X132.here hx rfl (hb hby at_329) rfl (teq (by simp +decide [own_dc, own_b])).2 (XS.iconst X132.here hx rfl (hb hby at_332) (XS.goto X132.here hx rfl (pc0 := 333) (pc' := 337) rfl (hb hby at_333) (by decide) (by decide) (XS.istore X132.here hx rfl (hb hby at_337) rfl (l' := #[iv p1, iv p2, iv p3, iv p4, iv W0, iv W1, iv B0, iv B1, rv b105, iv 1, iv 1, iv 1, iv 0, iv B0, iv CC, iv 1, u_, u_, u_]) rfl k))))) ?_
          refine own_s T132 (mkF m 341 #[iv p1, iv p2, iv p3, iv p4, iv W0, iv W1, iv B0, iv B1, rv b105, iv 1, iv 1, iv 1, iv 0, iv B0, iv CC, iv 1, u_, u_, u_] [(.ref b105)]) (fun _ k => XS.aload X132.here hx rfl (hb hby at_339) rfl rfl k) ?_
          obtain ⟨v133, T133, L133, X133, hQ133, st133⟩ := own_callV X132 hx hZ (y := own_y3) (z := own_y3) (W := 0) (a := b105) hown (own_h hw 50 rfl) (own_h hw 28 rfl) (notFace_of_selects (args := #[]) (mvT hZ (own_h hw 30 rfl))) (own_h hw 30 rfl) (own_h hw 29 rfl) (own_h hw 2 rfl) (own_h hw 31 rfl) (by decide) (own_rmfo l Z a0 hw [] b105 wA115 bA115 sA115 hA115 kw115 kb115 ks115 kh115 p1 W0.toInt64 W1.toInt64 CC.toInt64 B1.toInt64 ((0 : Int64) + (1 : Int64)) (((0 : Int64) + (1 : Int64)) - (1 : Int64)) (0 : Int32) (0 : Int32) ((0 : Int64) + (1 : Int64)) ((0 : Int32) + (1 : Int32)) (0 : Int32) (1 : Int32) T130.heap n0 Z130 ⟨u131_0, u131_1, u131_2, u131_3, u131_4, u131_5, u131_6, u131_7, u131_8, u131_9, u131_10, u131_11, u131_12, u131_13⟩ hNE hGE mg119 mg123 mg129 mg124) (by decide) (by decide) u131_0 (g := (mkF m 341 #[iv p1, iv p2, iv p3, iv p4, iv W0, iv W1, iv B0, iv B1, rv b105, iv 1, iv 1, iv 1, iv 0, iv B0, iv CC, iv 1, u_, u_, u_] [(.ref b105)])) rfl (by rw [hml]; rfl) (argsL := []) (rest := []) rfl (lenOf own_pd1 rfl) rfl (by show 2 * 0 + _ ≤ _; exact Nat.le_of_eq rfl) (hb hby at_341) e132 (by decide) (by decide)
          obtain ⟨rfl, Nq133, Kq133, hq133⟩ := hQ133
          have N133 := Fr.app N132 Nq133
          have Z133 := Nat.le_trans Z130 Kq133.1
          obtain ⟨u134_0, u134_1, u134_2, u134_3, u134_4, u134_5, u134_6, u134_7, u134_8, u134_9, u134_10, u134_11, u134_12, u134_13⟩ := id hq133
          refine own_s T133 (mkF m 344 #[iv p1, iv p2, iv p3, iv p4, iv W0, iv W1, iv B0, iv B1, rv b105, iv 1, iv 1, iv 1, iv 0, iv B0, iv CC, iv 1, u_, u_, u_] []) st133 ?_
          refine own_s T133 (mkF m 351 #[iv p1, iv p2, iv p3, iv p4, iv W0, iv W1, iv B0, iv B1, rv b105, iv 1, iv 1, iv 1, iv 0, iv B0, iv CC, iv 1, u_, u_, u_] [(.ref b105)]) (fun _ k => XS.iload X133.here hx rfl (hb hby at_344) rfl  (XS.ifNo X133.here hx rfl (hb hby at_346) rfl ((if0 _ _).trans (feq (by decide : ¬ ((1 : Int32) = (0 : Int32)))).1) (XS.aload X133.here hx rfl (hb hby at_349) rfl rfl k))) ?_
          obtain ⟨v135, T135, L135, X135, hQ135, st135⟩ := own_callV X133 hx hZ (y := own_y7) (z := own_y7) (W := 0) (a := b105) hown (own_h hw 45 rfl) (own_h hw 46 rfl) (notFace_of_selects (args := #[]) (mvT hZ (own_h hw 48 rfl))) (own_h hw 48 rfl) (own_h hw 47 rfl) (own_h hw 2 rfl) (own_h hw 49 rfl) (by decide) (own_rmdc0 l Z a0 hw [] b105 wA115 bA115 sA115 hA115 kw115 kb115 ks115 kh115 p1 W0.toInt64 W1.toInt64 CC.toInt64 B1.toInt64 ((0 : Int64) + (1 : Int64)) (((0 : Int64) + (1 : Int64)) - (1 : Int64)) (0 : Int32) (((0 : Int64) + (1 : Int64)) + (1 : Int64)) (0 : Int32) (-1 : Int32) (1 : Int32) T133.heap n0 Z133 ⟨u134_0, u134_1, u134_2, u134_3, u134_4, u134_5, u134_6, u134_7, u134_8, u134_9, u134_10, u134_11, u134_12, u134_13⟩) (by decide) (by decide) u134_0 (g := (mkF m 351 #[iv p1, iv p2, iv p3, iv p4, iv W0, iv W1, iv B0, iv B1, rv b105, iv 1, iv 1, iv 1, iv 0, iv B0, iv CC, iv 1, u_, u_, u_] [(.ref b105)])) rfl (by rw [hml]; rfl) (argsL := []) (rest := []) rfl (lenOf own_pd5 rfl) rfl (by show 2 * 0 + _ ≤ _; exact Nat.le_of_eq rfl) (hb hby at_351) rfl (by decide) (by decide)
          obtain ⟨rfl, Nq135, e135⟩ := hQ135
          have N135 := Fr.app N133 Nq135
          refine own_s T135 (mkF m 354 #[iv p1, iv p2, iv p3, iv p4, iv W0, iv W1, iv B0, iv B1, rv b105, iv 1, iv 1, iv 1, iv 0, iv B0, iv CC, iv 1, u_, u_, u_] [(.int (own_b (own_dc (1 : Int32) ((0 : Int64) + (1 : Int64)) (((0 : Int64) + (1 : Int64)) + (1 : Int64)) (0 : Int32) p1 (-1 : Int32))))]) st135 ?_
          refine own_s T135 (mkF m 368 #[iv p1, iv p2, iv p3, iv p4, iv W0, iv W1, iv B0, iv B1, rv b105, iv 1, iv 1, iv 1, iv 0, iv B0, iv CC, iv 1, u_, u_, u_] [(.int 1)]) (fun _ k => XS.iload X135.here hx rfl (hb hby at_354) rfl  (XS.ifYes X135.here hx rfl (pc0 := 356) (pc' := 363) rfl (hb hby at_356) rfl ((if0 _ _).trans (feq (by decide : ¬ ((1 : Int32) = (0 : Int32)))).2) (by decide) (by decide) (XS.iconst X135.here hx rfl (hb hby at_363) (XS.icmpNo X135.here hx rfl (hb hby at_364) rfl (teq (by simp +decide [own_dc, own_b])).2 (XS.iconst X135.here hx rfl (hb hby at_367) k))))) ?_
          refine own_s T135 (mkF m 372 #[iv p1, iv p2, iv p3, iv p4, iv W0, iv W1, iv B0, iv B1, rv b105, iv 1, iv 1, iv 1, iv 0, iv B0, iv CC, iv 1, u_, u_, u_] [(.int 1)]) (fun _ k => XS.goto X135.here hx rfl (pc0 := 368) (pc' := 372) rfl (hb hby at_368) (by decide) (by decide) k) ?_
          exact own_finZ X135 hx (t := .boolean) hret (by simp) (z' := (1 : Int32)) rfl (hb hby at_372) (own_end (Qv := (own_Q0 Z p1 p2 p3 p4 h0 n0)) X135 (own_some hret) hlk (by decide) (by decide) e135 ⟨rfl, N135⟩)
        · have kk_hc := hc
          refine own_s T128 (mkF m 206 #[iv p1, iv p2, iv p3, iv p4, iv W0, iv W1, iv B0, iv B1, rv b105, iv 1, iv 1, iv 1, iv 0, iv B0, iv CC, u_, u_, u_, u_] [(.int CC), (.ref b105)]) (fun _ k => XS.aload X128.here hx rfl (hb hby at_202) rfl rfl (XS.iload X128.here hx rfl (hb hby at_204) rfl  k)) ?_
          have mg136 := (own_m8 hCC)
          refine own_s T128 (mkF m 207 #[iv p1, iv p2, iv p3, iv p4, iv W0, iv W1, iv B0, iv B1, rv b105, iv 1, iv 1, iv 1, iv 0, iv B0, iv CC, u_, u_, u_, u_] [(.double (FP.l2d CC.toInt64)), (.ref b105)]) (fun _ k => XS.i2dS X128.here hx rfl (hb hby at_206) rfl (i2d_w _) k) ?_
          obtain ⟨v137, T137, L137, X137, hQ137, st137⟩ := own_callV X128 hx hZ (y := own_y6) (z := own_y6) (W := 0) (a := b105) hown (own_h hw 59 rfl) (own_h hw 60 rfl) (notFace_of_selects (args := #[]) (mvT hZ (own_h hw 62 rfl))) (own_h hw 62 rfl) (own_h hw 61 rfl) (own_h hw 2 rfl) (own_h hw 63 rfl) (by decide) (own_rmre01N l Z a0 hw [] b105 wA115 bA115 sA115 hA115 kw115 kb115 ks115 kh115 p1 W0.toInt64 W1.toInt64 B0.toInt64 B1.toInt64 (((0 : Int64) + (1 : Int64)) - (1 : Int64)) (((0 : Int64) + (1 : Int64)) - (1 : Int64)) (0 : Int32) ((0 : Int64) + (1 : Int64)) (0 : Int32) CC.toInt64 T125.heap n0 Z125 ⟨u126_0, u126_1, u126_2, u126_3, u126_4, u126_5, u126_6, u126_7, u126_8, u126_9, u126_10, u126_11, u126_12, u126_13⟩ hNE hGE mg119 mg123 mg120 mg124 mg136 (own_n64 hc)) (by decide) (by decide) u126_0 (g := (mkF m 207 #[iv p1, iv p2, iv p3, iv p4, iv W0, iv W1, iv B0, iv B1, rv b105, iv 1, iv 1, iv 1, iv 0, iv B0, iv CC, u_, u_, u_, u_] [(.double (FP.l2d CC.toInt64)), (.ref b105)])) rfl (by rw [hml]; rfl) (argsL := [(.double (FP.l2d CC.toInt64))]) (rest := []) rfl (lenOf own_pd8 rfl) rfl (by show 2 * 0 + _ ≤ _; exact Nat.le_of_eq rfl) (hb hby at_207) e128 (by decide) (by decide)
          obtain ⟨rfl, Nq137, Kq137, hq137⟩ := hQ137
          have N137 := Fr.app N128 Nq137
          have Z137 := Nat.le_trans Z125 Kq137.1
          obtain ⟨u138_0, u138_1, u138_2, u138_3, u138_4, u138_5, u138_6, u138_7, u138_8, u138_9, u138_10, u138_11, u138_12, u138_13⟩ := id hq137
          refine own_s T137 (mkF m 210 #[iv p1, iv p2, iv p3, iv p4, iv W0, iv W1, iv B0, iv B1, rv b105, iv 1, iv 1, iv 1, iv 0, iv B0, iv CC, u_, u_, u_, u_] []) st137 ?_
          refine own_s T137 (mkF m 303 #[iv p1, iv p2, iv p3, iv p4, iv W0, iv W1, iv B0, iv B1, rv b105, iv 1, iv 1, iv 1, iv 0, iv B0, iv CC, u_, u_, u_, u_] [(.int 0)]) (fun _ k => XS.iload X137.here hx rfl (hb hby at_210) rfl  (XS.ifYes X137.here hx rfl (pc0 := 212) (pc' := 299) rfl (hb hby at_212) rfl ((if0 _ _).trans (flt hc).2.2.2) (by decide) (by decide) (XS.iload X137.here hx rfl (hb hby at_299) rfl  (XS.iconst X137.here hx rfl (hb hby at_301) (XS.isub X137.here hx rfl (hb hby at_302) rfl k))))) ?_
          refine own_s T137 (mkF m 315 #[iv p1, iv p2, iv p3, iv p4, iv W0, iv W1, iv B0, iv B1, rv b105, iv 1, iv 1, iv 0, iv 0, iv B0, iv CC, u_, u_, u_, u_] [(.int 1)]) (fun _ k => XS.istore X137.here hx rfl (hb hby at_303) rfl (l' := #[iv p1, iv p2, iv p3, iv p4, iv W0, iv W1, iv B0, iv B1, rv b105, iv 1, iv 1, iv 0, iv 0, iv B0, iv CC, u_, u_, u_, u_]) rfl (XS.iload X137.here hx rfl (hb hby at_305) rfl  (XS.ifNo X137.here hx rfl (hb hby at_307) rfl ((if0 _ _).trans (teq (by decide : ((0 : Int32) = (0 : Int32)))).2) (XS.iconst X137.here hx rfl (hb hby at_310) (XS.goto X137.here hx rfl (pc0 := 311) (pc' := 315) rfl (hb hby at_311) (by decide) (by decide) k))))) ?_
          refine own_s T137 (mkF m 324 #[iv p1, iv p2, iv p3, iv p4, iv W0, iv W1, iv B0, iv B1, rv b105, iv 1, iv 1, iv 0, iv 0, iv B0, iv CC, iv 1, u_, u_, u_] [(.ref b105)]) (fun _ k => XS.istore X137.here hx rfl (hb hby at_315) rfl (l' := #[iv p1, iv p2, iv p3, iv p4, iv W0, iv W1, iv B0, iv B1, rv b105, iv 1, iv 1, iv 0, iv 0, iv B0, iv CC, iv 1, u_, u_, u_]) rfl (XS.iload X137.here hx rfl (hb hby at_317) rfl  (XS.ifNo X137.here hx rfl (hb hby at_319) rfl ((if0 _ _).trans (feq (by decide : ¬ ((1 : Int32) = (0 : Int32)))).1) (XS.aload X137.here hx rfl (hb hby at_322) rfl rfl k)))) ?_
          obtain ⟨v139, T139, L139, X139, hQ139, st139⟩ := own_callV X137 hx hZ (y := own_y7) (z := own_y7) (W := 0) (a := b105) hown (own_h hw 45 rfl) (own_h hw 46 rfl) (notFace_of_selects (args := #[]) (mvT hZ (own_h hw 48 rfl))) (own_h hw 48 rfl) (own_h hw 47 rfl) (own_h hw 2 rfl) (own_h hw 49 rfl) (by decide) (own_rmdc0 l Z a0 hw [] b105 wA115 bA115 sA115 hA115 kw115 kb115 ks115 kh115 p1 W0.toInt64 W1.toInt64 CC.toInt64 B1.toInt64 ((0 : Int64) + (1 : Int64)) (((0 : Int64) + (1 : Int64)) - (1 : Int64)) (0 : Int32) ((0 : Int64) + (1 : Int64)) ((0 : Int32) + (1 : Int32)) (-1 : Int32) (0 : Int32) T137.heap n0 Z137 ⟨u138_0, u138_1, u138_2, u138_3, u138_4, u138_5, u138_6, u138_7, u138_8, u138_9, u138_10, u138_11, u138_12, u138_13⟩) (by decide) (by decide) u138_0 (g := (mkF m 324 #[iv p1, iv p2, iv p3, iv p4, iv W0, iv W1, iv B0, iv B1, rv b105, iv 1, iv 1, iv 0, iv 0, iv B0, iv CC, iv 1, u_, u_, u_] [(.ref b105)])) rfl (by rw [hml]; rfl) (argsL := []) (rest := []) rfl (lenOf own_pd5 rfl) rfl (by show 2 * 0 + _ ≤ _; exact Nat.le_of_eq rfl) (hb hby at_324) rfl (by decide) (by decide)
          obtain ⟨rfl, Nq139, e139⟩ := hQ139
          have N139 := Fr.app N137 Nq139
          refine own_s T139 (mkF m 327 #[iv p1, iv p2, iv p3, iv p4, iv W0, iv W1, iv B0, iv B1, rv b105, iv 1, iv 1, iv 0, iv 0, iv B0, iv CC, iv 1, u_, u_, u_] [(.int (own_b (own_dc (0 : Int32) ((0 : Int64) + (1 : Int64)) ((0 : Int64) + (1 : Int64)) ((0 : Int32) + (1 : Int32)) p1 (-1 : Int32))))]) st139 ?_
          refine own_s T139 (mkF m 339 #[iv p1, iv p2, iv p3, iv p4, iv W0, iv W1, iv B0, iv B1, rv b105, iv 1, iv 1, iv 0, iv 0, iv B0, iv CC, iv 1, u_, u_, u_] []) (fun _ k => XS.iload X139.here hx rfl (hb hby at_327) rfl  (XS.icmpNo X139.here hx rfl (hb hby at_329) rfl (teq (by simp +decide [own_dc, own_b])).2 (XS.iconst X139.here hx rfl (hb hby at_332) (XS.goto X139.here hx rfl (pc0 := 333) (pc' := 337) rfl (hb hby at_333) (by decide) (by decide) (XS.istore X139.here hx rfl (hb hby at_337) rfl (l' := #[iv p1, iv p2, iv p3, iv p4, iv W0, iv W1, iv B0, iv B1, rv b105, iv 1, iv 1, iv 0, iv 0, iv B0, iv CC, iv 1, u_, u_, u_]) rfl k))))) ?_
          refine own_s T139 (mkF m 341 #[iv p1, iv p2, iv p3, iv p4, iv W0, iv W1, iv B0, iv B1, rv b105, iv 1, iv 1, iv 0, iv 0, iv B0, iv CC, iv 1, u_, u_, u_] [(.ref b105)]) (fun _ k => XS.aload X139.here hx rfl (hb hby at_339) rfl rfl k) ?_
          obtain ⟨v140, T140, L140, X140, hQ140, st140⟩ := own_callV X139 hx hZ (y := own_y3) (z := own_y3) (W := 0) (a := b105) hown (own_h hw 50 rfl) (own_h hw 28 rfl) (notFace_of_selects (args := #[]) (mvT hZ (own_h hw 30 rfl))) (own_h hw 30 rfl) (own_h hw 29 rfl) (own_h hw 2 rfl) (own_h hw 31 rfl) (by decide) (own_rmfo l Z a0 hw [] b105 wA115 bA115 sA115 hA115 kw115 kb115 ks115 kh115 p1 W0.toInt64 W1.toInt64 CC.toInt64 B1.toInt64 ((0 : Int64) + (1 : Int64)) (((0 : Int64) + (1 : Int64)) - (1 : Int64)) (0 : Int32) (0 : Int32) ((0 : Int64) + (1 : Int64)) ((0 : Int32) + (1 : Int32)) (-1 : Int32) (0 : Int32) T137.heap n0 Z137 ⟨u138_0, u138_1, u138_2, u138_3, u138_4, u138_5, u138_6, u138_7, u138_8, u138_9, u138_10, u138_11, u138_12, u138_13⟩ hNE hGE mg119 mg123 mg136 mg124) (by decide) (by decide) u138_0 (g := (mkF m 341 #[iv p1, iv p2, iv p3, iv p4, iv W0, iv W1, iv B0, iv B1, rv b105, iv 1, iv 1, iv 0, iv 0, iv B0, iv CC, iv 1, u_, u_, u_] [(.ref b105)])) rfl (by rw [hml]; rfl) (argsL := []) (rest := []) rfl (lenOf own_pd1 rfl) rfl (by show 2 * 0 + _ ≤ _; exact Nat.le_of_eq rfl) (hb hby at_341) e139 (by decide) (by decide)
          obtain ⟨rfl, Nq140, Kq140, hq140⟩ := hQ140
          have N140 := Fr.app N139 Nq140
          have Z140 := Nat.le_trans Z137 Kq140.1
          obtain ⟨u141_0, u141_1, u141_2, u141_3, u141_4, u141_5, u141_6, u141_7, u141_8, u141_9, u141_10, u141_11, u141_12, u141_13⟩ := id hq140
          refine own_s T140 (mkF m 344 #[iv p1, iv p2, iv p3, iv p4, iv W0, iv W1, iv B0, iv B1, rv b105, iv 1, iv 1, iv 0, iv 0, iv B0, iv CC, iv 1, u_, u_, u_] []) st140 ?_
          refine own_s T140 (mkF m 351 #[iv p1, iv p2, iv p3, iv p4, iv W0, iv W1, iv B0, iv B1, rv b105, iv 1, iv 1, iv 0, iv 0, iv B0, iv CC, iv 1, u_, u_, u_] [(.ref b105)]) (fun _ k => XS.iload X140.here hx rfl (hb hby at_344) rfl  (XS.ifNo X140.here hx rfl (hb hby at_346) rfl ((if0 _ _).trans (feq (by decide : ¬ ((1 : Int32) = (0 : Int32)))).1) (XS.aload X140.here hx rfl (hb hby at_349) rfl rfl k))) ?_
          obtain ⟨v142, T142, L142, X142, hQ142, st142⟩ := own_callV X140 hx hZ (y := own_y7) (z := own_y7) (W := 0) (a := b105) hown (own_h hw 45 rfl) (own_h hw 46 rfl) (notFace_of_selects (args := #[]) (mvT hZ (own_h hw 48 rfl))) (own_h hw 48 rfl) (own_h hw 47 rfl) (own_h hw 2 rfl) (own_h hw 49 rfl) (by decide) (own_rmdc0 l Z a0 hw [] b105 wA115 bA115 sA115 hA115 kw115 kb115 ks115 kh115 p1 W0.toInt64 W1.toInt64 CC.toInt64 B1.toInt64 ((0 : Int64) + (1 : Int64)) (((0 : Int64) + (1 : Int64)) - (1 : Int64)) (0 : Int32) (((0 : Int64) + (1 : Int64)) + (1 : Int64)) (0 : Int32) (-1 : Int32) (0 : Int32) T140.heap n0 Z140 ⟨u141_0, u141_1, u141_2, u141_3, u141_4, u141_5, u141_6, u141_7, u141_8, u141_9, u141_10, u141_11, u141_12, u141_13⟩) (by decide) (by decide) u141_0 (g := (mkF m 351 #[iv p1, iv p2, iv p3, iv p4, iv W0, iv W1, iv B0, iv B1, rv b105, iv 1, iv 1, iv 0, iv 0, iv B0, iv CC, iv 1, u_, u_, u_] [(.ref b105)])) rfl (by rw [hml]; rfl) (argsL := []) (rest := []) rfl (lenOf own_pd5 rfl) rfl (by show 2 * 0 + _ ≤ _; exact Nat.le_of_eq rfl) (hb hby at_351) rfl (by decide) (by decide)
          obtain ⟨rfl, Nq142, e142⟩ := hQ142
          have N142 := Fr.app N140 Nq142
          refine own_s T142 (mkF m 354 #[iv p1, iv p2, iv p3, iv p4, iv W0, iv W1, iv B0, iv B1, rv b105, iv 1, iv 1, iv 0, iv 0, iv B0, iv CC, iv 1, u_, u_, u_] [(.int (own_b (own_dc (0 : Int32) ((0 : Int64) + (1 : Int64)) (((0 : Int64) + (1 : Int64)) + (1 : Int64)) (0 : Int32) p1 (-1 : Int32))))]) st142 ?_
          refine own_s T142 (mkF m 367 #[iv p1, iv p2, iv p3, iv p4, iv W0, iv W1, iv B0, iv B1, rv b105, iv 1, iv 1, iv 0, iv 0, iv B0, iv CC, iv 1, u_, u_, u_] []) (fun _ k => XS.iload X142.here hx rfl (hb hby at_354) rfl  (XS.ifNo X142.here hx rfl (hb hby at_356) rfl ((if0 _ _).trans (teq (by decide : ((0 : Int32) = (0 : Int32)))).2) (XS.iconst X142.here hx rfl (hb hby at_359) (XS.goto X142.here hx rfl (pc0 := 360) (pc' := 364) rfl (hb hby at_360) (by decide) (by decide) (XS.icmpNo X142.here hx rfl (hb hby at_364) rfl (teq (by simp +decide [own_dc, own_b])).2 k))))) ?_
          refine own_s T142 (mkF m 372 #[iv p1, iv p2, iv p3, iv p4, iv W0, iv W1, iv B0, iv B1, rv b105, iv 1, iv 1, iv 0, iv 0, iv B0, iv CC, iv 1, u_, u_, u_] [(.int 1)]) (fun _ k => XS.iconst X142.here hx rfl (hb hby at_367) (XS.goto X142.here hx rfl (pc0 := 368) (pc' := 372) rfl (hb hby at_368) (by decide) (by decide) k)) ?_
          exact own_finZ X142 hx (t := .boolean) hret (by simp) (z' := (1 : Int32)) rfl (hb hby at_372) (own_end (Qv := (own_Q0 Z p1 p2 p3 p4 h0 n0)) X142 (own_some hret) hlk (by decide) (by decide) e142 ⟨rfl, N142⟩)
    · have kk_hb0 := hb0
      by_cases hb1 : (0 : Int32) < B1
      · have kk_hb1 := hb1
        obtain ⟨T143, h143, X143, e143, E143, A143, D143, -, st143⟩ := newO X0 hx hZ hown (own_h hw 0 rfl) (own_h hw 1 rfl) (own_h hw 2 rfl) e0 (g := (mkF m 32 #[iv p1, iv p2, iv p3, iv p4, iv W0, iv W1, iv B0, iv B1, u_, u_, u_, u_, u_, u_, u_, u_, u_, u_, u_] [])) rfl (hb hby at_32) (by decide) (by decide)
        obtain ⟨b143, g143⟩ : ∃ z, z = h0.size := ⟨_, rfl⟩
        have g_b143 : n0 ≤ b143 := Nat.le_trans Z0 (Nat.le_of_eq g143.symm)
        have sz_b143 : h0.size ≤ b143 := Nat.le_trans (Keep.refl h0 []).1 (Nat.le_of_eq g143.symm)
        rw [← g143] at A143 D143 st143
        have K143 : Keep h0 h143 [] := (Keep.refl h0 []).ext E143
        have Z143 := Nat.le_trans Z0 E143.1
        have f144 : Fld Z h143 b143 "com/example/allotrope/allotrope/procure/CoverQueue" "reach" "I" (.int 0) := D143 (Or.inr (own_h hw 10 rfl)) (ty := .int) (by decide)
        have f145 : Fld Z h143 b143 "com/example/allotrope/allotrope/procure/CoverQueue" "weights" "[D" .null := D143 (Or.inr (own_h hw 13 rfl)) (ty := (.array .double)) (by decide)
        have f146 : Fld Z h143 b143 "com/example/allotrope/allotrope/procure/CoverQueue" "bounds" "[D" .null := D143 (Or.inr (own_h hw 15 rfl)) (ty := (.array .double)) (by decide)
        have f147 : Fld Z h143 b143 "com/example/allotrope/allotrope/procure/CoverQueue" "setAt" "[J" .null := D143 (Or.inr (own_h hw 18 rfl)) (ty := (.array .long)) (by decide)
        have f148 : Fld Z h143 b143 "com/example/allotrope/allotrope/procure/CoverQueue" "heap" "[I" .null := D143 (Or.inr (own_h hw 21 rfl)) (ty := (.array .int)) (by decide)
        have f149 : Fld Z h143 b143 "com/example/allotrope/allotrope/procure/CoverQueue" "forgotten" "J" (.long 0) := D143 (Or.inl (own_h hw 33 rfl)) (ty := .long) (by decide)
        have f150 : Fld Z h143 b143 "com/example/allotrope/allotrope/procure/CoverQueue" "reckonings" "I" (.int 0) := D143 (Or.inl (own_h hw 35 rfl)) (ty := .int) (by decide)
        have f151 : Fld Z h143 b143 "com/example/allotrope/allotrope/procure/CoverQueue" "best" "I" (.int 0) := D143 (Or.inl (own_h hw 37 rfl)) (ty := .int) (by decide)
        have f152 : Fld Z h143 b143 "com/example/allotrope/allotrope/procure/CoverQueue" "size" "I" (.int 0) := D143 (Or.inl (own_h hw 39 rfl)) (ty := .int) (by decide)
        refine own_s T143 (mkF m 35 #[iv p1, iv p2, iv p3, iv p4, iv W0, iv W1, iv B0, iv B1, u_, u_, u_, u_, u_, u_, u_, u_, u_, u_, u_] [(.ref b143)]) st143 ?_
        refine own_s T143 (mkF m 38 #[iv p1, iv p2, iv p3, iv p4, iv W0, iv W1, iv B0, iv B1, u_, u_, u_, u_, u_, u_, u_, u_, u_, u_, u_] [(.int p1), (.int 2), (.ref b143), (.ref b143)]) (fun _ k => XS.dup X143.here hx rfl (hb hby at_35) rfl rfl (XS.iconst X143.here hx rfl (hb hby at_36) (XS.iloadN X143.here hx rfl (hb hby at_37) rfl  k))) ?_
        obtain ⟨v153, T153, L153, X153, hQ153, st153⟩ := own_callI X143 hx hZ (y := own_y8) (W := 1) (a := b143) rfl hown (own_h hw 3 rfl) (own_h hw 4 rfl) (own_h hw 2 rfl) (own_h hw 5 rfl) (by decide) (own_rmini l Z a0 hw [] b143 p1 h143 n0 Z143 g_b143 A143 f144 f145 f146 f147 f148 f149 f150 f151 f152) (by decide) (by decide) (g := (mkF m 38 #[iv p1, iv p2, iv p3, iv p4, iv W0, iv W1, iv B0, iv B1, u_, u_, u_, u_, u_, u_, u_, u_, u_, u_, u_] [(.int p1), (.int 2), (.ref b143), (.ref b143)])) rfl (by rw [hml]; rfl) (argsL := [(.int 2), (.int p1)]) (rest := [(.ref b143)]) rfl (lenOf own_pd3 rfl) rfl (by show 2 * 0 + _ ≤ _; exact Nat.le_of_eq rfl) (hb hby at_38) e143 (by decide) (by decide)
        obtain ⟨rfl, Nq153, Kq153, wA153, bA153, sA153, hA153, kw153, kb153, ks153, kh153, hNE, hGE, hq153⟩ := hQ153
        have N153 := Fr.app N0 Nq153
        have Z153 := Nat.le_trans Z143 Kq153.1
        obtain ⟨u154_0, u154_1, u154_2, u154_3, u154_4, u154_5, u154_6, u154_7, u154_8, u154_9, u154_10, u154_11, u154_12, u154_13⟩ := id hq153
        refine own_s T153 (mkF m 41 #[iv p1, iv p2, iv p3, iv p4, iv W0, iv W1, iv B0, iv B1, u_, u_, u_, u_, u_, u_, u_, u_, u_, u_, u_] [(.ref b143)]) st153 ?_
        refine own_s T153 (mkF m 45 #[iv p1, iv p2, iv p3, iv p4, iv W0, iv W1, iv B0, iv B1, rv b143, u_, u_, u_, u_, u_, u_, u_, u_, u_, u_] [(.ref b143)]) (fun _ k => XS.astore X153.here hx rfl (hb hby at_41) rfl rfl (l' := #[iv p1, iv p2, iv p3, iv p4, iv W0, iv W1, iv B0, iv B1, rv b143, u_, u_, u_, u_, u_, u_, u_, u_, u_, u_]) rfl (XS.aload X153.here hx rfl (hb hby at_43) rfl rfl k)) ?_
        obtain ⟨v155, T155, L155, X155, hQ155, st155⟩ := own_callV X153 hx hZ (y := own_y4) (z := own_y4) (W := 0) (a := b143) hown (own_h hw 22 rfl) (own_h hw 23 rfl) (notFace_of_selects (args := #[]) (mvT hZ (own_h hw 25 rfl))) (own_h hw 25 rfl) (own_h hw 24 rfl) (own_h hw 2 rfl) (own_h hw 26 rfl) (by decide) (own_rmsta l Z a0 hw [] b143 wA153 bA153 sA153 hA153 kw153 kb153 ks153 kh153 p1 0 0 0 0 (0 : Int64) (0 : Int64) (0 : Int32) (0 : Int32) (0 : Int64) (0 : Int32) (0 : Int32) (0 : Int32) T153.heap n0 Z153 ⟨u154_0, u154_1, u154_2, u154_3, u154_4, u154_5, u154_6, u154_7, u154_8, u154_9, u154_10, u154_11, u154_12, u154_13⟩ hNE hGE own_mg8 own_mg8 own_mg8 own_mg8) (by decide) (by decide) u154_0 (g := (mkF m 45 #[iv p1, iv p2, iv p3, iv p4, iv W0, iv W1, iv B0, iv B1, rv b143, u_, u_, u_, u_, u_, u_, u_, u_, u_, u_] [(.ref b143)])) rfl (by rw [hml]; rfl) (argsL := []) (rest := []) rfl (lenOf own_pd1 rfl) rfl (by show 2 * 0 + _ ≤ _; exact Nat.le_of_eq rfl) (hb hby at_45) rfl (by decide) (by decide)
        obtain ⟨rfl, Nq155, Kq155, hq155⟩ := hQ155
        have N155 := Fr.app N153 Nq155
        have Z155 := Nat.le_trans Z153 Kq155.1
        obtain ⟨u156_0, u156_1, u156_2, u156_3, u156_4, u156_5, u156_6, u156_7, u156_8, u156_9, u156_10, u156_11, u156_12, u156_13⟩ := id hq155
        refine own_s T155 (mkF m 48 #[iv p1, iv p2, iv p3, iv p4, iv W0, iv W1, iv B0, iv B1, rv b143, u_, u_, u_, u_, u_, u_, u_, u_, u_, u_] []) st155 ?_
        refine own_s T155 (mkF m 53 #[iv p1, iv p2, iv p3, iv p4, iv W0, iv W1, iv B0, iv B1, rv b143, u_, u_, u_, u_, u_, u_, u_, u_, u_, u_] [(.int W0), (.int 0), (.ref b143)]) (fun _ k => XS.aload X155.here hx rfl (hb hby at_48) rfl rfl (XS.iconst X155.here hx rfl (hb hby at_50) (XS.iload X155.here hx rfl (hb hby at_51) rfl  k))) ?_
        have mg157 := (own_m8 hW0)
        refine own_s T155 (mkF m 56 #[iv p1, iv p2, iv p3, iv p4, iv W0, iv W1, iv B0, iv B1, rv b143, u_, u_, u_, u_, u_, u_, u_, u_, u_, u_] [(.int B0), (.double (FP.l2d W0.toInt64)), (.int 0), (.ref b143)]) (fun _ k => XS.i2dS X155.here hx rfl (hb hby at_53) rfl (i2d_w _) (XS.iload X155.here hx rfl (hb hby at_54) rfl  k)) ?_
        have mg158 := (own_m8 hB0)
        refine own_s T155 (mkF m 57 #[iv p1, iv p2, iv p3, iv p4, iv W0, iv W1, iv B0, iv B1, rv b143, u_, u_, u_, u_, u_, u_, u_, u_, u_, u_] [(.double (FP.l2d B0.toInt64)), (.double (FP.l2d W0.toInt64)), (.int 0), (.ref b143)]) (fun _ k => XS.i2dS X155.here hx rfl (hb hby at_56) rfl (i2d_w _) k) ?_
        obtain ⟨v159, T159, L159, X159, hQ159, st159⟩ := own_callV X155 hx hZ (y := own_y5) (z := own_y5) (W := 0) (a := b143) hown (own_h hw 40 rfl) (own_h hw 41 rfl) (notFace_of_selects (args := #[]) (mvT hZ (own_h hw 43 rfl))) (own_h hw 43 rfl) (own_h hw 42 rfl) (own_h hw 2 rfl) (own_h hw 44 rfl) (by decide) (own_rma0F l Z a0 hw [] b143 wA153 bA153 sA153 hA153 kw153 kb153 ks153 kh153 p1 0 0 0 0 (0 : Int64) (0 : Int64) (0 : Int32) (0 : Int32) ((0 : Int64) + (1 : Int64)) (0 : Int32) (-1 : Int32) (0 : Int32) W0.toInt64 B0.toInt64 T155.heap n0 Z155 ⟨u156_0, u156_1, u156_2, u156_3, u156_4, u156_5, u156_6, u156_7, u156_8, u156_9, u156_10, u156_11, u156_12, u156_13⟩ hNE hGE own_mg8 own_mg8 own_mg8 own_mg8 mg157 mg158 (own_n64 hb0)) (by decide) (by decide) u156_0 (g := (mkF m 57 #[iv p1, iv p2, iv p3, iv p4, iv W0, iv W1, iv B0, iv B1, rv b143, u_, u_, u_, u_, u_, u_, u_, u_, u_, u_] [(.double (FP.l2d B0.toInt64)), (.double (FP.l2d W0.toInt64)), (.int 0), (.ref b143)])) rfl (by rw [hml]; rfl) (argsL := [(.int 0), (.double (FP.l2d W0.toInt64)), (.double (FP.l2d B0.toInt64))]) (rest := []) rfl (lenOf own_pd4 rfl) rfl (by show 2 * 0 + _ ≤ _; exact Nat.le_of_eq rfl) (hb hby at_57) rfl (by decide) (by decide)
        obtain ⟨rfl, Nq159, Kq159, hq159⟩ := hQ159
        have N159 := Fr.app N155 Nq159
        have Z159 := Nat.le_trans Z155 Kq159.1
        obtain ⟨u160_0, u160_1, u160_2, u160_3, u160_4, u160_5, u160_6, u160_7, u160_8, u160_9, u160_10, u160_11, u160_12, u160_13⟩ := id hq159
        refine own_s T159 (mkF m 60 #[iv p1, iv p2, iv p3, iv p4, iv W0, iv W1, iv B0, iv B1, rv b143, u_, u_, u_, u_, u_, u_, u_, u_, u_, u_] []) st159 ?_
        refine own_s T159 (mkF m 65 #[iv p1, iv p2, iv p3, iv p4, iv W0, iv W1, iv B0, iv B1, rv b143, u_, u_, u_, u_, u_, u_, u_, u_, u_, u_] [(.int W1), (.int 1), (.ref b143)]) (fun _ k => XS.aload X159.here hx rfl (hb hby at_60) rfl rfl (XS.iconst X159.here hx rfl (hb hby at_62) (XS.iload X159.here hx rfl (hb hby at_63) rfl  k))) ?_
        have mg161 := (own_m8 hW1)
        refine own_s T159 (mkF m 68 #[iv p1, iv p2, iv p3, iv p4, iv W0, iv W1, iv B0, iv B1, rv b143, u_, u_, u_, u_, u_, u_, u_, u_, u_, u_] [(.int B1), (.double (FP.l2d W1.toInt64)), (.int 1), (.ref b143)]) (fun _ k => XS.i2dS X159.here hx rfl (hb hby at_65) rfl (i2d_w _) (XS.iload X159.here hx rfl (hb hby at_66) rfl  k)) ?_
        have mg162 := (own_m8 hB1)
        refine own_s T159 (mkF m 69 #[iv p1, iv p2, iv p3, iv p4, iv W0, iv W1, iv B0, iv B1, rv b143, u_, u_, u_, u_, u_, u_, u_, u_, u_, u_] [(.double (FP.l2d B1.toInt64)), (.double (FP.l2d W1.toInt64)), (.int 1), (.ref b143)]) (fun _ k => XS.i2dS X159.here hx rfl (hb hby at_68) rfl (i2d_w _) k) ?_
        obtain ⟨v163, T163, L163, X163, hQ163, st163⟩ := own_callV X159 hx hZ (y := own_y5) (z := own_y5) (W := 0) (a := b143) hown (own_h hw 40 rfl) (own_h hw 41 rfl) (notFace_of_selects (args := #[]) (mvT hZ (own_h hw 43 rfl))) (own_h hw 43 rfl) (own_h hw 42 rfl) (own_h hw 2 rfl) (own_h hw 44 rfl) (by decide) (own_rma1Z l Z a0 hw [] b143 wA153 bA153 sA153 hA153 kw153 kb153 ks153 kh153 p1 W0.toInt64 0 B0.toInt64 0 (((0 : Int64) + (1 : Int64)) - (1 : Int64)) (0 : Int64) (0 : Int32) (0 : Int32) ((0 : Int64) + (1 : Int64)) (0 : Int32) (-1 : Int32) W1.toInt64 B1.toInt64 T159.heap n0 Z159 ⟨u160_0, u160_1, u160_2, u160_3, u160_4, u160_5, u160_6, u160_7, u160_8, u160_9, u160_10, u160_11, u160_12, u160_13⟩ hNE hGE mg157 own_mg8 mg158 own_mg8 mg161 mg162 (own_p64 hb1)) (by decide) (by decide) u160_0 (g := (mkF m 69 #[iv p1, iv p2, iv p3, iv p4, iv W0, iv W1, iv B0, iv B1, rv b143, u_, u_, u_, u_, u_, u_, u_, u_, u_, u_] [(.double (FP.l2d B1.toInt64)), (.double (FP.l2d W1.toInt64)), (.int 1), (.ref b143)])) rfl (by rw [hml]; rfl) (argsL := [(.int 1), (.double (FP.l2d W1.toInt64)), (.double (FP.l2d B1.toInt64))]) (rest := []) rfl (lenOf own_pd4 rfl) rfl (by show 2 * 0 + _ ≤ _; exact Nat.le_of_eq rfl) (hb hby at_69) rfl (by decide) (by decide)
        obtain ⟨rfl, Nq163, Kq163, hq163⟩ := hQ163
        have N163 := Fr.app N159 Nq163
        have Z163 := Nat.le_trans Z159 Kq163.1
        obtain ⟨u164_0, u164_1, u164_2, u164_3, u164_4, u164_5, u164_6, u164_7, u164_8, u164_9, u164_10, u164_11, u164_12, u164_13⟩ := id hq163
        refine own_s T163 (mkF m 72 #[iv p1, iv p2, iv p3, iv p4, iv W0, iv W1, iv B0, iv B1, rv b143, u_, u_, u_, u_, u_, u_, u_, u_, u_, u_] []) st163 ?_
        refine own_s T163 (mkF m 87 #[iv p1, iv p2, iv p3, iv p4, iv W0, iv W1, iv B0, iv B1, rv b143, u_, u_, u_, u_, u_, u_, u_, u_, u_, u_] [(.int 0)]) (fun _ k => XS.iload X163.here hx rfl (hb hby at_72) rfl  (XS.ifYes X163.here hx rfl (pc0 := 74) (pc' := 81) rfl (hb hby at_74) rfl ((if0 _ _).trans (flt hb0).2.2.2) (by decide) (by decide) (XS.iconst X163.here hx rfl (hb hby at_81) (XS.iload X163.here hx rfl (hb hby at_82) rfl  (XS.ifNo X163.here hx rfl (hb hby at_84) rfl ((if0 _ _).trans (tlt hb1).2.2.2) k))))) ?_
        refine own_s T163 (mkF m 97 #[iv p1, iv p2, iv p3, iv p4, iv W0, iv W1, iv B0, iv B1, rv b143, iv 1, u_, u_, u_, u_, u_, u_, u_, u_, u_] [(.ref b143)]) (fun _ k => XS.iconst X163.here hx rfl (hb hby at_87) (XS.goto X163.here hx rfl (pc0 := 88) (pc' := 92) rfl (hb hby at_88) (by decide) (by decide) (XS.iadd X163.here hx rfl (hb hby at_92) rfl (XS.istore X163.here hx rfl (hb hby at_93) rfl (l' := #[iv p1, iv p2, iv p3, iv p4, iv W0, iv W1, iv B0, iv B1, rv b143, iv 1, u_, u_, u_, u_, u_, u_, u_, u_, u_]) rfl (XS.aload X163.here hx rfl (hb hby at_95) rfl rfl k))))) ?_
        obtain ⟨v165, T165, L165, X165, hQ165, st165⟩ := own_callV X163 hx hZ (y := own_y7) (z := own_y7) (W := 0) (a := b143) hown (own_h hw 45 rfl) (own_h hw 46 rfl) (notFace_of_selects (args := #[]) (mvT hZ (own_h hw 48 rfl))) (own_h hw 48 rfl) (own_h hw 47 rfl) (own_h hw 2 rfl) (own_h hw 49 rfl) (by decide) (own_rmdc1 l Z a0 hw [] b143 wA153 bA153 sA153 hA153 kw153 kb153 ks153 kh153 p1 W0.toInt64 W1.toInt64 B0.toInt64 B1.toInt64 (((0 : Int64) + (1 : Int64)) - (1 : Int64)) (((0 : Int64) + (1 : Int64)) - (1 : Int64)) (0 : Int32) ((0 : Int64) + (1 : Int64)) (0 : Int32) (-1 : Int32) (1 : Int32) T163.heap n0 Z163 ⟨u164_0, u164_1, u164_2, u164_3, u164_4, u164_5, u164_6, u164_7, u164_8, u164_9, u164_10, u164_11, u164_12, u164_13⟩) (by decide) (by decide) u164_0 (g := (mkF m 97 #[iv p1, iv p2, iv p3, iv p4, iv W0, iv W1, iv B0, iv B1, rv b143, iv 1, u_, u_, u_, u_, u_, u_, u_, u_, u_] [(.ref b143)])) rfl (by rw [hml]; rfl) (argsL := []) (rest := []) rfl (lenOf own_pd5 rfl) rfl (by show 2 * 0 + _ ≤ _; exact Nat.le_of_eq rfl) (hb hby at_97) rfl (by decide) (by decide)
        obtain ⟨rfl, Nq165, e165⟩ := hQ165
        have N165 := Fr.app N163 Nq165
        refine own_s T165 (mkF m 100 #[iv p1, iv p2, iv p3, iv p4, iv W0, iv W1, iv B0, iv B1, rv b143, iv 1, u_, u_, u_, u_, u_, u_, u_, u_, u_] [(.int (own_b (own_dc (1 : Int32) (((0 : Int64) + (1 : Int64)) - (1 : Int64)) ((0 : Int64) + (1 : Int64)) (0 : Int32) p1 (-1 : Int32))))]) st165 ?_
        refine own_s T165 (mkF m 114 #[iv p1, iv p2, iv p3, iv p4, iv W0, iv W1, iv B0, iv B1, rv b143, iv 1, u_, u_, u_, u_, u_, u_, u_, u_, u_] [(.int 1)]) (fun _ k => XS.iload X165.here hx rfl (hb hby at_100) rfl  (XS.ifYes X165.here hx rfl (pc0 := 102) (pc' := 109) rfl (hb hby at_102) rfl ((if0 _ _).trans (feq (by decide : ¬ ((1 : Int32) = (0 : Int32)))).2) (by decide) (by decide) (XS.iconst X165.here hx rfl (hb hby at_109) (XS.icmpNo X165.here hx rfl (hb hby at_110) rfl (teq (by simp +decide [own_dc, own_b])).2 (XS.iconst X165.here hx rfl (hb hby at_113) k))))) ?_
        refine own_s T165 (mkF m 126 #[iv p1, iv p2, iv p3, iv p4, iv W0, iv W1, iv B0, iv B1, rv b143, iv 1, iv 1, iv 1, u_, u_, u_, u_, u_, u_, u_] [(.int 1)]) (fun _ k => XS.goto X165.here hx rfl (pc0 := 114) (pc' := 118) rfl (hb hby at_114) (by decide) (by decide) (XS.istore X165.here hx rfl (hb hby at_118) rfl (l' := #[iv p1, iv p2, iv p3, iv p4, iv W0, iv W1, iv B0, iv B1, rv b143, iv 1, iv 1, u_, u_, u_, u_, u_, u_, u_, u_]) rfl (XS.iload X165.here hx rfl (hb hby at_120) rfl  (XS.istore X165.here hx rfl (hb hby at_122) rfl (l' := #[iv p1, iv p2, iv p3, iv p4, iv W0, iv W1, iv B0, iv B1, rv b143, iv 1, iv 1, iv 1, u_, u_, u_, u_, u_, u_, u_]) rfl (XS.iload X165.here hx rfl (hb hby at_124) rfl  k))))) ?_
        refine own_s T165 (mkF m 172 #[iv p1, iv p2, iv p3, iv p4, iv W0, iv W1, iv B0, iv B1, rv b143, iv 1, iv 1, iv 1, u_, u_, u_, u_, u_, u_, u_] []) (fun _ k => XS.ifNo X165.here hx rfl (hb hby at_126) rfl ((if0 _ _).trans (tlt (by decide : ((0 : Int32) < (1 : Int32)))).2.2.2) (XS.iload X165.here hx rfl (hb hby at_129) rfl  (XS.ifYes X165.here hx rfl (pc0 := 131) (pc' := 163) rfl (hb hby at_131) rfl ((if0 _ _).trans (flt hb0).2.2.2) (by decide) (by decide) (XS.iload X165.here hx rfl (hb hby at_163) rfl  (XS.ifYes X165.here hx rfl (pc0 := 165) (pc' := 172) rfl (hb hby at_165) rfl ((if0 _ _).trans (flt hb0).2.2.2) (by decide) (by decide) k))))) ?_
        refine own_s T165 (mkF m 187 #[iv p1, iv p2, iv p3, iv p4, iv W0, iv W1, iv B0, iv B1, rv b143, iv 1, iv 1, iv 1, iv 1, u_, u_, u_, u_, u_, u_] [(.int B1)]) (fun _ k => XS.iconst X165.here hx rfl (hb hby at_172) (XS.istore X165.here hx rfl (hb hby at_173) rfl (l' := #[iv p1, iv p2, iv p3, iv p4, iv W0, iv W1, iv B0, iv B1, rv b143, iv 1, iv 1, iv 1, iv 1, u_, u_, u_, u_, u_, u_]) rfl (XS.iload X165.here hx rfl (hb hby at_175) rfl  (XS.ifYes X165.here hx rfl (pc0 := 177) (pc' := 185) rfl (hb hby at_177) rfl ((if0 _ _).trans (feq (by decide : ¬ ((1 : Int32) = (0 : Int32)))).2) (by decide) (by decide) (XS.iload X165.here hx rfl (hb hby at_185) rfl  k))))) ?_
        refine own_s T165 (mkF m 194 #[iv p1, iv p2, iv p3, iv p4, iv W0, iv W1, iv B0, iv B1, rv b143, iv 1, iv 1, iv 1, iv 1, iv B1, u_, u_, u_, u_, u_] [(.int 2), (.int (p4 &&& (7 : Int32)))]) (fun _ k => XS.istore X165.here hx rfl (hb hby at_187) rfl (l' := #[iv p1, iv p2, iv p3, iv p4, iv W0, iv W1, iv B0, iv B1, rv b143, iv 1, iv 1, iv 1, iv 1, iv B1, u_, u_, u_, u_, u_]) rfl (XS.iloadN X165.here hx rfl (hb hby at_189) rfl  (XS.bipush X165.here hx rfl (hb hby at_190) (XS.iand X165.here hx rfl (hb hby at_192) rfl (XS.iconst X165.here hx rfl (hb hby at_193) k))))) ?_
        refine own_s T165 (mkF m 197 #[iv p1, iv p2, iv p3, iv p4, iv W0, iv W1, iv B0, iv B1, rv b143, iv 1, iv 1, iv 1, iv 1, iv B1, u_, u_, u_, u_, u_] [(.int B1), (.int ((p4 &&& (7 : Int32)) - (2 : Int32)))]) (fun _ k => XS.isub X165.here hx rfl (hb hby at_194) rfl (XS.iload X165.here hx rfl (hb hby at_195) rfl  k)) ?_
        obtain ⟨v166, T166, L166, X166, hQ166, st166⟩ := own_callS X165 hx hZ (y := own_y10) (W := 0) hown (own_h hw 55 rfl) (own_h hw 56 rfl) (own_h hw 57 rfl) (own_h hw 58 rfl) (by decide) (own_rmmn l Z a0 hw [] ((p4 &&& (7 : Int32)) - (2 : Int32)) B1 T163.heap n0 Z163) (by decide) (by decide) (g := (mkF m 197 #[iv p1, iv p2, iv p3, iv p4, iv W0, iv W1, iv B0, iv B1, rv b143, iv 1, iv 1, iv 1, iv 1, iv B1, u_, u_, u_, u_, u_] [(.int B1), (.int ((p4 &&& (7 : Int32)) - (2 : Int32)))])) rfl (by rw [hml]; rfl) (argsL := [(.int ((p4 &&& (7 : Int32)) - (2 : Int32))), (.int B1)]) (rest := []) rfl (lenOf own_pd7 rfl) rfl (by show 2 * 0 + _ ≤ _; exact Nat.le_of_eq rfl) (hb hby at_197) e165 (by decide) (by decide)
        obtain ⟨rfl, Nq166, e166⟩ := hQ166
        have N166 := Fr.app N165 Nq166
        refine own_s T166 (mkF m 200 #[iv p1, iv p2, iv p3, iv p4, iv W0, iv W1, iv B0, iv B1, rv b143, iv 1, iv 1, iv 1, iv 1, iv B1, u_, u_, u_, u_, u_] [(.int (own_mn ((p4 &&& (7 : Int32)) - (2 : Int32)) B1))]) st166 ?_
        refine own_s T166 (mkF m 202 #[iv p1, iv p2, iv p3, iv p4, iv W0, iv W1, iv B0, iv B1, rv b143, iv 1, iv 1, iv 1, iv 1, iv B1, iv (own_mn ((p4 &&& (7 : Int32)) - (2 : Int32)) B1), u_, u_, u_, u_] []) (fun _ k => XS.istore X166.here hx rfl (hb hby at_200) rfl (l' := #[iv p1, iv p2, iv p3, iv p4, iv W0, iv W1, iv B0, iv B1, rv b143, iv 1, iv 1, iv 1, iv 1, iv B1, iv (own_mn ((p4 &&& (7 : Int32)) - (2 : Int32)) B1), u_, u_, u_, u_]) rfl k) ?_
        obtain ⟨CC, eCC, hCC⟩ : ∃ z, z = (own_mn ((p4 &&& (7 : Int32)) - (2 : Int32)) B1) ∧ own_rg (-8) 8 z := ⟨_, rfl, own_mnR hB1⟩
        rw [← eCC]
        by_cases hc : (0 : Int32) < CC
        · have kk_hc := hc
          refine own_s T166 (mkF m 206 #[iv p1, iv p2, iv p3, iv p4, iv W0, iv W1, iv B0, iv B1, rv b143, iv 1, iv 1, iv 1, iv 1, iv B1, iv CC, u_, u_, u_, u_] [(.int CC), (.ref b143)]) (fun _ k => XS.aload X166.here hx rfl (hb hby at_202) rfl rfl (XS.iload X166.here hx rfl (hb hby at_204) rfl  k)) ?_
          have mg167 := (own_m8 hCC)
          refine own_s T166 (mkF m 207 #[iv p1, iv p2, iv p3, iv p4, iv W0, iv W1, iv B0, iv B1, rv b143, iv 1, iv 1, iv 1, iv 1, iv B1, iv CC, u_, u_, u_, u_] [(.double (FP.l2d CC.toInt64)), (.ref b143)]) (fun _ k => XS.i2dS X166.here hx rfl (hb hby at_206) rfl (i2d_w _) k) ?_
          obtain ⟨v168, T168, L168, X168, hQ168, st168⟩ := own_callV X166 hx hZ (y := own_y6) (z := own_y6) (W := 0) (a := b143) hown (own_h hw 59 rfl) (own_h hw 60 rfl) (notFace_of_selects (args := #[]) (mvT hZ (own_h hw 62 rfl))) (own_h hw 62 rfl) (own_h hw 61 rfl) (own_h hw 2 rfl) (own_h hw 63 rfl) (by decide) (own_rmre11P l Z a0 hw [] b143 wA153 bA153 sA153 hA153 kw153 kb153 ks153 kh153 p1 W0.toInt64 W1.toInt64 B0.toInt64 B1.toInt64 (((0 : Int64) + (1 : Int64)) - (1 : Int64)) (((0 : Int64) + (1 : Int64)) - (1 : Int64)) (0 : Int32) ((0 : Int64) + (1 : Int64)) (0 : Int32) CC.toInt64 T163.heap n0 Z163 ⟨u164_0, u164_1, u164_2, u164_3, u164_4, u164_5, u164_6, u164_7, u164_8, u164_9, u164_10, u164_11, u164_12, u164_13⟩ hNE hGE mg157 mg161 mg158 mg162 mg167 (own_p64 hc)) (by decide) (by decide) u164_0 (g := (mkF m 207 #[iv p1, iv p2, iv p3, iv p4, iv W0, iv W1, iv B0, iv B1, rv b143, iv 1, iv 1, iv 1, iv 1, iv B1, iv CC, u_, u_, u_, u_] [(.double (FP.l2d CC.toInt64)), (.ref b143)])) rfl (by rw [hml]; rfl) (argsL := [(.double (FP.l2d CC.toInt64))]) (rest := []) rfl (lenOf own_pd8 rfl) rfl (by show 2 * 0 + _ ≤ _; exact Nat.le_of_eq rfl) (hb hby at_207) e166 (by decide) (by decide)
          obtain ⟨rfl, Nq168, Kq168, hq168⟩ := hQ168
          have N168 := Fr.app N166 Nq168
          have Z168 := Nat.le_trans Z163 Kq168.1
          obtain ⟨u169_0, u169_1, u169_2, u169_3, u169_4, u169_5, u169_6, u169_7, u169_8, u169_9, u169_10, u169_11, u169_12, u169_13⟩ := id hq168
          refine own_s T168 (mkF m 210 #[iv p1, iv p2, iv p3, iv p4, iv W0, iv W1, iv B0, iv B1, rv b143, iv 1, iv 1, iv 1, iv 1, iv B1, iv CC, u_, u_, u_, u_] []) st168 ?_
          refine own_s T168 (mkF m 221 #[iv p1, iv p2, iv p3, iv p4, iv W0, iv W1, iv B0, iv B1, rv b143, iv 1, iv 1, iv 1, iv 1, iv B1, iv CC, u_, u_, u_, u_] []) (fun _ k => XS.iload X168.here hx rfl (hb hby at_210) rfl  (XS.ifNo X168.here hx rfl (hb hby at_212) rfl ((if0 _ _).trans (tlt hc).2.2.2) (XS.iload X168.here hx rfl (hb hby at_215) rfl  (XS.iconst X168.here hx rfl (hb hby at_217) (XS.icmpNo X168.here hx rfl (hb hby at_218) rfl (teq (by decide : ((1 : Int32) = (1 : Int32)))).2 k))))) ?_
          refine own_s T168 (mkF m 322 #[iv p1, iv p2, iv p3, iv p4, iv W0, iv W1, iv B0, iv B1, rv b143, iv 1, iv 1, iv 1, iv 1, iv B1, iv CC, iv 1, u_, u_, u_] []) (fun _ k => XS.iconst X168.here hx rfl (hb hby at_221) (XS.istore X168.here hx rfl (hb hby at_222) rfl (l' := #[iv p1, iv p2, iv p3, iv p4, iv W0, iv W1, iv B0, iv B1, rv b143, iv 1, iv 1, iv 1, iv 1, iv B1, iv CC, iv 1, u_, u_, u_]) rfl (XS.goto X168.here hx rfl (pc0 := 224) (pc' := 317) rfl (hb hby at_224) (by decide) (by decide) (XS.iload X168.here hx rfl (hb hby at_317) rfl  (XS.ifNo X168.here hx rfl (hb hby at_319) rfl ((if0 _ _).trans (feq (by decide : ¬ ((1 : Int32) = (0 : Int32)))).1) k))))) ?_
          refine own_s T168 (mkF m 324 #[iv p1, iv p2, iv p3, iv p4, iv W0, iv W1, iv B0, iv B1, rv b143, iv 1, iv 1, iv 1, iv 1, iv B1, iv CC, iv 1, u_, u_, u_] [(.ref b143)]) (fun _ k => XS.aload X168.here hx rfl (hb hby at_322) rfl rfl k) ?_
          obtain ⟨v170, T170, L170, X170, hQ170, st170⟩ := own_callV X168 hx hZ (y := own_y7) (z := own_y7) (W := 0) (a := b143) hown (own_h hw 45 rfl) (own_h hw 46 rfl) (notFace_of_selects (args := #[]) (mvT hZ (own_h hw 48 rfl))) (own_h hw 48 rfl) (own_h hw 47 rfl) (own_h hw 2 rfl) (own_h hw 49 rfl) (by decide) (own_rmdc1 l Z a0 hw [] b143 wA153 bA153 sA153 hA153 kw153 kb153 ks153 kh153 p1 W0.toInt64 W1.toInt64 B0.toInt64 CC.toInt64 (((0 : Int64) + (1 : Int64)) - (1 : Int64)) ((0 : Int64) + (1 : Int64)) (0 : Int32) ((0 : Int64) + (1 : Int64)) ((0 : Int32) + (1 : Int32)) (1 : Int32) (1 : Int32) T168.heap n0 Z168 ⟨u169_0, u169_1, u169_2, u169_3, u169_4, u169_5, u169_6, u169_7, u169_8, u169_9, u169_10, u169_11, u169_12, u169_13⟩) (by decide) (by decide) u169_0 (g := (mkF m 324 #[iv p1, iv p2, iv p3, iv p4, iv W0, iv W1, iv B0, iv B1, rv b143, iv 1, iv 1, iv 1, iv 1, iv B1, iv CC, iv 1, u_, u_, u_] [(.ref b143)])) rfl (by rw [hml]; rfl) (argsL := []) (rest := []) rfl (lenOf own_pd5 rfl) rfl (by show 2 * 0 + _ ≤ _; exact Nat.le_of_eq rfl) (hb hby at_324) rfl (by decide) (by decide)
          obtain ⟨rfl, Nq170, e170⟩ := hQ170
          have N170 := Fr.app N168 Nq170
          refine own_s T170 (mkF m 327 #[iv p1, iv p2, iv p3, iv p4, iv W0, iv W1, iv B0, iv B1, rv b143, iv 1, iv 1, iv 1, iv 1, iv B1, iv CC, iv 1, u_, u_, u_] [(.int (own_b (own_dc (1 : Int32) ((0 : Int64) + (1 : Int64)) ((0 : Int64) + (1 : Int64)) ((0 : Int32) + (1 : Int32)) p1 (1 : Int32))))]) st170 ?_
          refine own_s T170 (mkF m 339 #[iv p1, iv p2, iv p3, iv p4, iv W0, iv W1, iv B0, iv B1, rv b143, iv 1, iv 1, iv 1, iv 1, iv B1, iv CC, iv 1, u_, u_, u_] []) (fun _ k => XS.iload X170.here hx rfl (hb hby at_327) rfl  (XS.icmpNo X170.here hx rfl (hb hby at_329) rfl (teq (by simp +decide [own_dc, own_b])).2 (XS.iconst X170.here hx rfl (hb hby at_332) (XS.goto X170.here hx rfl (pc0 := 333) (pc' := 337) rfl (hb hby at_333) (by decide) (by decide) (XS.istore X170.here hx rfl (hb hby at_337) rfl (l' := #[iv p1, iv p2, iv p3, iv p4, iv W0, iv W1, iv B0, iv B1, rv b143, iv 1, iv 1, iv 1, iv 1, iv B1, iv CC, iv 1, u_, u_, u_]) rfl k))))) ?_
          refine own_s T170 (mkF m 341 #[iv p1, iv p2, iv p3, iv p4, iv W0, iv W1, iv B0, iv B1, rv b143, iv 1, iv 1, iv 1, iv 1, iv B1, iv CC, iv 1, u_, u_, u_] [(.ref b143)]) (fun _ k => XS.aload X170.here hx rfl (hb hby at_339) rfl rfl k) ?_
          obtain ⟨v171, T171, L171, X171, hQ171, st171⟩ := own_callV X170 hx hZ (y := own_y3) (z := own_y3) (W := 0) (a := b143) hown (own_h hw 50 rfl) (own_h hw 28 rfl) (notFace_of_selects (args := #[]) (mvT hZ (own_h hw 30 rfl))) (own_h hw 30 rfl) (own_h hw 29 rfl) (own_h hw 2 rfl) (own_h hw 31 rfl) (by decide) (own_rmfo l Z a0 hw [] b143 wA153 bA153 sA153 hA153 kw153 kb153 ks153 kh153 p1 W0.toInt64 W1.toInt64 B0.toInt64 CC.toInt64 (((0 : Int64) + (1 : Int64)) - (1 : Int64)) ((0 : Int64) + (1 : Int64)) (1 : Int32) (0 : Int32) ((0 : Int64) + (1 : Int64)) ((0 : Int32) + (1 : Int32)) (1 : Int32) (1 : Int32) T168.heap n0 Z168 ⟨u169_0, u169_1, u169_2, u169_3, u169_4, u169_5, u169_6, u169_7, u169_8, u169_9, u169_10, u169_11, u169_12, u169_13⟩ hNE hGE mg157 mg161 mg158 mg167) (by decide) (by decide) u169_0 (g := (mkF m 341 #[iv p1, iv p2, iv p3, iv p4, iv W0, iv W1, iv B0, iv B1, rv b143, iv 1, iv 1, iv 1, iv 1, iv B1, iv CC, iv 1, u_, u_, u_] [(.ref b143)])) rfl (by rw [hml]; rfl) (argsL := []) (rest := []) rfl (lenOf own_pd1 rfl) rfl (by show 2 * 0 + _ ≤ _; exact Nat.le_of_eq rfl) (hb hby at_341) e170 (by decide) (by decide)
          obtain ⟨rfl, Nq171, Kq171, hq171⟩ := hQ171
          have N171 := Fr.app N170 Nq171
          have Z171 := Nat.le_trans Z168 Kq171.1
          obtain ⟨u172_0, u172_1, u172_2, u172_3, u172_4, u172_5, u172_6, u172_7, u172_8, u172_9, u172_10, u172_11, u172_12, u172_13⟩ := id hq171
          refine own_s T171 (mkF m 344 #[iv p1, iv p2, iv p3, iv p4, iv W0, iv W1, iv B0, iv B1, rv b143, iv 1, iv 1, iv 1, iv 1, iv B1, iv CC, iv 1, u_, u_, u_] []) st171 ?_
          refine own_s T171 (mkF m 351 #[iv p1, iv p2, iv p3, iv p4, iv W0, iv W1, iv B0, iv B1, rv b143, iv 1, iv 1, iv 1, iv 1, iv B1, iv CC, iv 1, u_, u_, u_] [(.ref b143)]) (fun _ k => XS.iload X171.here hx rfl (hb hby at_344) rfl  (XS.ifNo X171.here hx rfl (hb hby at_346) rfl ((if0 _ _).trans (feq (by decide : ¬ ((1 : Int32) = (0 : Int32)))).1) (XS.aload X171.here hx rfl (hb hby at_349) rfl rfl k))) ?_
          obtain ⟨v173, T173, L173, X173, hQ173, st173⟩ := own_callV X171 hx hZ (y := own_y7) (z := own_y7) (W := 0) (a := b143) hown (own_h hw 45 rfl) (own_h hw 46 rfl) (notFace_of_selects (args := #[]) (mvT hZ (own_h hw 48 rfl))) (own_h hw 48 rfl) (own_h hw 47 rfl) (own_h hw 2 rfl) (own_h hw 49 rfl) (by decide) (own_rmdc1 l Z a0 hw [] b143 wA153 bA153 sA153 hA153 kw153 kb153 ks153 kh153 p1 W0.toInt64 W1.toInt64 B0.toInt64 CC.toInt64 (((0 : Int64) + (1 : Int64)) - (1 : Int64)) ((0 : Int64) + (1 : Int64)) (0 : Int32) (((0 : Int64) + (1 : Int64)) + (1 : Int64)) (0 : Int32) (-1 : Int32) (1 : Int32) T171.heap n0 Z171 ⟨u172_0, u172_1, u172_2, u172_3, u172_4, u172_5, u172_6, u172_7, u172_8, u172_9, u172_10, u172_11, u172_12, u172_13⟩) (by decide) (by decide) u172_0 (g := (mkF m 351 #[iv p1, iv p2, iv p3, iv p4, iv W0, iv W1, iv B0, iv B1, rv b143, iv 1, iv 1, iv 1, iv 1, iv B1, iv CC, iv 1, u_, u_, u_] [(.ref b143)])) rfl (by rw [hml]; rfl) (argsL := []) (rest := []) rfl (lenOf own_pd5 rfl) rfl (by show 2 * 0 + _ ≤ _; exact Nat.le_of_eq rfl) (hb hby at_351) rfl (by decide) (by decide)
          obtain ⟨rfl, Nq173, e173⟩ := hQ173
          have N173 := Fr.app N171 Nq173
          refine own_s T173 (mkF m 354 #[iv p1, iv p2, iv p3, iv p4, iv W0, iv W1, iv B0, iv B1, rv b143, iv 1, iv 1, iv 1, iv 1, iv B1, iv CC, iv 1, u_, u_, u_] [(.int (own_b (own_dc (1 : Int32) ((0 : Int64) + (1 : Int64)) (((0 : Int64) + (1 : Int64)) + (1 : Int64)) (0 : Int32) p1 (-1 : Int32))))]) st173 ?_
          refine own_s T173 (mkF m 368 #[iv p1, iv p2, iv p3, iv p4, iv W0, iv W1, iv B0, iv B1, rv b143, iv 1, iv 1, iv 1, iv 1, iv B1, iv CC, iv 1, u_, u_, u_] [(.int 1)]) (fun _ k => XS.iload X173.here hx rfl (hb hby at_354) rfl  (XS.ifYes X173.here hx rfl (pc0 := 356) (pc' := 363) rfl (hb hby at_356) rfl ((if0 _ _).trans (feq (by decide : ¬ ((1 : Int32) = (0 : Int32)))).2) (by decide) (by decide) (XS.iconst X173.here hx rfl (hb hby at_363) (XS.icmpNo X173.here hx rfl (hb hby at_364) rfl (teq (by simp +decide [own_dc, own_b])).2 (XS.iconst X173.here hx rfl (hb hby at_367) k))))) ?_
          refine own_s T173 (mkF m 372 #[iv p1, iv p2, iv p3, iv p4, iv W0, iv W1, iv B0, iv B1, rv b143, iv 1, iv 1, iv 1, iv 1, iv B1, iv CC, iv 1, u_, u_, u_] [(.int 1)]) (fun _ k => XS.goto X173.here hx rfl (pc0 := 368) (pc' := 372) rfl (hb hby at_368) (by decide) (by decide) k) ?_
          exact own_finZ X173 hx (t := .boolean) hret (by simp) (z' := (1 : Int32)) rfl (hb hby at_372) (own_end (Qv := (own_Q0 Z p1 p2 p3 p4 h0 n0)) X173 (own_some hret) hlk (by decide) (by decide) e173 ⟨rfl, N173⟩)
        · have kk_hc := hc
          refine own_s T166 (mkF m 206 #[iv p1, iv p2, iv p3, iv p4, iv W0, iv W1, iv B0, iv B1, rv b143, iv 1, iv 1, iv 1, iv 1, iv B1, iv CC, u_, u_, u_, u_] [(.int CC), (.ref b143)]) (fun _ k => XS.aload X166.here hx rfl (hb hby at_202) rfl rfl (XS.iload X166.here hx rfl (hb hby at_204) rfl  k)) ?_
          have mg174 := (own_m8 hCC)
          refine own_s T166 (mkF m 207 #[iv p1, iv p2, iv p3, iv p4, iv W0, iv W1, iv B0, iv B1, rv b143, iv 1, iv 1, iv 1, iv 1, iv B1, iv CC, u_, u_, u_, u_] [(.double (FP.l2d CC.toInt64)), (.ref b143)]) (fun _ k => XS.i2dS X166.here hx rfl (hb hby at_206) rfl (i2d_w _) k) ?_
          obtain ⟨v175, T175, L175, X175, hQ175, st175⟩ := own_callV X166 hx hZ (y := own_y6) (z := own_y6) (W := 0) (a := b143) hown (own_h hw 59 rfl) (own_h hw 60 rfl) (notFace_of_selects (args := #[]) (mvT hZ (own_h hw 62 rfl))) (own_h hw 62 rfl) (own_h hw 61 rfl) (own_h hw 2 rfl) (own_h hw 63 rfl) (by decide) (own_rmre11N l Z a0 hw [] b143 wA153 bA153 sA153 hA153 kw153 kb153 ks153 kh153 p1 W0.toInt64 W1.toInt64 B0.toInt64 B1.toInt64 (((0 : Int64) + (1 : Int64)) - (1 : Int64)) (((0 : Int64) + (1 : Int64)) - (1 : Int64)) (0 : Int32) ((0 : Int64) + (1 : Int64)) (0 : Int32) CC.toInt64 T163.heap n0 Z163 ⟨u164_0, u164_1, u164_2, u164_3, u164_4, u164_5, u164_6, u164_7, u164_8, u164_9, u164_10, u164_11, u164_12, u164_13⟩ hNE hGE mg157 mg161 mg158 mg162 mg174 (own_n64 hc)) (by decide) (by decide) u164_0 (g := (mkF m 207 #[iv p1, iv p2, iv p3, iv p4, iv W0, iv W1, iv B0, iv B1, rv b143, iv 1, iv 1, iv 1, iv 1, iv B1, iv CC, u_, u_, u_, u_] [(.double (FP.l2d CC.toInt64)), (.ref b143)])) rfl (by rw [hml]; rfl) (argsL := [(.double (FP.l2d CC.toInt64))]) (rest := []) rfl (lenOf own_pd8 rfl) rfl (by show 2 * 0 + _ ≤ _; exact Nat.le_of_eq rfl) (hb hby at_207) e166 (by decide) (by decide)
          obtain ⟨rfl, Nq175, Kq175, hq175⟩ := hQ175
          have N175 := Fr.app N166 Nq175
          have Z175 := Nat.le_trans Z163 Kq175.1
          obtain ⟨u176_0, u176_1, u176_2, u176_3, u176_4, u176_5, u176_6, u176_7, u176_8, u176_9, u176_10, u176_11, u176_12, u176_13⟩ := id hq175
          refine own_s T175 (mkF m 210 #[iv p1, iv p2, iv p3, iv p4, iv W0, iv W1, iv B0, iv B1, rv b143, iv 1, iv 1, iv 1, iv 1, iv B1, iv CC, u_, u_, u_, u_] []) st175 ?_
          refine own_s T175 (mkF m 303 #[iv p1, iv p2, iv p3, iv p4, iv W0, iv W1, iv B0, iv B1, rv b143, iv 1, iv 1, iv 1, iv 1, iv B1, iv CC, u_, u_, u_, u_] [(.int 0)]) (fun _ k => XS.iload X175.here hx rfl (hb hby at_210) rfl  (XS.ifYes X175.here hx rfl (pc0 := 212) (pc' := 299) rfl (hb hby at_212) rfl ((if0 _ _).trans (flt hc).2.2.2) (by decide) (by decide) (XS.iload X175.here hx rfl (hb hby at_299) rfl  (XS.iconst X175.here hx rfl (hb hby at_301) (XS.isub X175.here hx rfl (hb hby at_302) rfl k))))) ?_
          refine own_s T175 (mkF m 315 #[iv p1, iv p2, iv p3, iv p4, iv W0, iv W1, iv B0, iv B1, rv b143, iv 1, iv 1, iv 0, iv 1, iv B1, iv CC, u_, u_, u_, u_] [(.int 1)]) (fun _ k => XS.istore X175.here hx rfl (hb hby at_303) rfl (l' := #[iv p1, iv p2, iv p3, iv p4, iv W0, iv W1, iv B0, iv B1, rv b143, iv 1, iv 1, iv 0, iv 1, iv B1, iv CC, u_, u_, u_, u_]) rfl (XS.iload X175.here hx rfl (hb hby at_305) rfl  (XS.ifNo X175.here hx rfl (hb hby at_307) rfl ((if0 _ _).trans (teq (by decide : ((0 : Int32) = (0 : Int32)))).2) (XS.iconst X175.here hx rfl (hb hby at_310) (XS.goto X175.here hx rfl (pc0 := 311) (pc' := 315) rfl (hb hby at_311) (by decide) (by decide) k))))) ?_
          refine own_s T175 (mkF m 324 #[iv p1, iv p2, iv p3, iv p4, iv W0, iv W1, iv B0, iv B1, rv b143, iv 1, iv 1, iv 0, iv 1, iv B1, iv CC, iv 1, u_, u_, u_] [(.ref b143)]) (fun _ k => XS.istore X175.here hx rfl (hb hby at_315) rfl (l' := #[iv p1, iv p2, iv p3, iv p4, iv W0, iv W1, iv B0, iv B1, rv b143, iv 1, iv 1, iv 0, iv 1, iv B1, iv CC, iv 1, u_, u_, u_]) rfl (XS.iload X175.here hx rfl (hb hby at_317) rfl  (XS.ifNo X175.here hx rfl (hb hby at_319) rfl ((if0 _ _).trans (feq (by decide : ¬ ((1 : Int32) = (0 : Int32)))).1) (XS.aload X175.here hx rfl (hb hby at_322) rfl rfl k)))) ?_
          obtain ⟨v177, T177, L177, X177, hQ177, st177⟩ := own_callV X175 hx hZ (y := own_y7) (z := own_y7) (W := 0) (a := b143) hown (own_h hw 45 rfl) (own_h hw 46 rfl) (notFace_of_selects (args := #[]) (mvT hZ (own_h hw 48 rfl))) (own_h hw 48 rfl) (own_h hw 47 rfl) (own_h hw 2 rfl) (own_h hw 49 rfl) (by decide) (own_rmdc1 l Z a0 hw [] b143 wA153 bA153 sA153 hA153 kw153 kb153 ks153 kh153 p1 W0.toInt64 W1.toInt64 B0.toInt64 CC.toInt64 (((0 : Int64) + (1 : Int64)) - (1 : Int64)) ((0 : Int64) + (1 : Int64)) (0 : Int32) ((0 : Int64) + (1 : Int64)) ((0 : Int32) + (1 : Int32)) (-1 : Int32) (0 : Int32) T175.heap n0 Z175 ⟨u176_0, u176_1, u176_2, u176_3, u176_4, u176_5, u176_6, u176_7, u176_8, u176_9, u176_10, u176_11, u176_12, u176_13⟩) (by decide) (by decide) u176_0 (g := (mkF m 324 #[iv p1, iv p2, iv p3, iv p4, iv W0, iv W1, iv B0, iv B1, rv b143, iv 1, iv 1, iv 0, iv 1, iv B1, iv CC, iv 1, u_, u_, u_] [(.ref b143)])) rfl (by rw [hml]; rfl) (argsL := []) (rest := []) rfl (lenOf own_pd5 rfl) rfl (by show 2 * 0 + _ ≤ _; exact Nat.le_of_eq rfl) (hb hby at_324) rfl (by decide) (by decide)
          obtain ⟨rfl, Nq177, e177⟩ := hQ177
          have N177 := Fr.app N175 Nq177
          refine own_s T177 (mkF m 327 #[iv p1, iv p2, iv p3, iv p4, iv W0, iv W1, iv B0, iv B1, rv b143, iv 1, iv 1, iv 0, iv 1, iv B1, iv CC, iv 1, u_, u_, u_] [(.int (own_b (own_dc (0 : Int32) ((0 : Int64) + (1 : Int64)) ((0 : Int64) + (1 : Int64)) ((0 : Int32) + (1 : Int32)) p1 (-1 : Int32))))]) st177 ?_
          refine own_s T177 (mkF m 339 #[iv p1, iv p2, iv p3, iv p4, iv W0, iv W1, iv B0, iv B1, rv b143, iv 1, iv 1, iv 0, iv 1, iv B1, iv CC, iv 1, u_, u_, u_] []) (fun _ k => XS.iload X177.here hx rfl (hb hby at_327) rfl  (XS.icmpNo X177.here hx rfl (hb hby at_329) rfl (teq (by simp +decide [own_dc, own_b])).2 (XS.iconst X177.here hx rfl (hb hby at_332) (XS.goto X177.here hx rfl (pc0 := 333) (pc' := 337) rfl (hb hby at_333) (by decide) (by decide) (XS.istore X177.here hx rfl (hb hby at_337) rfl (l' := #[iv p1, iv p2, iv p3, iv p4, iv W0, iv W1, iv B0, iv B1, rv b143, iv 1, iv 1, iv 0, iv 1, iv B1, iv CC, iv 1, u_, u_, u_]) rfl k))))) ?_
          refine own_s T177 (mkF m 341 #[iv p1, iv p2, iv p3, iv p4, iv W0, iv W1, iv B0, iv B1, rv b143, iv 1, iv 1, iv 0, iv 1, iv B1, iv CC, iv 1, u_, u_, u_] [(.ref b143)]) (fun _ k => XS.aload X177.here hx rfl (hb hby at_339) rfl rfl k) ?_
          obtain ⟨v178, T178, L178, X178, hQ178, st178⟩ := own_callV X177 hx hZ (y := own_y3) (z := own_y3) (W := 0) (a := b143) hown (own_h hw 50 rfl) (own_h hw 28 rfl) (notFace_of_selects (args := #[]) (mvT hZ (own_h hw 30 rfl))) (own_h hw 30 rfl) (own_h hw 29 rfl) (own_h hw 2 rfl) (own_h hw 31 rfl) (by decide) (own_rmfo l Z a0 hw [] b143 wA153 bA153 sA153 hA153 kw153 kb153 ks153 kh153 p1 W0.toInt64 W1.toInt64 B0.toInt64 CC.toInt64 (((0 : Int64) + (1 : Int64)) - (1 : Int64)) ((0 : Int64) + (1 : Int64)) (1 : Int32) (0 : Int32) ((0 : Int64) + (1 : Int64)) ((0 : Int32) + (1 : Int32)) (-1 : Int32) (0 : Int32) T175.heap n0 Z175 ⟨u176_0, u176_1, u176_2, u176_3, u176_4, u176_5, u176_6, u176_7, u176_8, u176_9, u176_10, u176_11, u176_12, u176_13⟩ hNE hGE mg157 mg161 mg158 mg174) (by decide) (by decide) u176_0 (g := (mkF m 341 #[iv p1, iv p2, iv p3, iv p4, iv W0, iv W1, iv B0, iv B1, rv b143, iv 1, iv 1, iv 0, iv 1, iv B1, iv CC, iv 1, u_, u_, u_] [(.ref b143)])) rfl (by rw [hml]; rfl) (argsL := []) (rest := []) rfl (lenOf own_pd1 rfl) rfl (by show 2 * 0 + _ ≤ _; exact Nat.le_of_eq rfl) (hb hby at_341) e177 (by decide) (by decide)
          obtain ⟨rfl, Nq178, Kq178, hq178⟩ := hQ178
          have N178 := Fr.app N177 Nq178
          have Z178 := Nat.le_trans Z175 Kq178.1
          obtain ⟨u179_0, u179_1, u179_2, u179_3, u179_4, u179_5, u179_6, u179_7, u179_8, u179_9, u179_10, u179_11, u179_12, u179_13⟩ := id hq178
          refine own_s T178 (mkF m 344 #[iv p1, iv p2, iv p3, iv p4, iv W0, iv W1, iv B0, iv B1, rv b143, iv 1, iv 1, iv 0, iv 1, iv B1, iv CC, iv 1, u_, u_, u_] []) st178 ?_
          refine own_s T178 (mkF m 351 #[iv p1, iv p2, iv p3, iv p4, iv W0, iv W1, iv B0, iv B1, rv b143, iv 1, iv 1, iv 0, iv 1, iv B1, iv CC, iv 1, u_, u_, u_] [(.ref b143)]) (fun _ k => XS.iload X178.here hx rfl (hb hby at_344) rfl  (XS.ifNo X178.here hx rfl (hb hby at_346) rfl ((if0 _ _).trans (feq (by decide : ¬ ((1 : Int32) = (0 : Int32)))).1) (XS.aload X178.here hx rfl (hb hby at_349) rfl rfl k))) ?_
          obtain ⟨v180, T180, L180, X180, hQ180, st180⟩ := own_callV X178 hx hZ (y := own_y7) (z := own_y7) (W := 0) (a := b143) hown (own_h hw 45 rfl) (own_h hw 46 rfl) (notFace_of_selects (args := #[]) (mvT hZ (own_h hw 48 rfl))) (own_h hw 48 rfl) (own_h hw 47 rfl) (own_h hw 2 rfl) (own_h hw 49 rfl) (by decide) (own_rmdc1 l Z a0 hw [] b143 wA153 bA153 sA153 hA153 kw153 kb153 ks153 kh153 p1 W0.toInt64 W1.toInt64 B0.toInt64 CC.toInt64 (((0 : Int64) + (1 : Int64)) - (1 : Int64)) ((0 : Int64) + (1 : Int64)) (0 : Int32) (((0 : Int64) + (1 : Int64)) + (1 : Int64)) (0 : Int32) (-1 : Int32) (0 : Int32) T178.heap n0 Z178 ⟨u179_0, u179_1, u179_2, u179_3, u179_4, u179_5, u179_6, u179_7, u179_8, u179_9, u179_10, u179_11, u179_12, u179_13⟩) (by decide) (by decide) u179_0 (g := (mkF m 351 #[iv p1, iv p2, iv p3, iv p4, iv W0, iv W1, iv B0, iv B1, rv b143, iv 1, iv 1, iv 0, iv 1, iv B1, iv CC, iv 1, u_, u_, u_] [(.ref b143)])) rfl (by rw [hml]; rfl) (argsL := []) (rest := []) rfl (lenOf own_pd5 rfl) rfl (by show 2 * 0 + _ ≤ _; exact Nat.le_of_eq rfl) (hb hby at_351) rfl (by decide) (by decide)
          obtain ⟨rfl, Nq180, e180⟩ := hQ180
          have N180 := Fr.app N178 Nq180
          refine own_s T180 (mkF m 354 #[iv p1, iv p2, iv p3, iv p4, iv W0, iv W1, iv B0, iv B1, rv b143, iv 1, iv 1, iv 0, iv 1, iv B1, iv CC, iv 1, u_, u_, u_] [(.int (own_b (own_dc (0 : Int32) ((0 : Int64) + (1 : Int64)) (((0 : Int64) + (1 : Int64)) + (1 : Int64)) (0 : Int32) p1 (-1 : Int32))))]) st180 ?_
          refine own_s T180 (mkF m 367 #[iv p1, iv p2, iv p3, iv p4, iv W0, iv W1, iv B0, iv B1, rv b143, iv 1, iv 1, iv 0, iv 1, iv B1, iv CC, iv 1, u_, u_, u_] []) (fun _ k => XS.iload X180.here hx rfl (hb hby at_354) rfl  (XS.ifNo X180.here hx rfl (hb hby at_356) rfl ((if0 _ _).trans (teq (by decide : ((0 : Int32) = (0 : Int32)))).2) (XS.iconst X180.here hx rfl (hb hby at_359) (XS.goto X180.here hx rfl (pc0 := 360) (pc' := 364) rfl (hb hby at_360) (by decide) (by decide) (XS.icmpNo X180.here hx rfl (hb hby at_364) rfl (teq (by simp +decide [own_dc, own_b])).2 k))))) ?_
          refine own_s T180 (mkF m 372 #[iv p1, iv p2, iv p3, iv p4, iv W0, iv W1, iv B0, iv B1, rv b143, iv 1, iv 1, iv 0, iv 1, iv B1, iv CC, iv 1, u_, u_, u_] [(.int 1)]) (fun _ k => XS.iconst X180.here hx rfl (hb hby at_367) (XS.goto X180.here hx rfl (pc0 := 368) (pc' := 372) rfl (hb hby at_368) (by decide) (by decide) k)) ?_
          exact own_finZ X180 hx (t := .boolean) hret (by simp) (z' := (1 : Int32)) rfl (hb hby at_372) (own_end (Qv := (own_Q0 Z p1 p2 p3 p4 h0 n0)) X180 (own_some hret) hlk (by decide) (by decide) e180 ⟨rfl, N180⟩)
      · have kk_hb1 := hb1
        obtain ⟨T181, h181, X181, e181, E181, A181, D181, -, st181⟩ := newO X0 hx hZ hown (own_h hw 0 rfl) (own_h hw 1 rfl) (own_h hw 2 rfl) e0 (g := (mkF m 32 #[iv p1, iv p2, iv p3, iv p4, iv W0, iv W1, iv B0, iv B1, u_, u_, u_, u_, u_, u_, u_, u_, u_, u_, u_] [])) rfl (hb hby at_32) (by decide) (by decide)
        obtain ⟨b181, g181⟩ : ∃ z, z = h0.size := ⟨_, rfl⟩
        have g_b181 : n0 ≤ b181 := Nat.le_trans Z0 (Nat.le_of_eq g181.symm)
        have sz_b181 : h0.size ≤ b181 := Nat.le_trans (Keep.refl h0 []).1 (Nat.le_of_eq g181.symm)
        rw [← g181] at A181 D181 st181
        have K181 : Keep h0 h181 [] := (Keep.refl h0 []).ext E181
        have Z181 := Nat.le_trans Z0 E181.1
        have f182 : Fld Z h181 b181 "com/example/allotrope/allotrope/procure/CoverQueue" "reach" "I" (.int 0) := D181 (Or.inr (own_h hw 10 rfl)) (ty := .int) (by decide)
        have f183 : Fld Z h181 b181 "com/example/allotrope/allotrope/procure/CoverQueue" "weights" "[D" .null := D181 (Or.inr (own_h hw 13 rfl)) (ty := (.array .double)) (by decide)
        have f184 : Fld Z h181 b181 "com/example/allotrope/allotrope/procure/CoverQueue" "bounds" "[D" .null := D181 (Or.inr (own_h hw 15 rfl)) (ty := (.array .double)) (by decide)
        have f185 : Fld Z h181 b181 "com/example/allotrope/allotrope/procure/CoverQueue" "setAt" "[J" .null := D181 (Or.inr (own_h hw 18 rfl)) (ty := (.array .long)) (by decide)
        have f186 : Fld Z h181 b181 "com/example/allotrope/allotrope/procure/CoverQueue" "heap" "[I" .null := D181 (Or.inr (own_h hw 21 rfl)) (ty := (.array .int)) (by decide)
        have f187 : Fld Z h181 b181 "com/example/allotrope/allotrope/procure/CoverQueue" "forgotten" "J" (.long 0) := D181 (Or.inl (own_h hw 33 rfl)) (ty := .long) (by decide)
        have f188 : Fld Z h181 b181 "com/example/allotrope/allotrope/procure/CoverQueue" "reckonings" "I" (.int 0) := D181 (Or.inl (own_h hw 35 rfl)) (ty := .int) (by decide)
        have f189 : Fld Z h181 b181 "com/example/allotrope/allotrope/procure/CoverQueue" "best" "I" (.int 0) := D181 (Or.inl (own_h hw 37 rfl)) (ty := .int) (by decide)
        have f190 : Fld Z h181 b181 "com/example/allotrope/allotrope/procure/CoverQueue" "size" "I" (.int 0) := D181 (Or.inl (own_h hw 39 rfl)) (ty := .int) (by decide)
        refine own_s T181 (mkF m 35 #[iv p1, iv p2, iv p3, iv p4, iv W0, iv W1, iv B0, iv B1, u_, u_, u_, u_, u_, u_, u_, u_, u_, u_, u_] [(.ref b181)]) st181 ?_
        refine own_s T181 (mkF m 38 #[iv p1, iv p2, iv p3, iv p4, iv W0, iv W1, iv B0, iv B1, u_, u_, u_, u_, u_, u_, u_, u_, u_, u_, u_] [(.int p1), (.int 2), (.ref b181), (.ref b181)]) (fun _ k => XS.dup X181.here hx rfl (hb hby at_35) rfl rfl (XS.iconst X181.here hx rfl (hb hby at_36) (XS.iloadN X181.here hx rfl (hb hby at_37) rfl  k))) ?_
        obtain ⟨v191, T191, L191, X191, hQ191, st191⟩ := own_callI X181 hx hZ (y := own_y8) (W := 1) (a := b181) rfl hown (own_h hw 3 rfl) (own_h hw 4 rfl) (own_h hw 2 rfl) (own_h hw 5 rfl) (by decide) (own_rmini l Z a0 hw [] b181 p1 h181 n0 Z181 g_b181 A181 f182 f183 f184 f185 f186 f187 f188 f189 f190) (by decide) (by decide) (g := (mkF m 38 #[iv p1, iv p2, iv p3, iv p4, iv W0, iv W1, iv B0, iv B1, u_, u_, u_, u_, u_, u_, u_, u_, u_, u_, u_] [(.int p1), (.int 2), (.ref b181), (.ref b181)])) rfl (by rw [hml]; rfl) (argsL := [(.int 2), (.int p1)]) (rest := [(.ref b181)]) rfl (lenOf own_pd3 rfl) rfl (by show 2 * 0 + _ ≤ _; exact Nat.le_of_eq rfl) (hb hby at_38) e181 (by decide) (by decide)
        obtain ⟨rfl, Nq191, Kq191, wA191, bA191, sA191, hA191, kw191, kb191, ks191, kh191, hNE, hGE, hq191⟩ := hQ191
        have N191 := Fr.app N0 Nq191
        have Z191 := Nat.le_trans Z181 Kq191.1
        obtain ⟨u192_0, u192_1, u192_2, u192_3, u192_4, u192_5, u192_6, u192_7, u192_8, u192_9, u192_10, u192_11, u192_12, u192_13⟩ := id hq191
        refine own_s T191 (mkF m 41 #[iv p1, iv p2, iv p3, iv p4, iv W0, iv W1, iv B0, iv B1, u_, u_, u_, u_, u_, u_, u_, u_, u_, u_, u_] [(.ref b181)]) st191 ?_
        refine own_s T191 (mkF m 45 #[iv p1, iv p2, iv p3, iv p4, iv W0, iv W1, iv B0, iv B1, rv b181, u_, u_, u_, u_, u_, u_, u_, u_, u_, u_] [(.ref b181)]) (fun _ k => XS.astore X191.here hx rfl (hb hby at_41) rfl rfl (l' := #[iv p1, iv p2, iv p3, iv p4, iv W0, iv W1, iv B0, iv B1, rv b181, u_, u_, u_, u_, u_, u_, u_, u_, u_, u_]) rfl (XS.aload X191.here hx rfl (hb hby at_43) rfl rfl k)) ?_
        obtain ⟨v193, T193, L193, X193, hQ193, st193⟩ := own_callV X191 hx hZ (y := own_y4) (z := own_y4) (W := 0) (a := b181) hown (own_h hw 22 rfl) (own_h hw 23 rfl) (notFace_of_selects (args := #[]) (mvT hZ (own_h hw 25 rfl))) (own_h hw 25 rfl) (own_h hw 24 rfl) (own_h hw 2 rfl) (own_h hw 26 rfl) (by decide) (own_rmsta l Z a0 hw [] b181 wA191 bA191 sA191 hA191 kw191 kb191 ks191 kh191 p1 0 0 0 0 (0 : Int64) (0 : Int64) (0 : Int32) (0 : Int32) (0 : Int64) (0 : Int32) (0 : Int32) (0 : Int32) T191.heap n0 Z191 ⟨u192_0, u192_1, u192_2, u192_3, u192_4, u192_5, u192_6, u192_7, u192_8, u192_9, u192_10, u192_11, u192_12, u192_13⟩ hNE hGE own_mg8 own_mg8 own_mg8 own_mg8) (by decide) (by decide) u192_0 (g := (mkF m 45 #[iv p1, iv p2, iv p3, iv p4, iv W0, iv W1, iv B0, iv B1, rv b181, u_, u_, u_, u_, u_, u_, u_, u_, u_, u_] [(.ref b181)])) rfl (by rw [hml]; rfl) (argsL := []) (rest := []) rfl (lenOf own_pd1 rfl) rfl (by show 2 * 0 + _ ≤ _; exact Nat.le_of_eq rfl) (hb hby at_45) rfl (by decide) (by decide)
        obtain ⟨rfl, Nq193, Kq193, hq193⟩ := hQ193
        have N193 := Fr.app N191 Nq193
        have Z193 := Nat.le_trans Z191 Kq193.1
        obtain ⟨u194_0, u194_1, u194_2, u194_3, u194_4, u194_5, u194_6, u194_7, u194_8, u194_9, u194_10, u194_11, u194_12, u194_13⟩ := id hq193
        refine own_s T193 (mkF m 48 #[iv p1, iv p2, iv p3, iv p4, iv W0, iv W1, iv B0, iv B1, rv b181, u_, u_, u_, u_, u_, u_, u_, u_, u_, u_] []) st193 ?_
        refine own_s T193 (mkF m 53 #[iv p1, iv p2, iv p3, iv p4, iv W0, iv W1, iv B0, iv B1, rv b181, u_, u_, u_, u_, u_, u_, u_, u_, u_, u_] [(.int W0), (.int 0), (.ref b181)]) (fun _ k => XS.aload X193.here hx rfl (hb hby at_48) rfl rfl (XS.iconst X193.here hx rfl (hb hby at_50) (XS.iload X193.here hx rfl (hb hby at_51) rfl  k))) ?_
        have mg195 := (own_m8 hW0)
        refine own_s T193 (mkF m 56 #[iv p1, iv p2, iv p3, iv p4, iv W0, iv W1, iv B0, iv B1, rv b181, u_, u_, u_, u_, u_, u_, u_, u_, u_, u_] [(.int B0), (.double (FP.l2d W0.toInt64)), (.int 0), (.ref b181)]) (fun _ k => XS.i2dS X193.here hx rfl (hb hby at_53) rfl (i2d_w _) (XS.iload X193.here hx rfl (hb hby at_54) rfl  k)) ?_
        have mg196 := (own_m8 hB0)
        refine own_s T193 (mkF m 57 #[iv p1, iv p2, iv p3, iv p4, iv W0, iv W1, iv B0, iv B1, rv b181, u_, u_, u_, u_, u_, u_, u_, u_, u_, u_] [(.double (FP.l2d B0.toInt64)), (.double (FP.l2d W0.toInt64)), (.int 0), (.ref b181)]) (fun _ k => XS.i2dS X193.here hx rfl (hb hby at_56) rfl (i2d_w _) k) ?_
        obtain ⟨v197, T197, L197, X197, hQ197, st197⟩ := own_callV X193 hx hZ (y := own_y5) (z := own_y5) (W := 0) (a := b181) hown (own_h hw 40 rfl) (own_h hw 41 rfl) (notFace_of_selects (args := #[]) (mvT hZ (own_h hw 43 rfl))) (own_h hw 43 rfl) (own_h hw 42 rfl) (own_h hw 2 rfl) (own_h hw 44 rfl) (by decide) (own_rma0F l Z a0 hw [] b181 wA191 bA191 sA191 hA191 kw191 kb191 ks191 kh191 p1 0 0 0 0 (0 : Int64) (0 : Int64) (0 : Int32) (0 : Int32) ((0 : Int64) + (1 : Int64)) (0 : Int32) (-1 : Int32) (0 : Int32) W0.toInt64 B0.toInt64 T193.heap n0 Z193 ⟨u194_0, u194_1, u194_2, u194_3, u194_4, u194_5, u194_6, u194_7, u194_8, u194_9, u194_10, u194_11, u194_12, u194_13⟩ hNE hGE own_mg8 own_mg8 own_mg8 own_mg8 mg195 mg196 (own_n64 hb0)) (by decide) (by decide) u194_0 (g := (mkF m 57 #[iv p1, iv p2, iv p3, iv p4, iv W0, iv W1, iv B0, iv B1, rv b181, u_, u_, u_, u_, u_, u_, u_, u_, u_, u_] [(.double (FP.l2d B0.toInt64)), (.double (FP.l2d W0.toInt64)), (.int 0), (.ref b181)])) rfl (by rw [hml]; rfl) (argsL := [(.int 0), (.double (FP.l2d W0.toInt64)), (.double (FP.l2d B0.toInt64))]) (rest := []) rfl (lenOf own_pd4 rfl) rfl (by show 2 * 0 + _ ≤ _; exact Nat.le_of_eq rfl) (hb hby at_57) rfl (by decide) (by decide)
        obtain ⟨rfl, Nq197, Kq197, hq197⟩ := hQ197
        have N197 := Fr.app N193 Nq197
        have Z197 := Nat.le_trans Z193 Kq197.1
        obtain ⟨u198_0, u198_1, u198_2, u198_3, u198_4, u198_5, u198_6, u198_7, u198_8, u198_9, u198_10, u198_11, u198_12, u198_13⟩ := id hq197
        refine own_s T197 (mkF m 60 #[iv p1, iv p2, iv p3, iv p4, iv W0, iv W1, iv B0, iv B1, rv b181, u_, u_, u_, u_, u_, u_, u_, u_, u_, u_] []) st197 ?_
        refine own_s T197 (mkF m 65 #[iv p1, iv p2, iv p3, iv p4, iv W0, iv W1, iv B0, iv B1, rv b181, u_, u_, u_, u_, u_, u_, u_, u_, u_, u_] [(.int W1), (.int 1), (.ref b181)]) (fun _ k => XS.aload X197.here hx rfl (hb hby at_60) rfl rfl (XS.iconst X197.here hx rfl (hb hby at_62) (XS.iload X197.here hx rfl (hb hby at_63) rfl  k))) ?_
        have mg199 := (own_m8 hW1)
        refine own_s T197 (mkF m 68 #[iv p1, iv p2, iv p3, iv p4, iv W0, iv W1, iv B0, iv B1, rv b181, u_, u_, u_, u_, u_, u_, u_, u_, u_, u_] [(.int B1), (.double (FP.l2d W1.toInt64)), (.int 1), (.ref b181)]) (fun _ k => XS.i2dS X197.here hx rfl (hb hby at_65) rfl (i2d_w _) (XS.iload X197.here hx rfl (hb hby at_66) rfl  k)) ?_
        have mg200 := (own_m8 hB1)
        refine own_s T197 (mkF m 69 #[iv p1, iv p2, iv p3, iv p4, iv W0, iv W1, iv B0, iv B1, rv b181, u_, u_, u_, u_, u_, u_, u_, u_, u_, u_] [(.double (FP.l2d B1.toInt64)), (.double (FP.l2d W1.toInt64)), (.int 1), (.ref b181)]) (fun _ k => XS.i2dS X197.here hx rfl (hb hby at_68) rfl (i2d_w _) k) ?_
        obtain ⟨v201, T201, L201, X201, hQ201, st201⟩ := own_callV X197 hx hZ (y := own_y5) (z := own_y5) (W := 0) (a := b181) hown (own_h hw 40 rfl) (own_h hw 41 rfl) (notFace_of_selects (args := #[]) (mvT hZ (own_h hw 43 rfl))) (own_h hw 43 rfl) (own_h hw 42 rfl) (own_h hw 2 rfl) (own_h hw 44 rfl) (by decide) (own_rma1F l Z a0 hw [] b181 wA191 bA191 sA191 hA191 kw191 kb191 ks191 kh191 p1 W0.toInt64 0 B0.toInt64 0 (((0 : Int64) + (1 : Int64)) - (1 : Int64)) (0 : Int64) (0 : Int32) (0 : Int32) ((0 : Int64) + (1 : Int64)) (0 : Int32) (-1 : Int32) (0 : Int32) W1.toInt64 B1.toInt64 T197.heap n0 Z197 ⟨u198_0, u198_1, u198_2, u198_3, u198_4, u198_5, u198_6, u198_7, u198_8, u198_9, u198_10, u198_11, u198_12, u198_13⟩ hNE hGE mg195 own_mg8 mg196 own_mg8 mg199 mg200 (own_n64 hb1)) (by decide) (by decide) u198_0 (g := (mkF m 69 #[iv p1, iv p2, iv p3, iv p4, iv W0, iv W1, iv B0, iv B1, rv b181, u_, u_, u_, u_, u_, u_, u_, u_, u_, u_] [(.double (FP.l2d B1.toInt64)), (.double (FP.l2d W1.toInt64)), (.int 1), (.ref b181)])) rfl (by rw [hml]; rfl) (argsL := [(.int 1), (.double (FP.l2d W1.toInt64)), (.double (FP.l2d B1.toInt64))]) (rest := []) rfl (lenOf own_pd4 rfl) rfl (by show 2 * 0 + _ ≤ _; exact Nat.le_of_eq rfl) (hb hby at_69) rfl (by decide) (by decide)
        obtain ⟨rfl, Nq201, Kq201, hq201⟩ := hQ201
        have N201 := Fr.app N197 Nq201
        have Z201 := Nat.le_trans Z197 Kq201.1
        obtain ⟨u202_0, u202_1, u202_2, u202_3, u202_4, u202_5, u202_6, u202_7, u202_8, u202_9, u202_10, u202_11, u202_12, u202_13⟩ := id hq201
        refine own_s T201 (mkF m 72 #[iv p1, iv p2, iv p3, iv p4, iv W0, iv W1, iv B0, iv B1, rv b181, u_, u_, u_, u_, u_, u_, u_, u_, u_, u_] []) st201 ?_
        refine own_s T201 (mkF m 91 #[iv p1, iv p2, iv p3, iv p4, iv W0, iv W1, iv B0, iv B1, rv b181, u_, u_, u_, u_, u_, u_, u_, u_, u_, u_] [(.int 0)]) (fun _ k => XS.iload X201.here hx rfl (hb hby at_72) rfl  (XS.ifYes X201.here hx rfl (pc0 := 74) (pc' := 81) rfl (hb hby at_74) rfl ((if0 _ _).trans (flt hb0).2.2.2) (by decide) (by decide) (XS.iconst X201.here hx rfl (hb hby at_81) (XS.iload X201.here hx rfl (hb hby at_82) rfl  (XS.ifYes X201.here hx rfl (pc0 := 84) (pc' := 91) rfl (hb hby at_84) rfl ((if0 _ _).trans (flt hb1).2.2.2) (by decide) (by decide) k))))) ?_
        refine own_s T201 (mkF m 97 #[iv p1, iv p2, iv p3, iv p4, iv W0, iv W1, iv B0, iv B1, rv b181, iv 0, u_, u_, u_, u_, u_, u_, u_, u_, u_] [(.ref b181)]) (fun _ k => XS.iconst X201.here hx rfl (hb hby at_91) (XS.iadd X201.here hx rfl (hb hby at_92) rfl (XS.istore X201.here hx rfl (hb hby at_93) rfl (l' := #[iv p1, iv p2, iv p3, iv p4, iv W0, iv W1, iv B0, iv B1, rv b181, iv 0, u_, u_, u_, u_, u_, u_, u_, u_, u_]) rfl (XS.aload X201.here hx rfl (hb hby at_95) rfl rfl k)))) ?_
        obtain ⟨v203, T203, L203, X203, hQ203, st203⟩ := own_callV X201 hx hZ (y := own_y7) (z := own_y7) (W := 0) (a := b181) hown (own_h hw 45 rfl) (own_h hw 46 rfl) (notFace_of_selects (args := #[]) (mvT hZ (own_h hw 48 rfl))) (own_h hw 48 rfl) (own_h hw 47 rfl) (own_h hw 2 rfl) (own_h hw 49 rfl) (by decide) (own_rmdc0 l Z a0 hw [] b181 wA191 bA191 sA191 hA191 kw191 kb191 ks191 kh191 p1 W0.toInt64 W1.toInt64 B0.toInt64 B1.toInt64 (((0 : Int64) + (1 : Int64)) - (1 : Int64)) (((0 : Int64) + (1 : Int64)) - (1 : Int64)) (0 : Int32) ((0 : Int64) + (1 : Int64)) (0 : Int32) (-1 : Int32) (0 : Int32) T201.heap n0 Z201 ⟨u202_0, u202_1, u202_2, u202_3, u202_4, u202_5, u202_6, u202_7, u202_8, u202_9, u202_10, u202_11, u202_12, u202_13⟩) (by decide) (by decide) u202_0 (g := (mkF m 97 #[iv p1, iv p2, iv p3, iv p4, iv W0, iv W1, iv B0, iv B1, rv b181, iv 0, u_, u_, u_, u_, u_, u_, u_, u_, u_] [(.ref b181)])) rfl (by rw [hml]; rfl) (argsL := []) (rest := []) rfl (lenOf own_pd5 rfl) rfl (by show 2 * 0 + _ ≤ _; exact Nat.le_of_eq rfl) (hb hby at_97) rfl (by decide) (by decide)
        obtain ⟨rfl, Nq203, e203⟩ := hQ203
        have N203 := Fr.app N201 Nq203
        refine own_s T203 (mkF m 100 #[iv p1, iv p2, iv p3, iv p4, iv W0, iv W1, iv B0, iv B1, rv b181, iv 0, u_, u_, u_, u_, u_, u_, u_, u_, u_] [(.int (own_b (own_dc (0 : Int32) (((0 : Int64) + (1 : Int64)) - (1 : Int64)) ((0 : Int64) + (1 : Int64)) (0 : Int32) p1 (-1 : Int32))))]) st203 ?_
        refine own_s T203 (mkF m 113 #[iv p1, iv p2, iv p3, iv p4, iv W0, iv W1, iv B0, iv B1, rv b181, iv 0, u_, u_, u_, u_, u_, u_, u_, u_, u_] []) (fun _ k => XS.iload X203.here hx rfl (hb hby at_100) rfl  (XS.ifNo X203.here hx rfl (hb hby at_102) rfl ((if0 _ _).trans (teq (by decide : ((0 : Int32) = (0 : Int32)))).2) (XS.iconst X203.here hx rfl (hb hby at_105) (XS.goto X203.here hx rfl (pc0 := 106) (pc' := 110) rfl (hb hby at_106) (by decide) (by decide) (XS.icmpNo X203.here hx rfl (hb hby at_110) rfl (teq (by simp +decide [own_dc, own_b])).2 k))))) ?_
        refine own_s T203 (mkF m 124 #[iv p1, iv p2, iv p3, iv p4, iv W0, iv W1, iv B0, iv B1, rv b181, iv 0, iv 1, iv 0, u_, u_, u_, u_, u_, u_, u_] []) (fun _ k => XS.iconst X203.here hx rfl (hb hby at_113) (XS.goto X203.here hx rfl (pc0 := 114) (pc' := 118) rfl (hb hby at_114) (by decide) (by decide) (XS.istore X203.here hx rfl (hb hby at_118) rfl (l' := #[iv p1, iv p2, iv p3, iv p4, iv W0, iv W1, iv B0, iv B1, rv b181, iv 0, iv 1, u_, u_, u_, u_, u_, u_, u_, u_]) rfl (XS.iload X203.here hx rfl (hb hby at_120) rfl  (XS.istore X203.here hx rfl (hb hby at_122) rfl (l' := #[iv p1, iv p2, iv p3, iv p4, iv W0, iv W1, iv B0, iv B1, rv b181, iv 0, iv 1, iv 0, u_, u_, u_, u_, u_, u_, u_]) rfl k))))) ?_
        refine own_s T203 (mkF m 341 #[iv p1, iv p2, iv p3, iv p4, iv W0, iv W1, iv B0, iv B1, rv b181, iv 0, iv 1, iv 0, u_, u_, u_, u_, u_, u_, u_] [(.ref b181)]) (fun _ k => XS.iload X203.here hx rfl (hb hby at_124) rfl  (XS.ifYes X203.here hx rfl (pc0 := 126) (pc' := 339) rfl (hb hby at_126) rfl ((if0 _ _).trans (flt (by decide : ¬ ((0 : Int32) < (0 : Int32)))).2.2.2) (by decide) (by decide) (XS.aload X203.here hx rfl (hb hby at_339) rfl rfl k))) ?_
        obtain ⟨v204, T204, L204, X204, hQ204, st204⟩ := own_callV X203 hx hZ (y := own_y3) (z := own_y3) (W := 0) (a := b181) hown (own_h hw 50 rfl) (own_h hw 28 rfl) (notFace_of_selects (args := #[]) (mvT hZ (own_h hw 30 rfl))) (own_h hw 30 rfl) (own_h hw 29 rfl) (own_h hw 2 rfl) (own_h hw 31 rfl) (by decide) (own_rmfo l Z a0 hw [] b181 wA191 bA191 sA191 hA191 kw191 kb191 ks191 kh191 p1 W0.toInt64 W1.toInt64 B0.toInt64 B1.toInt64 (((0 : Int64) + (1 : Int64)) - (1 : Int64)) (((0 : Int64) + (1 : Int64)) - (1 : Int64)) (0 : Int32) (0 : Int32) ((0 : Int64) + (1 : Int64)) (0 : Int32) (-1 : Int32) (0 : Int32) T201.heap n0 Z201 ⟨u202_0, u202_1, u202_2, u202_3, u202_4, u202_5, u202_6, u202_7, u202_8, u202_9, u202_10, u202_11, u202_12, u202_13⟩ hNE hGE mg195 mg199 mg196 mg200) (by decide) (by decide) u202_0 (g := (mkF m 341 #[iv p1, iv p2, iv p3, iv p4, iv W0, iv W1, iv B0, iv B1, rv b181, iv 0, iv 1, iv 0, u_, u_, u_, u_, u_, u_, u_] [(.ref b181)])) rfl (by rw [hml]; rfl) (argsL := []) (rest := []) rfl (lenOf own_pd1 rfl) rfl (by show 2 * 0 + _ ≤ _; exact Nat.le_of_eq rfl) (hb hby at_341) e203 (by decide) (by decide)
        obtain ⟨rfl, Nq204, Kq204, hq204⟩ := hQ204
        have N204 := Fr.app N203 Nq204
        have Z204 := Nat.le_trans Z201 Kq204.1
        obtain ⟨u205_0, u205_1, u205_2, u205_3, u205_4, u205_5, u205_6, u205_7, u205_8, u205_9, u205_10, u205_11, u205_12, u205_13⟩ := id hq204
        refine own_s T204 (mkF m 344 #[iv p1, iv p2, iv p3, iv p4, iv W0, iv W1, iv B0, iv B1, rv b181, iv 0, iv 1, iv 0, u_, u_, u_, u_, u_, u_, u_] []) st204 ?_
        refine own_s T204 (mkF m 351 #[iv p1, iv p2, iv p3, iv p4, iv W0, iv W1, iv B0, iv B1, rv b181, iv 0, iv 1, iv 0, u_, u_, u_, u_, u_, u_, u_] [(.ref b181)]) (fun _ k => XS.iload X204.here hx rfl (hb hby at_344) rfl  (XS.ifNo X204.here hx rfl (hb hby at_346) rfl ((if0 _ _).trans (feq (by decide : ¬ ((1 : Int32) = (0 : Int32)))).1) (XS.aload X204.here hx rfl (hb hby at_349) rfl rfl k))) ?_
        obtain ⟨v206, T206, L206, X206, hQ206, st206⟩ := own_callV X204 hx hZ (y := own_y7) (z := own_y7) (W := 0) (a := b181) hown (own_h hw 45 rfl) (own_h hw 46 rfl) (notFace_of_selects (args := #[]) (mvT hZ (own_h hw 48 rfl))) (own_h hw 48 rfl) (own_h hw 47 rfl) (own_h hw 2 rfl) (own_h hw 49 rfl) (by decide) (own_rmdc0 l Z a0 hw [] b181 wA191 bA191 sA191 hA191 kw191 kb191 ks191 kh191 p1 W0.toInt64 W1.toInt64 B0.toInt64 B1.toInt64 (((0 : Int64) + (1 : Int64)) - (1 : Int64)) (((0 : Int64) + (1 : Int64)) - (1 : Int64)) (0 : Int32) (((0 : Int64) + (1 : Int64)) + (1 : Int64)) (0 : Int32) (-1 : Int32) (0 : Int32) T204.heap n0 Z204 ⟨u205_0, u205_1, u205_2, u205_3, u205_4, u205_5, u205_6, u205_7, u205_8, u205_9, u205_10, u205_11, u205_12, u205_13⟩) (by decide) (by decide) u205_0 (g := (mkF m 351 #[iv p1, iv p2, iv p3, iv p4, iv W0, iv W1, iv B0, iv B1, rv b181, iv 0, iv 1, iv 0, u_, u_, u_, u_, u_, u_, u_] [(.ref b181)])) rfl (by rw [hml]; rfl) (argsL := []) (rest := []) rfl (lenOf own_pd5 rfl) rfl (by show 2 * 0 + _ ≤ _; exact Nat.le_of_eq rfl) (hb hby at_351) rfl (by decide) (by decide)
        obtain ⟨rfl, Nq206, e206⟩ := hQ206
        have N206 := Fr.app N204 Nq206
        refine own_s T206 (mkF m 354 #[iv p1, iv p2, iv p3, iv p4, iv W0, iv W1, iv B0, iv B1, rv b181, iv 0, iv 1, iv 0, u_, u_, u_, u_, u_, u_, u_] [(.int (own_b (own_dc (0 : Int32) (((0 : Int64) + (1 : Int64)) - (1 : Int64)) (((0 : Int64) + (1 : Int64)) + (1 : Int64)) (0 : Int32) p1 (-1 : Int32))))]) st206 ?_
        refine own_s T206 (mkF m 367 #[iv p1, iv p2, iv p3, iv p4, iv W0, iv W1, iv B0, iv B1, rv b181, iv 0, iv 1, iv 0, u_, u_, u_, u_, u_, u_, u_] []) (fun _ k => XS.iload X206.here hx rfl (hb hby at_354) rfl  (XS.ifNo X206.here hx rfl (hb hby at_356) rfl ((if0 _ _).trans (teq (by decide : ((0 : Int32) = (0 : Int32)))).2) (XS.iconst X206.here hx rfl (hb hby at_359) (XS.goto X206.here hx rfl (pc0 := 360) (pc' := 364) rfl (hb hby at_360) (by decide) (by decide) (XS.icmpNo X206.here hx rfl (hb hby at_364) rfl (teq (by simp +decide [own_dc, own_b])).2 k))))) ?_
        refine own_s T206 (mkF m 372 #[iv p1, iv p2, iv p3, iv p4, iv W0, iv W1, iv B0, iv B1, rv b181, iv 0, iv 1, iv 0, u_, u_, u_, u_, u_, u_, u_] [(.int 1)]) (fun _ k => XS.iconst X206.here hx rfl (hb hby at_367) (XS.goto X206.here hx rfl (pc0 := 368) (pc' := 372) rfl (hb hby at_368) (by decide) (by decide) k)) ?_
        exact own_finZ X206 hx (t := .boolean) hret (by simp) (z' := (1 : Int32)) rfl (hb hby at_372) (own_end (Qv := (own_Q0 Z p1 p2 p3 p4 h0 n0)) X206 (own_some hret) hlk (by decide) (by decide) e206 ⟨rfl, N206⟩)
  exact J32 _ _ _ _ (own_a7 _) (own_a7 _) (own_a7m _) (own_a7m _)
set_option maxRecDepth 65536 in
set_option maxHeartbeats 40000000 in
theorem comes_1 {Post : Tables → Env → Array Value → State → Outcome → State → Prop} (hpost : ∀ tb e args s v u, (limb_1_1.after args s (.returned v) u = true ∧ limb_1_2.after args s (.returned v) u = true ∧ True) → FrameEnd s (.returned v) u (Jvm.fieldLocs frame_1_writes args s ++ Jvm.arrayLocs frame_1_arrays args s ++ Jvm.staticLocs frame_1_statics s) 24 128 → Post tb e args s (.returned v) u) :
    ArmFor flags0 classFile x code maxLocals ret World_1 tables_1 room_1 Calls_1 rest_1 Pre_1 Post := by
  intro l hfl _ _ p e ha hc hk s m args below hf hA hF happ hP
  obtain ⟨hcalls, hrest, hpre⟩ := hP
  obtain ⟨-, -, -, hnamed, -, -, -, hat⟩ := (Spec.applies_iff hf).mp happ
  obtain ⟨hg, hn⟩ := and_e (Cond.before_iff.mp (show (Jvm.Cond.and given_1 narrow_1).before args s = true from hpre))
  obtain ⟨g1, g2⟩ := and_e hg
  obtain ⟨g3, g4⟩ := and_e g2
  obtain ⟨g5, g6⟩ := and_e g4
  obtain ⟨g7, g8⟩ := and_e g6
  obtain ⟨w0, w1, w2, w3, rfl⟩ : ∃ w0 w1 w2 w3 : Value, args = #[w0, w1, w2, w3] := by
    have hs : args.size = 4 := by simpa [Cond.value, given_1] using g1
    obtain ⟨L⟩ := args
    match L, hs with
    | [w0, w1, w2, w3], _ => exact ⟨w0, w1, w2, w3, rfl⟩
  have hw := fun d (hd : d ∈ tables_1) => atoms_spec (ws := Jvm.Cond.code x code maxLocals ret :: tables_1) hat d (List.mem_cons_of_mem _ hd)
  have hfit : Fit s := fun {y c} hc i hi => by
    obtain ⟨ha, rfl⟩ := Array.getElem?_eq_some_iff.mp hc
    have q := List.all_eq_true.mp ((Array.all_eq_true_iff_forall_mem.mp hF) _ (Array.getElem_mem ha)) i (List.mem_range.mpr hi)
    simpa [Array.getElem?_eq_getElem hi] using q
  obtain ⟨i0, ei0⟩ := is_v g3
  obtain rfl : w0 = (.int i0) := Option.some.inj ei0
  obtain ⟨i1, ei1⟩ := is_v g5
  obtain rfl : w1 = (.int i1) := Option.some.inj ei1
  obtain ⟨i2, ei2⟩ := is_v g7
  obtain rfl : w2 = (.int i2) := Option.some.inj ei2
  obtain ⟨i3, ei3⟩ := is_v g8
  obtain rfl : w3 = (.int i3) := Option.some.inj ei3
  obtain ⟨n, o, h1, h2, h3, _, L, rfl, ⟨rfl, N⟩, hq⟩ := own_rm0 l s _ hw tables_1 i0 i1 i2 i3 s.heap s.heap.size (Nat.le_refl _)  p e ha hc hk s m _ below hf ((Spec.applies_iff_loose hf).mp happ).1 ⟨rfl, State.Warmed39.refl s, rfl⟩ trivial
  refine ⟨n, _, h1, h2, h3, hpost _ _ _ _ _ _ ⟨Cond.after_iff.mpr rfl, Cond.after_iff.mpr (eq_i res_at (Term.int_eval (1)) rfl), trivial⟩ ⟨hq.1, hq.2.1, (hq.2.2.sift fun y hy => Or.inr (N y hy)).mono (by decide) (by decide)⟩⟩
theorem main_1_1 : Claimed_1_1 := comes_1 fun _ _ _ _ _ _ h hF => ⟨h.1, hF⟩
theorem main_1_2 : Claimed_1_2 := comes_1 fun _ _ _ _ _ _ h hF => ⟨h.2.1, hF⟩
end Jvm.Pilot.@@N@@
namespace Jvm.Pilot.@@N@@
open Jvm Jvm.ClassFile Sem Op Lib Jvm.Free Jvm.Stand Jvm.Pilot.@@N@@.Jvm.D
/-! MADE BY PROGRAM (witnessworld.py) out of the Statement's table words and the real class files: 12 classes; the members and pool entries that the words name. The judged class is class 1, her method 1. -/
namespace start1
open Jvm.ClassFile
def u (s : String) : CpInfo := .utf8 (stringToUtf16 s)
/-- a pool by its gaps: so many unusable entries, then the entry; so many at the end -/
def gap : Nat → List CpInfo → List CpInfo
  | 0, r => r
  | n + 1, r => .unusable :: gap n r
def poolList (es : List (Nat × CpInfo)) (last : Nat) : List CpInfo := es.foldr (fun e r => gap e.1 (e.2 :: r)) (gap last [])
def pool (es : List (Nat × CpInfo)) (last : Nat) : Array CpInfo := ⟨poolList es last⟩
def fileOf (pool : Array CpInfo) (this : Nat) (attrs : Array Attribute := #[]) (ms : Array MethodInfo := #[]) (fl : Nat := 33) (sup : Nat := 0) (ifs : Array Nat := #[]) (fds : Array FieldInfo := #[]) : ClassFile where
  minorVersion := 0
  majorVersion := 65
  constantPool := pool
  accessFlags := fl
  thisClass := this
  superClass := sup
  interfaces := ifs
  fields := fds
  methods := ms
  attributes := attrs
def plain (name : String) (sup : Option ClassId) : Class where
  name := name
  kind := .ordinary
  loader := none
  accessFlags := 33
  super := sup
  interfaces := #[]
  cf := none
  fields := #[]
  methods := #[]
  instanceTypes := #[]
  staticTypes := #[]
  resolved := #[]
  callSites := []
  init := .initialized
  statics := none
  mirror := none

def pool0 : Array CpInfo := pool [(5, u "<init>"), (0, u "()V"), (1, .class_ 10), (1, u "java/lang/Object")] 113

def k0c0 : Code := { maxStack := 0, maxLocals := 1, code := object_method_1_code, exceptionTable := #[], attributes := #[] }
def k0m0 : Method := { name := "<init>", desc := "()V", sig := { parameters := [], returnType := none }, accessFlags := 1, code := some k0c0 }
/-- java/lang/Object -/
def k0 : Class := { plain "java/lang/Object" none with
  accessFlags := 33
  interfaces := #[]
  cf := some (fileOf pool0 8 #[] #[{ accessFlags := 1, nameIndex := 5, descriptorIndex := 6, attributes := #[] }] 33 0 #[] #[])
  fields := #[]
  methods := #[k0m0]
  instanceTypes := #[]
  staticTypes := #[]
  resolved := Array.replicate 124 none
  statics := none }

def pool1 : Array CpInfo := pool [(2, .class_ 4), (1, u "java/lang/Object"), (0, u "<init>"), (0, u "()V"), (0, .class_ 8), (0, u "com/example/allotrope/allotrope/procure/CoverQueue"), (0, .methodref 7 10), (0, .nameAndType 5 11), (0, u "(II)V"), (0, .methodref 7 13), (0, .nameAndType 14 6), (0, u "start"), (0, .methodref 7 16), (0, .nameAndType 17 18), (0, u "add"), (0, u "(IDD)V"), (0, .methodref 7 20), (0, .nameAndType 21 22), (0, u "decided"), (0, u "()Z"), (0, .methodref 24 25), (0, .class_ 26), (0, .nameAndType 27 28), (0, u "com/example/allotrope/allotrope/procure/CoverQueueDecidedPinLaw"), (0, u "zeroLeads"), (0, u "(IIII)Z"), (0, .methodref 30 31), (0, .class_ 32), (0, .nameAndType 33 34), (0, u "java/lang/Math"), (0, u "min"), (0, u "(II)I"), (0, .methodref 7 36), (0, .nameAndType 37 38), (0, u "reckon"), (0, u "(D)V"), (0, .methodref 7 40), (0, .nameAndType 41 6), (0, u "forget"), (2, u "law")] 3

def k1m0 : Method := { name := "<init>", desc := "()V", sig := { parameters := [], returnType := none }, accessFlags := 1, code := none }
def k1c1 : Code := { maxStack := 6, maxLocals := 19, code := code, exceptionTable := #[], attributes := #[] }
def k1m1 : Method := { name := "law", desc := "(IIII)Z", sig := { parameters := [.int, .int, .int, .int], returnType := some .boolean }, accessFlags := 9, code := some k1c1 }
def k1c2 : Code := { maxStack := 3, maxLocals := 4, code := method_3_code, exceptionTable := #[], attributes := #[] }
def k1m2 : Method := { name := "zeroLeads", desc := "(IIII)Z", sig := { parameters := [.int, .int, .int, .int], returnType := some .boolean }, accessFlags := 10, code := some k1c2 }
/-- com/example/allotrope/allotrope/procure/CoverQueueDecidedPinLaw -/
def k1 : Class := { plain "com/example/allotrope/allotrope/procure/CoverQueueDecidedPinLaw" (some 0) with
  accessFlags := 49
  interfaces := #[]
  cf := some (fileOf pool1 24 #[] #[{ accessFlags := 1, nameIndex := 5, descriptorIndex := 6, attributes := #[] }, { accessFlags := 9, nameIndex := 44, descriptorIndex := 28, attributes := #[] }, { accessFlags := 10, nameIndex := 27, descriptorIndex := 28, attributes := #[] }] 49 2 #[] #[])
  fields := #[]
  methods := #[k1m0, k1m1, k1m2]
  instanceTypes := #[]
  staticTypes := #[]
  resolved := Array.replicate 48 none
  statics := none }

def pool2 : Array CpInfo := pool [(1, .methodref 2 3), (0, .class_ 4), (0, .nameAndType 5 6), (0, u "java/lang/Object"), (0, u "<init>"), (0, u "()V"), (0, .fieldref 8 9), (0, .class_ 10), (0, .nameAndType 11 12), (0, u "com/example/allotrope/allotrope/procure/CoverQueue"), (0, u "reach"), (0, u "I"), (0, .fieldref 8 14), (0, .nameAndType 15 16), (0, u "weights"), (0, u "[D"), (0, .fieldref 8 18), (0, .nameAndType 19 16), (0, u "bounds"), (0, .fieldref 8 21), (0, .nameAndType 22 23), (0, u "setAt"), (0, u "[J"), (0, .fieldref 8 25), (0, .nameAndType 26 27), (0, u "heap"), (0, u "[I"), (0, .methodref 8 29), (0, .nameAndType 30 6), (0, u "forget"), (0, .fieldref 8 32), (0, .nameAndType 33 12), (0, u "size"), (0, .fieldref 8 35), (0, .nameAndType 36 37), (0, u "forgotten"), (0, u "J"), (0, .methodref 8 39), (0, .nameAndType 40 41), (0, u "rise"), (0, u "(I)V"), (0, .fieldref 8 43), (0, .nameAndType 44 12), (0, u "reckonings"), (0, .fieldref 8 46), (0, .nameAndType 47 12), (0, u "best"), (0, .methodref 8 49), (0, .nameAndType 50 51), (0, u "leads"), (0, u "(II)Z"), (0, .methodref 8 53), (0, .nameAndType 54 41), (0, u "sink"), (0, u "(II)V"), (2, u "start"), (0, u "add"), (0, u "(IDD)V"), (3, u "decided"), (0, u "()Z"), (1, u "reckon"), (0, u "(D)V")] 2

def k2c0 : Code := { maxStack := 2, maxLocals := 3, code := prog_47_method_1_code, exceptionTable := #[], attributes := #[] }
def k2m0 : Method := { name := "<init>", desc := "(II)V", sig := { parameters := [.int, .int], returnType := none }, accessFlags := 0, code := some k2c0 }
def k2c1 : Code := { maxStack := 2, maxLocals := 1, code := prog_47_method_2_code, exceptionTable := #[], attributes := #[] }
def k2m1 : Method := { name := "start", desc := "()V", sig := { parameters := [], returnType := none }, accessFlags := 0, code := some k2c1 }
def k2c2 : Code := { maxStack := 6, maxLocals := 6, code := prog_47_method_3_code, exceptionTable := #[], attributes := #[] }
def k2m2 : Method := { name := "add", desc := "(IDD)V", sig := { parameters := [.int, .double, .double], returnType := none }, accessFlags := 0, code := some k2c2 }
def k2c3 : Code := { maxStack := 4, maxLocals := 1, code := prog_47_method_5_code, exceptionTable := #[], attributes := #[] }
def k2m3 : Method := { name := "decided", desc := "()Z", sig := { parameters := [], returnType := some .boolean }, accessFlags := 0, code := some k2c3 }
def k2c4 : Code := { maxStack := 6, maxLocals := 4, code := prog_47_method_7_code, exceptionTable := #[], attributes := #[] }
def k2m4 : Method := { name := "reckon", desc := "(D)V", sig := { parameters := [.double], returnType := none }, accessFlags := 0, code := some k2c4 }
def k2c5 : Code := { maxStack := 5, maxLocals := 1, code := prog_47_method_8_code, exceptionTable := #[], attributes := #[] }
def k2m5 : Method := { name := "forget", desc := "()V", sig := { parameters := [], returnType := none }, accessFlags := 0, code := some k2c5 }
def k2c6 : Code := { maxStack := 5, maxLocals := 5, code := prog_47_method_9_code, exceptionTable := #[], attributes := #[] }
def k2m6 : Method := { name := "rise", desc := "(I)V", sig := { parameters := [.int], returnType := none }, accessFlags := 2, code := some k2c6 }
def k2c7 : Code := { maxStack := 4, maxLocals := 7, code := prog_47_method_10_code, exceptionTable := #[], attributes := #[] }
def k2m7 : Method := { name := "sink", desc := "(I)V", sig := { parameters := [.int], returnType := none }, accessFlags := 2, code := some k2c7 }
def k2c8 : Code := { maxStack := 4, maxLocals := 7, code := prog_47_method_11_code, exceptionTable := #[], attributes := #[] }
def k2m8 : Method := { name := "leads", desc := "(II)Z", sig := { parameters := [.int, .int], returnType := some .boolean }, accessFlags := 2, code := some k2c8 }
/-- com/example/allotrope/allotrope/procure/CoverQueue -/
def k2 : Class := { plain "com/example/allotrope/allotrope/procure/CoverQueue" (some 0) with
  accessFlags := 32
  interfaces := #[]
  cf := some (fileOf pool2 8 #[] #[{ accessFlags := 0, nameIndex := 5, descriptorIndex := 55, attributes := #[] }, { accessFlags := 0, nameIndex := 58, descriptorIndex := 6, attributes := #[] }, { accessFlags := 0, nameIndex := 59, descriptorIndex := 60, attributes := #[] }, { accessFlags := 0, nameIndex := 64, descriptorIndex := 65, attributes := #[] }, { accessFlags := 0, nameIndex := 67, descriptorIndex := 68, attributes := #[] }, { accessFlags := 0, nameIndex := 30, descriptorIndex := 6, attributes := #[] }, { accessFlags := 2, nameIndex := 40, descriptorIndex := 41, attributes := #[] }, { accessFlags := 2, nameIndex := 54, descriptorIndex := 41, attributes := #[] }, { accessFlags := 2, nameIndex := 50, descriptorIndex := 51, attributes := #[] }] 32 2 #[] #[{ accessFlags := 18, nameIndex := 15, descriptorIndex := 16, attributes := #[] }, { accessFlags := 18, nameIndex := 19, descriptorIndex := 16, attributes := #[] }, { accessFlags := 18, nameIndex := 22, descriptorIndex := 23, attributes := #[] }, { accessFlags := 2, nameIndex := 36, descriptorIndex := 37, attributes := #[] }, { accessFlags := 18, nameIndex := 11, descriptorIndex := 12, attributes := #[] }, { accessFlags := 2, nameIndex := 44, descriptorIndex := 12, attributes := #[] }, { accessFlags := 2, nameIndex := 47, descriptorIndex := 12, attributes := #[] }, { accessFlags := 18, nameIndex := 26, descriptorIndex := 27, attributes := #[] }, { accessFlags := 2, nameIndex := 33, descriptorIndex := 12, attributes := #[] }])
  fields := #[{ name := "weights", type := (.array .double), accessFlags := 18, slot := 0, constantValue := 0 }, { name := "bounds", type := (.array .double), accessFlags := 18, slot := 1, constantValue := 0 }, { name := "setAt", type := (.array .long), accessFlags := 18, slot := 2, constantValue := 0 }, { name := "forgotten", type := .long, accessFlags := 2, slot := 3, constantValue := 0 }, { name := "reach", type := .int, accessFlags := 18, slot := 4, constantValue := 0 }, { name := "reckonings", type := .int, accessFlags := 2, slot := 5, constantValue := 0 }, { name := "best", type := .int, accessFlags := 2, slot := 6, constantValue := 0 }, { name := "heap", type := (.array .int), accessFlags := 18, slot := 7, constantValue := 0 }, { name := "size", type := .int, accessFlags := 2, slot := 8, constantValue := 0 }]
  methods := #[k2m0, k2m1, k2m2, k2m3, k2m4, k2m5, k2m6, k2m7, k2m8]
  instanceTypes := #[(.array .double), (.array .double), (.array .long), .long, .int, .int, .int, (.array .int), .int]
  staticTypes := #[]
  resolved := Array.replicate 71 none
  statics := none }

def pool3 : Array CpInfo := pool [(1, .class_ 2), (0, u "java/lang/Math"), (1, .class_ 6), (1, u "java/lang/Object"), (0, u "<init>"), (0, u "()V"), (89, .class_ 100), (1, u "java/lang/Math$RandomNumberGeneratorHolder"), (71, u "negativeZeroFloatBits"), (0, u "J"), (2, u "negativeZeroDoubleBits"), (24, u "min"), (43, u "$assertionsDisabled"), (0, u "Z"), (88, u "(II)I"), (2, u "twoToTheDoubleScaleDown"), (0, u "D"), (4, u "twoToTheDoubleScaleUp"), (9, u "E"), (3, u "PI"), (2, u "TAU"), (2, u "DEGREES_TO_RADIANS"), (0, u "RADIANS_TO_DEGREES")] 94

def k3m0 : Method := { name := "<init>", desc := "()V", sig := { parameters := [], returnType := none }, accessFlags := 2, code := none }
def k3c1 : Code := { maxStack := 2, maxLocals := 2, code := jdk_29_method_69_code, exceptionTable := #[], attributes := #[] }
def k3m1 : Method := { name := "min", desc := "(II)I", sig := { parameters := [.int, .int], returnType := some .int }, accessFlags := 9, code := some k3c1 }
/-- java/lang/Math -/
def k3 : Class := { plain "java/lang/Math" (some 0) with
  accessFlags := 49
  interfaces := #[]
  cf := some (fileOf pool3 1 #[.nestMembers #[98]] #[{ accessFlags := 2, nameIndex := 7, descriptorIndex := 8, attributes := #[] }, { accessFlags := 9, nameIndex := 201, descriptorIndex := 335, attributes := #[] }] 49 4 #[] #[{ accessFlags := 25, nameIndex := 354, descriptorIndex := 339, attributes := #[] }, { accessFlags := 25, nameIndex := 358, descriptorIndex := 339, attributes := #[] }, { accessFlags := 25, nameIndex := 361, descriptorIndex := 339, attributes := #[] }, { accessFlags := 26, nameIndex := 364, descriptorIndex := 339, attributes := #[] }, { accessFlags := 26, nameIndex := 365, descriptorIndex := 339, attributes := #[] }, { accessFlags := 26, nameIndex := 172, descriptorIndex := 173, attributes := #[] }, { accessFlags := 26, nameIndex := 176, descriptorIndex := 173, attributes := #[] }, { accessFlags := 8, nameIndex := 344, descriptorIndex := 339, attributes := #[] }, { accessFlags := 8, nameIndex := 338, descriptorIndex := 339, attributes := #[] }, { accessFlags := 4120, nameIndex := 245, descriptorIndex := 246, attributes := #[] }])
  fields := #[{ name := "E", type := .double, accessFlags := 25, slot := 0, constantValue := 0 }, { name := "PI", type := .double, accessFlags := 25, slot := 1, constantValue := 0 }, { name := "TAU", type := .double, accessFlags := 25, slot := 2, constantValue := 0 }, { name := "DEGREES_TO_RADIANS", type := .double, accessFlags := 26, slot := 3, constantValue := 0 }, { name := "RADIANS_TO_DEGREES", type := .double, accessFlags := 26, slot := 4, constantValue := 0 }, { name := "negativeZeroFloatBits", type := .long, accessFlags := 26, slot := 5, constantValue := 0 }, { name := "negativeZeroDoubleBits", type := .long, accessFlags := 26, slot := 6, constantValue := 0 }, { name := "twoToTheDoubleScaleUp", type := .double, accessFlags := 8, slot := 7, constantValue := 0 }, { name := "twoToTheDoubleScaleDown", type := .double, accessFlags := 8, slot := 8, constantValue := 0 }, { name := "$assertionsDisabled", type := .boolean, accessFlags := 4120, slot := 9, constantValue := 0 }]
  methods := #[k3m0, k3m1]
  instanceTypes := #[]
  staticTypes := #[.double, .double, .double, .double, .double, .long, .long, .double, .double, .boolean]
  resolved := Array.replicate 460 none
  statics := none }

def pool4 : Array CpInfo := pool [(1, u "java/lang/Cloneable"), (0, .class_ 1), (0, u "java/lang/Object"), (0, .class_ 3)] 3

/-- java/lang/Cloneable -/
def k4 : Class := { plain "java/lang/Cloneable" (some 0) with
  accessFlags := 1537
  interfaces := #[]
  cf := some (fileOf pool4 2 #[] #[] 1537 4 #[] #[])
  fields := #[]
  methods := #[]
  instanceTypes := #[]
  staticTypes := #[]
  resolved := Array.replicate 8 none
  statics := none }

def pool5 : Array CpInfo := pool [(1, u "java/io/Serializable"), (0, .class_ 1), (0, u "java/lang/Object"), (0, .class_ 3)] 3

/-- java/io/Serializable -/
def k5 : Class := { plain "java/io/Serializable" (some 0) with
  accessFlags := 1537
  interfaces := #[]
  cf := some (fileOf pool5 2 #[] #[] 1537 4 #[] #[])
  fields := #[]
  methods := #[]
  instanceTypes := #[]
  staticTypes := #[]
  resolved := Array.replicate 8 none
  statics := none }

/-- the primitive byte -/
def k6 : Class := { plain "byte" none with kind := .primitive 'B', accessFlags := 0x411 }
/-- [B -/
def k7 : Class := { plain "[B" (some 0) with kind := .array 6 .byte, interfaces := #[4, 5], accessFlags := 1041 }

/-- the primitive int -/
def k8 : Class := { plain "int" none with kind := .primitive 'I', accessFlags := 0x411 }
/-- [I -/
def k9 : Class := { plain "[I" (some 0) with kind := .array 8 .int, interfaces := #[4, 5], accessFlags := 1041 }

/-- the primitive long -/
def k10 : Class := { plain "long" none with kind := .primitive 'J', accessFlags := 0x411 }
/-- [J -/
def k11 : Class := { plain "[J" (some 0) with kind := .array 10 .long, interfaces := #[4, 5], accessFlags := 1041 }

/-- the primitive double -/
def k12 : Class := { plain "double" none with kind := .primitive 'D', accessFlags := 0x411 }
/-- its arrays -/
def k13 : Class := { plain "[D" (some 0) with kind := .array 12 .double, interfaces := #[4, 5], accessFlags := 1041 }

def heap : Heap := #[]
def classes : Array Class := #[k0, k1, k2, k3, k4, k5, k6, k7, k8, k9, k10, k11, k12, k13]
def interned : List (Array UInt16 × Addr) := []
def slotsUsed : Nat := 0
def theMethod : MethodId := ⟨1, 1⟩
def args0 : Array Value := #[.int 1, .int 5, .int 7, .int 7]
def aboutOver (below : List Frame) : State where
  vm := { classes := classes, interned := interned.toArray }
  heap := heap
  slotsUsed := slotsUsed
  threads := #[{ frames := .invoking theMethod args0 :: below }]
def below0 : List Frame := [.native { method := ⟨0, 0⟩, args := #[] }]
def about1 : State := aboutOver below0
def p0 : Program := .bare "" "" ""
def e0 : Env := launch0.env 0 0 0
theorem w_frames : about1.frames = Frame.invoking theMethod args0 :: below0 := rfl
set_option maxRecDepth 65536 in
theorem w_args : argsFit about1.vm theMethod args0 = true := by decide +kernel
set_option maxRecDepth 65536 in
theorem w_heap : heapFits about1 = true := by decide +kernel
set_option maxRecDepth 65536 in
theorem w_runnable : about1.curStatus? = some .runnable := by decide +kernel
set_option maxRecDepth 65536 in
theorem w_alone : about1.alone = true := by decide +kernel
set_option maxRecDepth 65536 in
theorem w_named : about1.methodNamed? x = some theMethod := by decide +kernel
set_option maxRecDepth 65536 in
theorem w_hears : about1.hears theMethod below0 = true := by decide +kernel
set_option maxRecDepth 65536 in
theorem w_ripe : about1.ripe theMethod args0 below0 = true := by decide +kernel
theorem w_running : about1.status = .running := rfl
set_option maxRecDepth 65536 in
theorem w_room : about1.hasRoom e0.platform room_1 = true :=
  launch0.hasRoom_least _ room_1 (by decide +kernel) (by decide +kernel) (by decide +kernel) (by decide +kernel) (by decide +kernel) (by decide +kernel)
theorem allAtoms_all (ts : List Jvm.Cond) (a : Array Jvm.Value) (st : Jvm.State) : (allAtoms ts).before a st = ts.all (fun c => c.before a st) := by
  induction ts with
  | nil => rfl
  | cons c t ih =>
    show (Jvm.Cond.and c (allAtoms t)).before a st = _
    rw [Jvm.Cond.before_and, ih, List.all_cons]
def words1 : List Jvm.Cond := Jvm.Cond.code x code maxLocals ret :: tables_1
/-- a 'code' word, met by the world's own term for the bytes: nothing is compared byte by byte -/
theorem code_word {y : MethodName} {bytes : ByteArray} {mx : Nat} {rt : Option FieldType} {a : Array Value} {s : State} {m : MethodId} {meth : Method} {c : Code} (h1 : s.methodNamed? y = some m) (h2 : s.vm.method? m = some meth) (h3 : meth.code = some c) (h4 : c.code = bytes)
    (h5 : (c.maxLocals == mx && c.exceptionTable.isEmpty && decide (c.maxStack ≤ mostOperands) && decide (meth.sig.returnType = rt) && !meth.locks && decide (parseMethodDescriptor y.desc = some meth.sig)) = true) : (Jvm.Cond.code y bytes mx rt).before a s = true := by
  simp only [Bool.and_eq_true, beq_iff_eq, Bool.not_eq_true', decide_eq_true_eq] at h5
  obtain ⟨⟨⟨⟨⟨g1, g2⟩, g3⟩, g4⟩, g5⟩, g6⟩ := h5
  simp [Cond.before, Cond.holds, Cond.value, h1, h2, h3, h4, g1, g2, g3, g4, g5, g6]
def isCode : Jvm.Cond → Bool
  | .code _ _ _ _ => true
  | _ => false
theorem all_split {L : List Jvm.Cond} {P : Jvm.Cond → Bool} (h1 : L.all (fun c => isCode c || P c) = true) (h2 : ∀ c ∈ L.filter isCode, P c = true) : L.all P = true := by
  refine List.all_eq_true.mpr fun c hc => ?_
  have h := List.all_eq_true.mp h1 c hc
  rcases Bool.eq_false_or_eq_true (isCode c) with hi | hi
  · exact h2 c (List.mem_filter.mpr ⟨hc, hi⟩)
  · simpa [hi] using h
set_option maxRecDepth 65536 in
theorem w_c0 : (Jvm.Cond.code x code maxLocals ret).before args0 about1 = true := code_word (m := ⟨1, 1⟩) (meth := k1m1) (c := k1c1) (by decide +kernel) rfl rfl rfl (by decide +kernel)
set_option maxRecDepth 65536 in
theorem w_c1 : (Jvm.Cond.code ({ cls := "com/example/allotrope/allotrope/procure/CoverQueue", name := "<init>", desc := "(II)V" } : Jvm.MethodName) prog_47_method_1_code (3 : Nat) (Option.none : Option Jvm.ClassFile.FieldType)).before args0 about1 = true := code_word (m := ⟨2, 0⟩) (meth := k2m0) (c := k2c0) (by decide +kernel) rfl rfl rfl (by decide +kernel)
set_option maxRecDepth 65536 in
theorem w_c2 : (Jvm.Cond.code ({ cls := "java/lang/Object", name := "<init>", desc := "()V" } : Jvm.MethodName) object_method_1_code (1 : Nat) (Option.none : Option Jvm.ClassFile.FieldType)).before args0 about1 = true := code_word (m := ⟨0, 0⟩) (meth := k0m0) (c := k0c0) (by decide +kernel) rfl rfl rfl (by decide +kernel)
set_option maxRecDepth 65536 in
theorem w_c3 : (Jvm.Cond.code ({ cls := "com/example/allotrope/allotrope/procure/CoverQueue", name := "start", desc := "()V" } : Jvm.MethodName) prog_47_method_2_code (1 : Nat) (Option.none : Option Jvm.ClassFile.FieldType)).before args0 about1 = true := code_word (m := ⟨2, 1⟩) (meth := k2m1) (c := k2c1) (by decide +kernel) rfl rfl rfl (by decide +kernel)
set_option maxRecDepth 65536 in
theorem w_c4 : (Jvm.Cond.code ({ cls := "com/example/allotrope/allotrope/procure/CoverQueue", name := "forget", desc := "()V" } : Jvm.MethodName) prog_47_method_8_code (1 : Nat) (Option.none : Option Jvm.ClassFile.FieldType)).before args0 about1 = true := code_word (m := ⟨2, 5⟩) (meth := k2m5) (c := k2c5) (by decide +kernel) rfl rfl rfl (by decide +kernel)
set_option maxRecDepth 65536 in
theorem w_c5 : (Jvm.Cond.code ({ cls := "com/example/allotrope/allotrope/procure/CoverQueue", name := "add", desc := "(IDD)V" } : Jvm.MethodName) prog_47_method_3_code (6 : Nat) (Option.none : Option Jvm.ClassFile.FieldType)).before args0 about1 = true := code_word (m := ⟨2, 2⟩) (meth := k2m2) (c := k2c2) (by decide +kernel) rfl rfl rfl (by decide +kernel)
set_option maxRecDepth 65536 in
theorem w_c6 : (Jvm.Cond.code ({ cls := "com/example/allotrope/allotrope/procure/CoverQueue", name := "decided", desc := "()Z" } : Jvm.MethodName) prog_47_method_5_code (1 : Nat) (Option.some Jvm.ClassFile.FieldType.boolean)).before args0 about1 = true := code_word (m := ⟨2, 3⟩) (meth := k2m3) (c := k2c3) (by decide +kernel) rfl rfl rfl (by decide +kernel)
set_option maxRecDepth 65536 in
theorem w_c7 : (Jvm.Cond.code ({ cls := "com/example/allotrope/allotrope/procure/CoverQueue", name := "rise", desc := "(I)V" } : Jvm.MethodName) prog_47_method_9_code (5 : Nat) (Option.none : Option Jvm.ClassFile.FieldType)).before args0 about1 = true := code_word (m := ⟨2, 6⟩) (meth := k2m6) (c := k2c6) (by decide +kernel) rfl rfl rfl (by decide +kernel)
set_option maxRecDepth 65536 in
theorem w_c8 : (Jvm.Cond.code ({ cls := "java/lang/Math", name := "min", desc := "(II)I" } : Jvm.MethodName) jdk_29_method_69_code (2 : Nat) (Option.some Jvm.ClassFile.FieldType.int)).before args0 about1 = true := code_word (m := ⟨3, 1⟩) (meth := k3m1) (c := k3c1) (by decide +kernel) rfl rfl rfl (by decide +kernel)
set_option maxRecDepth 65536 in
theorem w_c9 : (Jvm.Cond.code ({ cls := "com/example/allotrope/allotrope/procure/CoverQueue", name := "reckon", desc := "(D)V" } : Jvm.MethodName) prog_47_method_7_code (4 : Nat) (Option.none : Option Jvm.ClassFile.FieldType)).before args0 about1 = true := code_word (m := ⟨2, 4⟩) (meth := k2m4) (c := k2c4) (by decide +kernel) rfl rfl rfl (by decide +kernel)
set_option maxRecDepth 65536 in
theorem w_c10 : (Jvm.Cond.code ({ cls := "com/example/allotrope/allotrope/procure/CoverQueue", name := "sink", desc := "(I)V" } : Jvm.MethodName) prog_47_method_10_code (7 : Nat) (Option.none : Option Jvm.ClassFile.FieldType)).before args0 about1 = true := code_word (m := ⟨2, 7⟩) (meth := k2m7) (c := k2c7) (by decide +kernel) rfl rfl rfl (by decide +kernel)
set_option maxRecDepth 65536 in
theorem w_c11 : (Jvm.Cond.code ({ cls := "com/example/allotrope/allotrope/procure/CoverQueue", name := "leads", desc := "(II)Z" } : Jvm.MethodName) prog_47_method_11_code (7 : Nat) (Option.some Jvm.ClassFile.FieldType.boolean)).before args0 about1 = true := code_word (m := ⟨2, 8⟩) (meth := k2m8) (c := k2c8) (by decide +kernel) rfl rfl rfl (by decide +kernel)
set_option maxRecDepth 65536 in
theorem w_c12 : (Jvm.Cond.code ({ cls := "com/example/allotrope/allotrope/procure/CoverQueueDecidedPinLaw", name := "zeroLeads", desc := "(IIII)Z" } : Jvm.MethodName) method_3_code (4 : Nat) (Option.some Jvm.ClassFile.FieldType.boolean)).before args0 about1 = true := code_word (m := ⟨1, 2⟩) (meth := k1m2) (c := k1c2) (by decide +kernel) rfl rfl rfl (by decide +kernel)
def codes1 : List Jvm.Cond := [Jvm.Cond.code x code maxLocals ret, Jvm.Cond.code ({ cls := "com/example/allotrope/allotrope/procure/CoverQueue", name := "<init>", desc := "(II)V" } : Jvm.MethodName) prog_47_method_1_code (3 : Nat) (Option.none : Option Jvm.ClassFile.FieldType), Jvm.Cond.code ({ cls := "java/lang/Object", name := "<init>", desc := "()V" } : Jvm.MethodName) object_method_1_code (1 : Nat) (Option.none : Option Jvm.ClassFile.FieldType), Jvm.Cond.code ({ cls := "com/example/allotrope/allotrope/procure/CoverQueue", name := "start", desc := "()V" } : Jvm.MethodName) prog_47_method_2_code (1 : Nat) (Option.none : Option Jvm.ClassFile.FieldType), Jvm.Cond.code ({ cls := "com/example/allotrope/allotrope/procure/CoverQueue", name := "forget", desc := "()V" } : Jvm.MethodName) prog_47_method_8_code (1 : Nat) (Option.none : Option Jvm.ClassFile.FieldType), Jvm.Cond.code ({ cls := "com/example/allotrope/allotrope/procure/CoverQueue", name := "add", desc := "(IDD)V" } : Jvm.MethodName) prog_47_method_3_code (6 : Nat) (Option.none : Option Jvm.ClassFile.FieldType), Jvm.Cond.code ({ cls := "com/example/allotrope/allotrope/procure/CoverQueue", name := "decided", desc := "()Z" } : Jvm.MethodName) prog_47_method_5_code (1 : Nat) (Option.some Jvm.ClassFile.FieldType.boolean), Jvm.Cond.code ({ cls := "com/example/allotrope/allotrope/procure/CoverQueue", name := "rise", desc := "(I)V" } : Jvm.MethodName) prog_47_method_9_code (5 : Nat) (Option.none : Option Jvm.ClassFile.FieldType), Jvm.Cond.code ({ cls := "java/lang/Math", name := "min", desc := "(II)I" } : Jvm.MethodName) jdk_29_method_69_code (2 : Nat) (Option.some Jvm.ClassFile.FieldType.int), Jvm.Cond.code ({ cls := "com/example/allotrope/allotrope/procure/CoverQueue", name := "reckon", desc := "(D)V" } : Jvm.MethodName) prog_47_method_7_code (4 : Nat) (Option.none : Option Jvm.ClassFile.FieldType), Jvm.Cond.code ({ cls := "com/example/allotrope/allotrope/procure/CoverQueue", name := "sink", desc := "(I)V" } : Jvm.MethodName) prog_47_method_10_code (7 : Nat) (Option.none : Option Jvm.ClassFile.FieldType), Jvm.Cond.code ({ cls := "com/example/allotrope/allotrope/procure/CoverQueue", name := "leads", desc := "(II)Z" } : Jvm.MethodName) prog_47_method_11_code (7 : Nat) (Option.some Jvm.ClassFile.FieldType.boolean), Jvm.Cond.code ({ cls := "com/example/allotrope/allotrope/procure/CoverQueueDecidedPinLaw", name := "zeroLeads", desc := "(IIII)Z" } : Jvm.MethodName) method_3_code (4 : Nat) (Option.some Jvm.ClassFile.FieldType.boolean)]
set_option maxRecDepth 65536 in
theorem codes_eq : words1.filter isCode = codes1 := rfl
theorem w_codes : ∀ c ∈ words1.filter isCode, c.before args0 about1 = true := by
  rw [codes_eq]
  intro c hc
  simp only [codes1, List.mem_cons, List.not_mem_nil, or_false] at hc
  rcases hc with rfl | rfl | rfl | rfl | rfl | rfl | rfl | rfl | rfl | rfl | rfl | rfl | rfl
  · exact w_c0
  · exact w_c1
  · exact w_c2
  · exact w_c3
  · exact w_c4
  · exact w_c5
  · exact w_c6
  · exact w_c7
  · exact w_c8
  · exact w_c9
  · exact w_c10
  · exact w_c11
  · exact w_c12
set_option maxRecDepth 65536 in
theorem w_t1 : (words1.take 24).all (fun c => isCode c || c.before args0 about1) = true := by decide +kernel
set_option maxRecDepth 65536 in
theorem w_t2 : ((words1.drop 24).take 24).all (fun c => isCode c || c.before args0 about1) = true := by decide +kernel
set_option maxRecDepth 65536 in
theorem w_t3 : (((words1.drop 24).drop 24).take 24).all (fun c => isCode c || c.before args0 about1) = true := by decide +kernel
set_option maxRecDepth 65536 in
theorem w_t4 : (((words1.drop 24).drop 24).drop 24).all (fun c => isCode c || c.before args0 about1) = true := by decide +kernel
theorem w_tables : (allAtoms (Jvm.Cond.code x code maxLocals ret :: tables_1)).before args0 about1 = true := by
  rw [allAtoms_all]
  show words1.all (fun c => c.before args0 about1) = true
  refine all_split ?_ w_codes
  rw [← List.take_append_drop 24 words1, List.all_append, w_t1, ← List.take_append_drop 24 (words1.drop 24), List.all_append, w_t2, ← List.take_append_drop 24 ((words1.drop 24).drop 24), List.all_append, w_t3, w_t4]
  rfl
set_option maxRecDepth 65536 in
theorem w_case : (Jvm.Cond.and given_1 narrow_1).before args0 about1 = true := by decide +kernel
theorem w_applies : (headSpec (Jvm.Cond.code x code maxLocals ret :: tables_1) room_1).applies x e0.platform about1 = true :=
  (Spec.applies_iff w_frames).mpr ⟨w_running, w_runnable, w_alone, w_named, w_hears, w_ripe, w_room, w_tables⟩
theorem atStart : AtStart classFile x code maxLocals ret World_1 tables_1 room_1 Calls_1 rest_1 Pre_1 launch0 p0 e0 about1 theMethod args0 below0 :=
  ⟨lists_1, trivial, launch0.admits_env _ _ _, launch0.least_env, fairChoices_fair.cas, fairChoices_fair.clock, w_frames, w_args, w_heap, w_applies, trivial, trivial, w_case⟩
end start1
theorem witness_1 : WitnessClaimed_1 := ⟨start1.p0, start1.e0, start1.about1, start1.theMethod, start1.args0, start1.below0, start1.atStart⟩
end Jvm.Pilot.@@N@@
