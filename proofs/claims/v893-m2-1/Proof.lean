import JvmDerived
import JvmDerived.Pilot.@@N@@Statement
import JvmDerived.Pilot.@@N@@Code
set_option linter.unusedVariables false
set_option linter.unusedSimpArgs false
@@BLOCK:Masks.lean.txt@@
namespace Jvm.Pilot.@@N@@
open Jvm Jvm.ClassFile Sem Op Lib Jvm.Free Jvm.Stand Jvm.LawKit Jvm.RoadKit Bundle Jvm.Pilot.@@N@@.Jvm.D
section Own
variable {p : Program} {l : Launch} {e : Env} {R : Room} {s : State} {m : MethodId} {args : Array Value} {below : List Frame} {meth : Method} {c : Code} {T : State} {locs : List Loc} {cells slots : Nat} {Z : State} {a0 : Array Value} {h : Heap}
def own_Go (p : Program) (e : Env) (below : List Frame) (Q : Outcome → State → Prop) (T : State) (g : JFrame) : Prop := ∃ s₂ o, Steps p.tables e below (T.setTop g) s₂ ∧ s₂.status = .running ∧ Ended s₂ below o ∧ Q o s₂
theorem own_st {Q : Outcome → State → Prop} {T T' : State} {g g' : JFrame} (h : ∀ t, Steps p.tables e below (T'.setTop g') t → Steps p.tables e below (T.setTop g) t) (k : own_Go p e below Q T' g') : own_Go p e below Q T g := by
  obtain ⟨s₂, o, h1, h2⟩ := k
  exact ⟨s₂, o, h _ h1, h2⟩
theorem own_s {Q : Outcome → State → Prop} {T : State} {g : JFrame} (T' : State) (g' : JFrame) (h : ∀ t, Steps p.tables e below (T'.setTop g') t → Steps p.tables e below (T.setTop g) t) (k : own_Go p e below Q T' g') : own_Go p e below Q T g := own_st h k
abbrev u_ : Slot := .unset
abbrev v_ : Slot := .second
theorem own_cast {Q : Outcome → State → Prop} {T : State} {g g' : JFrame} (q : g = g') (k : own_Go p e below Q T g') : own_Go p e below Q T g := q ▸ k
def own_Post (Qv : Option Value → Heap → List Loc → Prop) (kc ks : Nat) (U : State) (o : Outcome) (U' : State) : Prop := ∃ v L, o = .returned v ∧ Qv v U'.heap L ∧ FrameEnd U o U' L kc ks
def own_Met (l : Launch) (Z : State) (y : MethodName) (bytes : ByteArray) (maxL : Nat) (ret : Option FieldType) (ws : List Jvm.Cond) (rm : Room) (h0 : Heap) (as' : Array Value) (Qv : Option Value → Heap → List Loc → Prop) (kc ks : Nat) : Prop :=
  MetFree l y (head1 (Jvm.Cond.code y bytes maxL ret :: ws) rm) (fun a U => a = as' ∧ Z.Warmed39 U.vm ∧ U.heap = h0) (fun _ _ _ _ _ => True) (fun _ U o U' => own_Post Qv kc ks U o U')
theorem own_start {y : MethodName} {bytes : ByteArray} {maxL : Nat} {ret : Option FieldType} {ws : List Jvm.Cond} {rm : Room} {h0 : Heap} {as' : Array Value} {Qv : Option Value → Heap → List Loc → Prop} {kc ks : Nat} (hpl : plainFor y = true)
    (body : ∀ (p : Program) (e : Env) (s : State) (m : MethodId) (below : List Frame) (meth : Method) (c : Code) (s₁ : State), Stand p l e rm s m as' below meth c s₁ [] 0 0 → p.tables.exec = Jvm.exec → Z.Warmed39 s.vm → c.code = bytes → c.maxLocals = maxL → meth.sig.returnType = ret → meth.locks = false → s.vm.findClass y.cls = some m.cls → meth.name = y.name → s₁.heap = h0 → own_Go p e below (own_Post Qv kc ks s) s₁ (entryFrame m as' maxL)) :
    own_Met l Z y bytes maxL ret ws rm h0 as' Qv kc ks := by
  refine MetFree.of_bodySF hpl hisR ?_
  intro p e s m args below meth c s₁ Bd hml0 hP hK
  obtain ⟨rfl, hZ, hh⟩ := hP
  exact body p e s m below meth c s₁ (Stand.of_body Bd) Bd.exec hZ Bd.bytes hml0 Bd.returns Bd.notSynchronized (findClass_of_methodNamed Bd.named) (name_of_methodNamed Bd.named Bd.method).1 (by rw [← hh, Bd.state]; rfl)
def own_PostW (Qv : Option Value → Heap → Vm → List Loc → Prop) (kc ks : Nat) (U : State) (o : Outcome) (U' : State) : Prop := ∃ v L, o = .returned v ∧ Qv v U'.heap U'.vm L ∧ ReturnedEndW U o U' L kc ks
def own_MetW (l : Launch) (Z : State) (y : MethodName) (bytes : ByteArray) (maxL : Nat) (ret : Option FieldType) (ws : List Jvm.Cond) (rm : Room) (h0 : Heap) (J : Vm → Prop) (as' : Array Value) (Qv : Option Value → Heap → Vm → List Loc → Prop) (kc ks : Nat) : Prop :=
  MetFree l y (head1 (Jvm.Cond.code y bytes maxL ret :: ws) rm) (fun a U => a = as' ∧ Z.Warmed39 U.vm ∧ U.heap = h0 ∧ J U.vm) (fun _ _ _ _ _ => True) (fun _ U o U' => own_PostW Qv kc ks U o U')
theorem own_startW {y : MethodName} {bytes : ByteArray} {maxL : Nat} {ret : Option FieldType} {ws : List Jvm.Cond} {rm : Room} {h0 : Heap} {J : Vm → Prop} {as' : Array Value} {Qv : Option Value → Heap → Vm → List Loc → Prop} {kc ks : Nat} (hpl : plainFor y = true)
    (body : ∀ (p : Program) (e : Env) (s : State) (m : MethodId) (below : List Frame) (meth : Method) (c : Code) (s₁ : State), Stand p l e rm (s.setVm s.vm) m as' below meth c s₁ [] 0 0 → p.tables.exec = Jvm.exec → Z.Warmed39 s.vm → c.code = bytes → c.maxLocals = maxL → meth.sig.returnType = ret → meth.locks = false → s.vm.findClass y.cls = some m.cls → meth.name = y.name → s₁.heap = h0 → s.Since s.vm 0 → s.heap = h0 → J s.vm → own_Go p e below (own_PostW Qv kc ks s) s₁ (entryFrame m as' maxL)) :
    own_MetW l Z y bytes maxL ret ws rm h0 J as' Qv kc ks := by
  refine MetFree.of_bodySF hpl hisR ?_
  intro p e s m args below meth c s₁ Bd hml0 hP hK
  obtain ⟨rfl, hZ, hh, hJ⟩ := hP
  exact body p e s m below meth c s₁ (Stand.of_body Bd) Bd.exec hZ Bd.bytes hml0 Bd.returns Bd.notSynchronized (findClass_of_methodNamed Bd.named) (name_of_methodNamed Bd.named Bd.method).1 (by rw [← hh, Bd.state]; rfl) ((State.WarmedH.refl s).since 0) hh hJ
def own_End (e : Env) (below : List Frame) (m : MethodId) (T : State) (v : Option Value) (P : Outcome → State → Prop) : Prop := ∃ fs, (∀ (f : JFrame) (acts : List Action), f.method = m → f.locked = none → f.entered = [] → (doReturn e (T.setTop f) acts v).1 = T.setFrames fs) ∧ (T.setFrames fs).status = .running ∧ Ended (T.setFrames fs) below (.returned v) ∧ P (.returned v) (T.setFrames fs)
theorem own_end {Qv : Option Value → Heap → List Loc → Prop} {kc ks : Nat} (X : Stand p l e R s m args below meth c T locs cells slots) {v : Option Value} (hv : meth.sig.returnType = none → v = none) (hlocks : meth.locks = false) (hc : cells ≤ kc) (hs : slots ≤ ks) (eT : T.heap = h) (q : Qv v h locs) : own_End e below m T v (own_Post Qv kc ks s) := by
  obtain ⟨fs, hr, hrun, hended, hW, hsame⟩ := X.leave hv hlocks
  exact ⟨fs, hr, hrun, hended, _, _, rfl, (by show Qv v T.heap locs; rw [eT]; exact q), ⟨_, rfl⟩, hW, hsame.mono hc hs⟩
theorem own_endW {Qv : Option Value → Heap → Vm → List Loc → Prop} {kc ks : Nat} {vm1 : Vm} (X : Stand p l e R (s.setVm vm1) m args below meth c T locs cells slots) {n : Nat} (hS : s.Since vm1 n) {v : Option Value} (hv : meth.sig.returnType = none → v = none) (hlocks : meth.locks = false) (hc : cells ≤ kc) (hs : slots ≤ ks) (eT : T.heap = h) (hk : n ≤ h.size) (q : ∀ vm', (s.setVm vm1).WarmedH vm' → Qv v h vm' locs) : own_End e below m T v (own_PostW Qv kc ks s) := by
  obtain ⟨fs, hr, hrun, hended, hE⟩ := X.leaveW hS (by rw [eT]; exact hk) hv hlocks
  exact ⟨fs, hr, hrun, hended, _, _, rfl, (by show Qv v T.heap T.vm locs; rw [eT]; exact q _ X.warmed), hE.1, hE.2.1, hE.2.2.1, hE.2.2.2.mono hc hs⟩
theorem own_fin {P : Outcome → State → Prop} {v : Option Value} {g : JFrame} (E : own_End e below m T v P) (st : ∀ fs, (∀ (f : JFrame) (acts : List Action), f.method = m → f.locked = none → f.entered = [] → (doReturn e (T.setTop f) acts v).1 = T.setFrames fs) → Steps p.tables e below (T.setTop g) (T.setFrames fs)) : own_Go p e below P T g := by
  obtain ⟨fs, hr, hrun, hended, q⟩ := E
  exact ⟨_, _, st fs hr, hrun, hended, q⟩
theorem own_some {t : FieldType} {v : Option Value} (hret : meth.sig.returnType = some t) : meth.sig.returnType = none → v = none := fun h => by rw [hret] at h; cases h
theorem own_finV {P : Outcome → State → Prop} (X : Stand p l e R s m args below meth c T locs cells slots) (hx : p.tables.exec = Jvm.exec) (hret : meth.sig.returnType = none) {pc : Nat} {Ls : Array Slot} (hd : decode c.code pc = .ok (.return_, 1)) (E : own_End e below m T none P) : own_Go p e below P T (mkF m pc Ls []) :=
  own_fin E (fun fs hr => X.returnOut hx hret hd hr)
theorem own_finX {P : Outcome → State → Prop} (X : Stand p l e R s m args below meth c T locs cells slots) (hx : p.tables.exec = Jvm.exec) {t : FieldType} (hret : meth.sig.returnType = some t) {pc : Nat} {Ls : Array Slot} {w : Value} {i : Instr} {rest : List Value} (hn : narrow t w = w)
    (hi : (i = .ireturn ∧ (t = .int ∨ t = .boolean ∨ t = .byte ∨ t = .char ∨ t = .short) ∧ ∃ z, w = .int z) ∨ (i = .lreturn ∧ t = .long ∧ ∃ z, w = .long z) ∨ (i = .dreturn ∧ t = .double ∧ ∃ z, w = .double z) ∨ (i = .freturn ∧ t = .float ∧ ∃ z, w = .float z) ∨ (i = .areturn ∧ t.isReference = true ∧ w.isRef = true))
    (hd : decode c.code pc = .ok (i, 1)) (E : own_End e below m T (some w) P) : own_Go p e below P T (mkF m pc Ls (w :: rest)) :=
  own_fin E (fun fs hr => retOut X hx hret hn hi hd hr)
theorem own_finI {P : Outcome → State → Prop} (X : Stand p l e R s m args below meth c T locs cells slots) (hx : p.tables.exec = Jvm.exec) (hret : meth.sig.returnType = some .int) {pc : Nat} {Ls : Array Slot} {z : Int32} {rest : List Value} (hd : decode c.code pc = .ok (.ireturn, 1)) (E : own_End e below m T (some (.int z)) P) : own_Go p e below P T (mkF m pc Ls (.int z :: rest)) :=
  own_finX X hx hret rfl (Or.inl ⟨rfl, Or.inl rfl, _, rfl⟩) hd E
theorem own_finL {P : Outcome → State → Prop} (X : Stand p l e R s m args below meth c T locs cells slots) (hx : p.tables.exec = Jvm.exec) (hret : meth.sig.returnType = some .long) {pc : Nat} {Ls : Array Slot} {z : Int64} {rest : List Value} (hd : decode c.code pc = .ok (.lreturn, 1)) (E : own_End e below m T (some (.long z)) P) : own_Go p e below P T (mkF m pc Ls (.long z :: rest)) :=
  own_finX X hx hret rfl (Or.inr (Or.inl ⟨rfl, rfl, _, rfl⟩)) hd E
theorem own_finD {P : Outcome → State → Prop} (X : Stand p l e R s m args below meth c T locs cells slots) (hx : p.tables.exec = Jvm.exec) (hret : meth.sig.returnType = some .double) {pc : Nat} {Ls : Array Slot} {z : UInt64} {rest : List Value} (hd : decode c.code pc = .ok (.dreturn, 1)) (E : own_End e below m T (some (.double z)) P) : own_Go p e below P T (mkF m pc Ls (.double z :: rest)) :=
  own_finX X hx hret rfl (Or.inr (Or.inr (Or.inl ⟨rfl, rfl, _, rfl⟩))) hd E
theorem own_finA {P : Outcome → State → Prop} (X : Stand p l e R s m args below meth c T locs cells slots) (hx : p.tables.exec = Jvm.exec) {t : FieldType} (hret : meth.sig.returnType = some t) (ht : t.isReference = true) {pc : Nat} {Ls : Array Slot} {w : Value} {rest : List Value} (hw : w.isRef = true) (hd : decode c.code pc = .ok (.areturn, 1)) (E : own_End e below m T (some w) P) : own_Go p e below P T (mkF m pc Ls (w :: rest)) :=
  own_finX X hx hret (by rcases ref_cases hw with rfl | ⟨z, rfl⟩ <;> cases t <;> first | rfl | cases ht) (Or.inr (Or.inr (Or.inr (Or.inr ⟨rfl, ht, hw⟩)))) hd E
theorem own_finZ {P : Outcome → State → Prop} (X : Stand p l e R s m args below meth c T locs cells slots) (hx : p.tables.exec = Jvm.exec) {t : FieldType} (hret : meth.sig.returnType = some t) (ht : t = .boolean ∨ t = .byte ∨ t = .char ∨ t = .short) {pc : Nat} {Ls : Array Slot} {z z' : Int32} {rest : List Value} (hz : nar t z = z') (hd : decode c.code pc = .ok (.ireturn, 1)) (E : own_End e below m T (some (.int z')) P) : own_Go p e below P T (mkF m pc Ls (.int z :: rest)) :=
  own_fin E (fun fs hr => by subst hz; exact retN X hx hret ht hd hr)
theorem own_callS (X : Stand p l e R s m args below meth c T locs cells slots) (hx : p.tables.exec = Jvm.exec) (hZ : Z.Warmed39 s.vm) {own : String} {index : Nat} {y : MethodName} {bytes : ByteArray} {maxL : Nat} {ret : Option FieldType} {rm : Room} {W : Nat} {Q : Option Value → Heap → List Loc → Prop} {argsL rest : List Value} {as' : Array Value}
    (hown : s.vm.findClass own = some m.cls) (w1 : (Cond.methodLink own index y).before a0 Z = true) (w2 : (Cond.static y).before a0 Z = true) (w3 : (Cond.initialized y.cls).before a0 Z = true) (w4 : (Cond.code y bytes maxL ret).before a0 Z = true) (hy : y.cls ≠ "java/lang/invoke/MethodHandle" ∧ y.cls ≠ "java/lang/invoke/VarHandle")
    (hM : own_Met l Z y bytes maxL ret [] rm h as' Q rm.cells rm.slots) (hf : rm.frames + 1 ≤ R.frames) (hl : W + (maxL + 11) + rm.locals ≤ R.locals) {g : JFrame} (hg : g.method = m) (hsz : g.locals.size = c.maxLocals) (has : argsL.toArray = as') (hlen : ∀ sig, parseMethodDescriptor y.desc = some sig → argsL.length = sig.parameters.length) (hstk : g.stack = argsL.reverse ++ rest) (hW : 2 * g.monitorRoom + (rest.map fun v => v.category).sum ≤ W)
    (hd : decode c.code g.pc = .ok (.invokestatic index, 3)) (eT : T.heap = h) (hc : cells + rm.cells ≤ R.cells) (hs : slots + rm.slots ≤ R.slots) :
    ∃ v T' L, Stand p l e R s m args below meth c T' (locs ++ L) (cells + rm.cells) (slots + rm.slots) ∧ Q v T'.heap L ∧ ∀ target, Steps p.tables e below (T'.setTop { g with pc := g.pc + 3, stack := v.toList ++ rest }) target → Steps p.tables e below (T.setTop g) target := by
  obtain ⟨v, _, ⟨T', L', k', n'⟩, -, X', ⟨Lc, hQ, l', y', z'⟩, st⟩ := Jvm.LawKit.callS X hx (y := y) hown (mvT hZ w1) (mvT hZ w2) (mvT hZ w3) (mvT hZ w4) hy (backOf (W := W) hM hZ w4 w3 hf hl) (g := g) hg hsz (argsL := argsL) (rest := rest) hlen hstk hW hd (fun _ _ => ⟨has, eT, hc, hs⟩)
  dsimp only [Pt.U, Pt.locs, Pt.cells, Pt.slots] at X' l' y' z' st hQ
  subst l' y' z'
  exact ⟨v, T', Lc, X', hQ, st⟩
theorem own_callI (X : Stand p l e R s m args below meth c T locs cells slots) (hx : p.tables.exec = Jvm.exec) (hZ : Z.Warmed39 s.vm) {own : String} {index : Nat} {y : MethodName} {bytes : ByteArray} {maxL : Nat} {rm : Room} {W : Nat} {Q : Option Value → Heap → List Loc → Prop} {a : Addr} {argsL rest : List Value} {as' : Array Value} (hyn : y.name = "<init>")
    (hown : s.vm.findClass own = some m.cls) (w1 : (Cond.methodLink own index y).before a0 Z = true) (w2 : (Cond.instanceMethod y).before a0 Z = true) (w3 : (Cond.initialized y.cls).before a0 Z = true) (w4 : (Cond.code y bytes maxL none).before a0 Z = true) (hy : y.cls ≠ "java/lang/invoke/MethodHandle" ∧ y.cls ≠ "java/lang/invoke/VarHandle")
    (hM : own_Met l Z y bytes maxL none [] rm h as' Q rm.cells rm.slots) (hf : rm.frames + 1 ≤ R.frames) (hl : W + (maxL + 11) + rm.locals ≤ R.locals) {g : JFrame} (hg : g.method = m) (hsz : g.locals.size = c.maxLocals) (has : (Value.ref a :: argsL).toArray = as') (hlen : ∀ sig, parseMethodDescriptor y.desc = some sig → argsL.length = sig.parameters.length) (hstk : g.stack = argsL.reverse ++ .ref a :: rest) (hW : 2 * g.monitorRoom + (rest.map fun v => v.category).sum ≤ W)
    (hd : decode c.code g.pc = .ok (.invokespecial index, 3)) (eT : T.heap = h) (hc : cells + rm.cells ≤ R.cells) (hs : slots + rm.slots ≤ R.slots) :
    ∃ v T' L, Stand p l e R s m args below meth c T' (locs ++ L) (cells + rm.cells) (slots + rm.slots) ∧ Q v T'.heap L ∧ ∀ target, Steps p.tables e below (T'.setTop { g with pc := g.pc + 3, stack := v.toList ++ rest }) target → Steps p.tables e below (T.setTop g) target := by
  obtain ⟨v, _, ⟨T', L', k', n'⟩, -, X', ⟨Lc, hQ, l', y', z'⟩, st⟩ := X.specialBack hx (y := y) hyn hown (mvT hZ w1) (mvT hZ w2) (mvT hZ w4) hy (backOf (W := W) hM hZ w4 w3 hf hl) (g := g) hg hsz (Steps.refl _) (a := a) (argsL := argsL) (rest := rest) hlen hstk hW hd (fun _ _ => ⟨has, eT, hc, hs⟩)
  dsimp only [Pt.U, Pt.locs, Pt.cells, Pt.slots] at X' l' y' z' st hQ
  subst l' y' z'
  exact ⟨v, T', Lc, X', hQ, fun t k => st.trans k⟩
theorem own_callV (X : Stand p l e R s m args below meth c T locs cells slots) (hx : p.tables.exec = Jvm.exec) (hZ : Z.Warmed39 s.vm) {own C : String} {index : Nat} {y z : MethodName} {bytes : ByteArray} {maxL : Nat} {ret : Option FieldType} {rm : Room} {W : Nat} {Q : Option Value → Heap → List Loc → Prop} {a : Addr} {argsL rest : List Value} {as' : Array Value}
    (hown : s.vm.findClass own = some m.cls) (w1 : (Cond.methodLink own index y).before a0 Z = true) (w2 : (Cond.declares y).before a0 Z = true) (hnf : NotFace s y) (wsel : (Cond.selects C y z).before a0 Z = true) (wi : (Cond.instanceMethod z).before a0 Z = true) (w3 : (Cond.initialized z.cls).before a0 Z = true) (w4 : (Cond.code z bytes maxL ret).before a0 Z = true) (hy : y.cls ≠ "java/lang/invoke/MethodHandle" ∧ y.cls ≠ "java/lang/invoke/VarHandle")
    (hM : own_Met l Z z bytes maxL ret [] rm h as' Q rm.cells rm.slots) (hf : rm.frames + 1 ≤ R.frames) (hl : W + (maxL + 11) + rm.locals ≤ R.locals) (E : Exa Z h a C) {g : JFrame} (hg : g.method = m) (hsz : g.locals.size = c.maxLocals) (has : (Value.ref a :: argsL).toArray = as') (hlen : ∀ sig, parseMethodDescriptor y.desc = some sig → argsL.length = sig.parameters.length) (hstk : g.stack = argsL.reverse ++ .ref a :: rest) (hW : 2 * g.monitorRoom + (rest.map fun v => v.category).sum ≤ W)
    (hd : decode c.code g.pc = .ok (.invokevirtual index, 3)) (eT : T.heap = h) (hc : cells + rm.cells ≤ R.cells) (hs : slots + rm.slots ≤ R.slots) :
    ∃ v T' L, Stand p l e R s m args below meth c T' (locs ++ L) (cells + rm.cells) (slots + rm.slots) ∧ Q v T'.heap L ∧ ∀ target, Steps p.tables e below (T'.setTop { g with pc := g.pc + 3, stack := v.toList ++ rest }) target → Steps p.tables e below (T.setTop g) target := by
  obtain ⟨cq, kq, qa, qb, qc⟩ := isOf hZ eT E
  obtain ⟨v, _, ⟨T', L', k', n'⟩, -, X', ⟨Lc, hQ, l', y', z'⟩, st⟩ := X.virtualBack hx (y := y) (z := z) hown (mvT hZ w1) (mvT hZ w2) hnf (mvT hZ wsel) (mvT hZ wi) hy (backOf (W := W) hM hZ w4 w3 hf hl) qa qc (g := g) hg hsz (Steps.refl _) (argsL := argsL) (rest := rest) hlen hstk hW hd (fun _ _ => ⟨has, eT, hc, hs⟩)
  dsimp only [Pt.U, Pt.locs, Pt.cells, Pt.slots] at X' l' y' z' st hQ
  subst l' y' z'
  exact ⟨v, T', Lc, X', hQ, fun t k => st.trans k⟩
theorem own_callP (X : Stand p l e R s m args below meth c T locs cells slots) (hx : p.tables.exec = Jvm.exec) (hZ : Z.Warmed39 s.vm) {own C : String} {index : Nat} {y : MethodName} {bytes : ByteArray} {maxL : Nat} {ret : Option FieldType} {rm : Room} {W : Nat} {Q : Option Value → Heap → List Loc → Prop} {a : Addr} {argsL rest : List Value} {as' : Array Value}
    (hown : s.vm.findClass own = some m.cls) (w1 : (Cond.methodLink own index y).before a0 Z = true) (wi : (Cond.instanceMethod y).before a0 Z = true) {kk : Nat} (wn : (Cond.instantiable y.cls kk).before a0 Z = true) (wp : (Cond.privateMethod y).before a0 Z = true) (w3 : (Cond.initialized y.cls).before a0 Z = true) (w4 : (Cond.code y bytes maxL ret).before a0 Z = true) (hy : y.cls ≠ "java/lang/invoke/MethodHandle" ∧ y.cls ≠ "java/lang/invoke/VarHandle")
    (hM : own_Met l Z y bytes maxL ret [] rm h as' Q rm.cells rm.slots) (hf : rm.frames + 1 ≤ R.frames) (hl : W + (maxL + 11) + rm.locals ≤ R.locals) (E : Exa Z h a C) {g : JFrame} (hg : g.method = m) (hsz : g.locals.size = c.maxLocals) (has : (Value.ref a :: argsL).toArray = as') (hlen : ∀ sig, parseMethodDescriptor y.desc = some sig → argsL.length = sig.parameters.length) (hstk : g.stack = argsL.reverse ++ .ref a :: rest) (hW : 2 * g.monitorRoom + (rest.map fun v => v.category).sum ≤ W)
    (hd : decode c.code g.pc = .ok (.invokevirtual index, 3)) (eT : T.heap = h) (hc : cells + rm.cells ≤ R.cells) (hs : slots + rm.slots ≤ R.slots) :
    ∃ v T' L, Stand p l e R s m args below meth c T' (locs ++ L) (cells + rm.cells) (slots + rm.slots) ∧ Q v T'.heap L ∧ ∀ target, Steps p.tables e below (T'.setTop { g with pc := g.pc + 3, stack := v.toList ++ rest }) target → Steps p.tables e below (T.setTop g) target := by
  obtain ⟨cq, q1, q2⟩ := E.cell
  obtain ⟨ci, ki, hi1, hi2, -, hi4, -⟩ := Cond.instantiable_spec (mvT (args := args) hZ wn)
  have hsel : (Cond.selects y.cls y y).before args s = true := selects_self_of_private hi1 hi2 (by simp only [Bool.or_eq_false_iff] at hi4; exact hi4.1) (Cond.privateMethod_at (mvP hZ wp (args := #[]))) (mvT hZ wi) hy
  obtain ⟨v, _, ⟨T', L', k', n'⟩, -, X', ⟨Lc, hQ, l', y', z'⟩, st⟩ := X.privateBack hx (y := y) hown (mvT hZ w1) (mvT hZ wi) hsel (Cond.privateMethod_at (mvP hZ wp (args := #[]))) (mvT hZ w4) hy (backOf (W := W) hM hZ w4 w3 hf hl) (g := g) hg hsz (Steps.refl _) (a := a) (by rw [eT]; exact q1) q2 (argsL := argsL) (rest := rest) hlen hstk hW hd (fun _ _ => ⟨has, eT, hc, hs⟩)
  dsimp only [Pt.U, Pt.locs, Pt.cells, Pt.slots] at X' l' y' z' st hQ
  subst l' y' z'
  exact ⟨v, T', Lc, X', hQ, fun t k => st.trans k⟩
end Own

theorem own_h {a0 : Array Value} {Z : State} (hw : ∀ d ∈ tables_1, d.before a0 Z = true) (i : Nat) {d : Jvm.Cond} (h : tables_1[i]? = some d) : d.before a0 Z = true := hw d (List.mem_of_getElem? h)
theorem own_at {T : State} {h : Heap} {a : Addr} {c : Cell} (eT : T.heap = h) (q : h[a]? = some c) : T.heap[a]? = some c := by rw [eT]; exact q
def own_b (b : Bool) : Int32 := cond b 1 0
theorem own_b0 {b : Bool} (h : b = false) : own_b b = 0 := by subst h; rfl
theorem own_b1 {b : Bool} (h : ¬ b = false) : ¬ own_b b = 0 := by cases b; exact absurd rfl h; decide
theorem own_narb (b : Bool) : nar .boolean (own_b b) = own_b b := by cases b <;> rfl
theorem own_lclt {a b : Int64} (h : a < b) : lcmpW a b < 0 := by rw [lcW]; exact (lc_lt a b).mpr h
theorem own_lcltN {a b : Int64} (h : ¬ a < b) : ¬ lcmpW a b < 0 := fun q => by rw [lcW] at q; exact h ((lc_lt a b).mp q)
theorem own_lcgt {a b : Int64} (h : b < a) : 0 < lcmpW a b := by rw [lcW]; exact (lc_gt a b).mpr h
theorem own_lcgtN {a b : Int64} (h : ¬ b < a) : ¬ 0 < lcmpW a b := fun q => by rw [lcW] at q; exact h ((lc_gt a b).mp q)
theorem own_lceq {a b : Int64} (h : a = b) : lcmpW a b = 0 := by rw [lcW]; exact (lc_eq a b).mpr h
theorem own_lceqN {a b : Int64} (h : ¬ a = b) : ¬ lcmpW a b = 0 := fun q => by rw [lcW] at q; exact h ((lc_eq a b).mp q)
theorem own_insKeep {Z : State} {h h' : Heap} {a : Addr} {C : String} {bo : Bool} {ws : List Addr} (F : Ins Z h a C bo) (K : Keep h h' ws) : Ins Z h' a C bo := by
  obtain ⟨cell, cT, h1, h2, h3⟩ := F
  obtain ⟨c', q1, q2, q3, -⟩ := K.2.2 _ _ h1
  exact ⟨c', cT, q1, h2, by rw [q2, q3]; exact h3⟩
theorem own_staKeep {Z : State} {h h' : Heap} {C n d : String} {v : Value} (F : Sta Z h C n d v) (K : Keep h h' []) : Sta Z h' C n d v := by
  obtain ⟨cf, i, k, f, st, cell, h1, h2, h3, h4, h5, r⟩ := F
  exact ⟨cf, i, k, f, st, cell, h1, h2, h3, h4, K.2.1 _ _ h5 nin0, r⟩
theorem own_narR {t : FieldType} {w : Value} (hw : w.isRef = true) : narrow t w = w := by rcases ref_cases hw with rfl | ⟨z, rfl⟩ <;> cases t <;> rfl
theorem own_fitR {n : String} {w : Value} (hw : w.isRef = true) : fits (.object n) w = true := by rcases ref_cases hw with rfl | ⟨z, rfl⟩ <;> rfl
theorem own_len {p : Program} {l : Launch} {e : Env} {R : Room} {s : State} {m : MethodId} {args : Array Value} {below : List Frame} {meth : Method} {c : Code} {T : State} {locs : List Loc} {cells slots : Nat} {Z : State} {h : Heap} (X : Stand p l e R s m args below meth c T locs cells slots) (hx : p.tables.exec = Jvm.exec) (hZ : Z.Warmed39 s.vm) (eT : T.heap = h) {a : Addr} {cl : Cell} {ty : FieldType} {z : Int32} (A : Arr Z h a cl ty) (S : cl.slots.size = z.toNatClampNeg) (hz : ¬ z < 0)
    {g : JFrame} (hg : g.method = m) {rest : List Value} (hs : g.stack = .ref a :: rest) (hd : decode c.code g.pc = .ok (.arraylength, 1)) {target : State} (k : Steps p.tables e below (T.setTop { g with pc := g.pc + 1, stack := .int z :: rest }) target) : Steps p.tables e below (T.setTop g) target := by
  refine X.arraylength hx (by rw [eT]; exact A.1) (State.isArrayOf_alike hZ.alike A.2.1) (g := g) hg hs hd _ ?_
  rw [len_of S hz]
  exact k
def own_D (z : Int32) : Bool := !decide (z < 48) && !decide ((57 : Int32) < z)
def own_all (f : Nat → Bool) : Nat → Nat → Bool
  | _, 0 => true
  | i, n + 1 => f i && own_all f (i + 1) n
theorem own_getm (zs : List Int32) (j : Nat) : (zs.map Value.int).getD j (.int 0) = .int (zs.getD j 0) := by
  simp only [List.getD_eq_getElem?_getD, List.getElem?_map]
  cases zs[j]? <;> rfl
theorem own_nat {j : Int32} (h : ¬ j < 0) : j.toInt = (j.toNatClampNeg : Int) := nat_of h
theorem own_stop {i t : Int32} (h : ¬ i < 0) (q : t.toNatClampNeg - i.toNatClampNeg = 0) : ¬ i < t := fun c => by
  have e0 : (0 : Int32).toInt = 0 := rfl
  rw [Int32.lt_iff_toInt_lt] at h c
  simp only [Int32.toNatClampNeg] at q
  omega
theorem own_more {i t : Int32} {n : Nat} (h : ¬ i < 0) (q : t.toNatClampNeg - i.toNatClampNeg = n + 1) : i < t := by
  have e0 : (0 : Int32).toInt = 0 := rfl
  rw [Int32.lt_iff_toInt_lt] at h ⊢
  simp only [Int32.toNatClampNeg] at q
  omega
theorem own_inc {i t : Int32} (h : ¬ i < 0) (q : i < t) : ¬ (i + 1) < 0 ∧ (i + 1).toNatClampNeg = i.toNatClampNeg + 1 := by
  have e0 : (0 : Int32).toInt = 0 := rfl
  have e1 : (1 : Int32).toInt = 1 := rfl
  rw [Int32.lt_iff_toInt_lt] at h q
  have t1 := t.toInt_lt
  have e : (i + 1).toInt = i.toInt + 1 := by
    rw [Int32.toInt_add, e1]
    exact Int.bmod_eq_of_le (by omega) (by omega)
  constructor
  · rw [Int32.lt_iff_toInt_lt, e]; omega
  · simp only [Int32.toNatClampNeg, e]; omega
theorem own_in5 {i t : Int32} (h : ¬ i < 0) (q : i < t) (r : ¬ (5 : Int32) < t) : ¬ i < 0 ∧ i < 5 := by
  refine ⟨h, ?_⟩
  rw [Int32.lt_iff_toInt_lt] at q r ⊢
  omega
theorem own_goT {f : Nat → Bool} {B R : Bool} {i j n : Nat} (hB : ¬ B = false) (h : (B && own_all f i (n + 1)) = R) (hj : j = i + 1) (hf : f i = true) : (true && own_all f j n) = R := by
  subst hj; rw [← h, Bool.of_not_eq_false hB]; simp [own_all, hf]
theorem own_goF {f : Nat → Bool} {B R : Bool} {i j n : Nat} (h : (B && own_all f i (n + 1)) = R) (hf : f i = false) : (false && own_all f j n) = R := by
  rw [← h]; simp [own_all, hf]
theorem own_Dlo {z : Int32} (h : z < 48) : own_D z = false := by simp [own_D, h]
theorem own_Dhi {z : Int32} (h : (57 : Int32) < z) : own_D z = false := by simp [own_D, h]
theorem own_Dmid {z : Int32} (h : ¬ z < 48) (h' : ¬ (57 : Int32) < z) : own_D z = true := by simp [own_D, h, h']
theorem own_mod6 {x : Int32} (h : 0 ≤ x) : ¬ (x % 6) < 0 ∧ ¬ (5 : Int32) < (x % 6) := by
  have e0 : (0 : Int32).toInt = 0 := rfl
  have e5 : (5 : Int32).toInt = 5 := rfl
  have e6 : (6 : Int32).toInt = 6 := rfl
  rw [Int32.le_iff_toInt_le] at h
  have e : (x % 6).toInt = x.toInt.tmod 6 := by rw [Int32.toInt_mod, e6]
  have q := Int.tmod_eq_emod_of_nonneg (a := x.toInt) (b := 6) (by omega)
  constructor <;> (rw [Int32.lt_iff_toInt_lt, e, q]; omega)
def own_mn (a b : Int32) : Int32 := if b < a then b else a
def own_mx (a b : Int32) : Int32 := if a < b then b else a
theorem own_mnP {P : Int32 → Prop} {a b : Int32} (ha : P a) (hb : P b) : P (own_mn a b) := by unfold own_mn; split <;> assumption
theorem own_mxP {P : Int32 → Prop} {a b : Int32} (ha : P a) (hb : P b) : P (own_mx a b) := by unfold own_mx; split <;> assumption
theorem own_lit {F : Nat} {f : Int32} (h : ¬ f < 0) (hF : f.toNatClampNeg = F) (k : Int32) (hk : ¬ k < 0) : decide (k < f) = decide (k.toNatClampNeg < F) := by
  have e0 : (0 : Int32).toInt = 0 := rfl
  apply decide_eq_decide.mpr
  rw [Int32.lt_iff_toInt_lt] at h hk ⊢
  simp only [Int32.toNatClampNeg] at hF ⊢
  omega
theorem own_allEq {f : Nat → Bool} {a b : Int32} (ha : ¬ a < 0) (ha5 : ¬ (5 : Int32) < a) (hb : ¬ b < 0) (hb5 : ¬ (5 : Int32) < b) :
    own_all f a.toNatClampNeg (b.toNatClampNeg - a.toNatClampNeg) = ((decide ((0 : Int32) < a) || !decide ((0 : Int32) < b) || f (0 : Int32).toNatClampNeg) && (decide ((1 : Int32) < a) || !decide ((1 : Int32) < b) || f (1 : Int32).toNatClampNeg) && (decide ((2 : Int32) < a) || !decide ((2 : Int32) < b) || f (2 : Int32).toNatClampNeg) && (decide ((3 : Int32) < a) || !decide ((3 : Int32) < b) || f (3 : Int32).toNatClampNeg) && (decide ((4 : Int32) < a) || !decide ((4 : Int32) < b) || f (4 : Int32).toNatClampNeg)) := by
  obtain ⟨A, hA⟩ : ∃ A, a.toNatClampNeg = A := ⟨_, rfl⟩
  obtain ⟨B, hB⟩ : ∃ B, b.toNatClampNeg = B := ⟨_, rfl⟩
  have bd : ∀ {x : Int32} {X : Nat}, ¬ (5 : Int32) < x → x.toNatClampNeg = X → X ≤ 5 := fun {x X} h e => by
    have e5 : (5 : Int32).toInt = 5 := rfl
    rw [Int32.lt_iff_toInt_lt] at h
    simp only [Int32.toNatClampNeg] at e
    omega
  have A5 := bd ha5 hA
  have B5 := bd hb5 hB
  rw [own_lit ha hA 0 (by decide), own_lit ha hA 1 (by decide), own_lit ha hA 2 (by decide), own_lit ha hA 3 (by decide), own_lit ha hA 4 (by decide), own_lit hb hB 0 (by decide), own_lit hb hB 1 (by decide), own_lit hb hB 2 (by decide), own_lit hb hB 3 (by decide), own_lit hb hB 4 (by decide), hA, hB]
  have k0 : (0 : Int32).toNatClampNeg = 0 := rfl
  have k1 : (1 : Int32).toNatClampNeg = 1 := rfl
  have k2 : (2 : Int32).toNatClampNeg = 2 := rfl
  have k3 : (3 : Int32).toNatClampNeg = 3 := rfl
  have k4 : (4 : Int32).toNatClampNeg = 4 := rfl
  rw [k0, k1, k2, k3, k4]
  clear hA hB ha hb ha5 hb5 bd
  match A, A5, B, B5 with
  | 0, _, 0, _ => simp [own_all, Bool.and_assoc]
  | 0, _, 1, _ => simp [own_all, Bool.and_assoc]
  | 0, _, 2, _ => simp [own_all, Bool.and_assoc]
  | 0, _, 3, _ => simp [own_all, Bool.and_assoc]
  | 0, _, 4, _ => simp [own_all, Bool.and_assoc]
  | 0, _, 5, _ => simp [own_all, Bool.and_assoc]
  | 1, _, 0, _ => simp [own_all, Bool.and_assoc]
  | 1, _, 1, _ => simp [own_all, Bool.and_assoc]
  | 1, _, 2, _ => simp [own_all, Bool.and_assoc]
  | 1, _, 3, _ => simp [own_all, Bool.and_assoc]
  | 1, _, 4, _ => simp [own_all, Bool.and_assoc]
  | 1, _, 5, _ => simp [own_all, Bool.and_assoc]
  | 2, _, 0, _ => simp [own_all, Bool.and_assoc]
  | 2, _, 1, _ => simp [own_all, Bool.and_assoc]
  | 2, _, 2, _ => simp [own_all, Bool.and_assoc]
  | 2, _, 3, _ => simp [own_all, Bool.and_assoc]
  | 2, _, 4, _ => simp [own_all, Bool.and_assoc]
  | 2, _, 5, _ => simp [own_all, Bool.and_assoc]
  | 3, _, 0, _ => simp [own_all, Bool.and_assoc]
  | 3, _, 1, _ => simp [own_all, Bool.and_assoc]
  | 3, _, 2, _ => simp [own_all, Bool.and_assoc]
  | 3, _, 3, _ => simp [own_all, Bool.and_assoc]
  | 3, _, 4, _ => simp [own_all, Bool.and_assoc]
  | 3, _, 5, _ => simp [own_all, Bool.and_assoc]
  | 4, _, 0, _ => simp [own_all, Bool.and_assoc]
  | 4, _, 1, _ => simp [own_all, Bool.and_assoc]
  | 4, _, 2, _ => simp [own_all, Bool.and_assoc]
  | 4, _, 3, _ => simp [own_all, Bool.and_assoc]
  | 4, _, 4, _ => simp [own_all, Bool.and_assoc]
  | 4, _, 5, _ => simp [own_all, Bool.and_assoc]
  | 5, _, 0, _ => simp [own_all, Bool.and_assoc]
  | 5, _, 1, _ => simp [own_all, Bool.and_assoc]
  | 5, _, 2, _ => simp [own_all, Bool.and_assoc]
  | 5, _, 3, _ => simp [own_all, Bool.and_assoc]
  | 5, _, 4, _ => simp [own_all, Bool.and_assoc]
  | 5, _, 5, _ => simp [own_all, Bool.and_assoc]
  | A + 6, h, _, _ => omega
  | _, _, B + 6, h => omega
abbrev own_y0 : MethodName := ⟨"com/example/allotrope/allotrope/text/WholeNumberDigitsPinLaw", "ch", "(I)C"⟩
theorem own_pn0 : plainName "com/example/allotrope/allotrope/text/WholeNumberDigitsPinLaw" = true := by first | (simp [plainName, overriddenIn]; done) | decide +kernel
theorem own_dch_0 : decode method_2_code 0 = .ok (.iload_n 0, 1) := by decide +kernel
theorem own_dch_1 : decode method_2_code 1 = .ok (.ldc 7, 2) := by decide +kernel
theorem own_dch_3 : decode method_2_code 3 = .ok (.iand, 1) := by decide +kernel
theorem own_dch_4 : decode method_2_code 4 = .ok (.ifCond .eq 15, 3) := by decide +kernel
theorem own_dch_7 : decode method_2_code 7 = .ok (.bipush 47, 2) := by decide +kernel
theorem own_dch_9 : decode method_2_code 9 = .ok (.iload_n 0, 1) := by decide +kernel
theorem own_dch_10 : decode method_2_code 10 = .ok (.bipush 17, 2) := by decide +kernel
theorem own_dch_12 : decode method_2_code 12 = .ok (.iushr, 1) := by decide +kernel
theorem own_dch_13 : decode method_2_code 13 = .ok (.bipush 12, 2) := by decide +kernel
theorem own_dch_15 : decode method_2_code 15 = .ok (.irem, 1) := by decide +kernel
theorem own_dch_16 : decode method_2_code 16 = .ok (.iadd, 1) := by decide +kernel
theorem own_dch_17 : decode method_2_code 17 = .ok (.i2c, 1) := by decide +kernel
theorem own_dch_18 : decode method_2_code 18 = .ok (.ireturn, 1) := by decide +kernel
theorem own_dch_19 : decode method_2_code 19 = .ok (.iload_n 0, 1) := by decide +kernel
theorem own_dch_20 : decode method_2_code 20 = .ok (.ldc 8, 2) := by decide +kernel
theorem own_dch_22 : decode method_2_code 22 = .ok (.iand, 1) := by decide +kernel
theorem own_dch_23 : decode method_2_code 23 = .ok (.i2c, 1) := by decide +kernel
theorem own_dch_24 : decode method_2_code 24 = .ok (.ireturn, 1) := by decide +kernel
theorem own_efch (m : MethodId) (x0 : Int32) : entryFrame m #[(.int x0)] 1 = mkF m 0 #[iv x0] [] := by first | (simp [entryFrame, mkF, argsToLocals, Value.category]; done) | rfl
def own_Qch (Z : State) (p1 : Int32) (h0 : Heap) (n0 : Nat) : Option Value → Heap → List Loc → Prop := fun v h L => (∃ z, v = some (.int z)) ∧ Fr n0 L ∧ h = h0
def own_Rch : Room := { frames := 0, cells := 0, slots := 0, locals := 0 }
set_option maxRecDepth 65536 in
set_option maxHeartbeats 40000000 in
theorem own_rmch (l : Launch) (Z : State) (a0 : Array Value) (hw : ∀ d ∈ tables_1, d.before a0 Z = true) (ws : List Jvm.Cond) (p1 : Int32) (h0 : Heap) (n0 : Nat) (Z0 : n0 ≤ h0.size) :
    own_Met l Z own_y0 method_2_code 1 (some .char) ws own_Rch h0 #[(.int p1)] (own_Qch Z p1 h0 n0) own_Rch.cells own_Rch.slots := by
  refine own_start (plainFor_of_name own_pn0) ?_
  intro p e s m below meth c s₁ X0 hx hZ hby hml hret hlk hown hnm e0
  have hown : s.vm.findClass "com/example/allotrope/allotrope/text/WholeNumberDigitsPinLaw" = some m.cls := hown
  have hml : c.maxLocals = 1 := hml
  have N0 := Fr.nil n0
  refine own_cast (own_efch m p1) ?_
  refine own_s s₁ (mkF m 1 #[iv p1] [(.int p1)]) (fun _ k => XS.iloadN X0.here hx rfl (hb hby own_dch_0) rfl  k) ?_
  refine own_s s₁ (mkF m 3 #[iv p1] [(.int 65536), (.int p1)]) (X0.ldcInt hx hown (mvT hZ (own_h hw 5 rfl)) (g := (mkF m 1 #[iv p1] [(.int p1)])) rfl (hb hby own_dch_1)) ?_
  refine own_s s₁ (mkF m 4 #[iv p1] [(.int (p1 &&& (65536 : Int32)))]) (fun _ k => XS.iand X0.here hx rfl (hb hby own_dch_3) rfl k) ?_
  by_cases c4 : (p1 &&& (65536 : Int32)) = (0 : Int32)
  · refine own_s s₁ (mkF m 20 #[iv p1] [(.int p1)]) (fun _ k => XS.ifYes X0.here hx rfl (pc0 := 4) (pc' := 19) rfl (hb hby own_dch_4) rfl ((if0 _ _).trans (teq c4).1) (by decide) (by decide) (XS.iloadN X0.here hx rfl (hb hby own_dch_19) rfl  k)) ?_
    refine own_s s₁ (mkF m 22 #[iv p1] [(.int 65535), (.int p1)]) (X0.ldcInt hx hown (mvT hZ (own_h hw 6 rfl)) (g := (mkF m 20 #[iv p1] [(.int p1)])) rfl (hb hby own_dch_20)) ?_
    refine own_s s₁ (mkF m 24 #[iv p1] [(.int ((p1 &&& (65535 : Int32)).toUInt32.toUInt16.toUInt32.toInt32))]) (fun _ k => XS.iand X0.here hx rfl (hb hby own_dch_22) rfl (XS.i2c X0.here hx rfl (hb hby own_dch_23) rfl k)) ?_
    exact own_finZ X0 hx (t := .char) hret (by simp) (z' := (nar .char ((p1 &&& (65535 : Int32)).toUInt32.toUInt16.toUInt32.toInt32))) rfl (hb hby own_dch_24) (own_end (Qv := (own_Qch Z p1 h0 n0)) X0 (own_some hret) hlk (by decide) (by decide) e0 ⟨⟨_, rfl⟩, N0, rfl⟩)
  · refine own_s s₁ (mkF m 13 #[iv p1] [(.int ((p1.toUInt32 >>> ((17 : Int32) &&& 31).toUInt32).toInt32)), (.int 47)]) (fun _ k => XS.ifNo X0.here hx rfl (hb hby own_dch_4) rfl ((if0 _ _).trans (feq c4).1) (XS.bipush X0.here hx rfl (hb hby own_dch_7) (XS.iloadN X0.here hx rfl (hb hby own_dch_9) rfl  (XS.bipush X0.here hx rfl (hb hby own_dch_10) (XS.iushr X0.here hx rfl (hb hby own_dch_12) rfl k))))) ?_
    refine own_s s₁ (mkF m 18 #[iv p1] [(.int (((47 : Int32) + (((p1.toUInt32 >>> ((17 : Int32) &&& 31).toUInt32).toInt32) % (12 : Int32))).toUInt32.toUInt16.toUInt32.toInt32))]) (fun _ k => XS.bipush X0.here hx rfl (hb hby own_dch_13) (iremM X0 hx rfl (hb hby own_dch_15) rfl (by decide) (XS.iadd X0.here hx rfl (hb hby own_dch_16) rfl (XS.i2c X0.here hx rfl (hb hby own_dch_17) rfl k)))) ?_
    exact own_finZ X0 hx (t := .char) hret (by simp) (z' := (nar .char (((47 : Int32) + (((p1.toUInt32 >>> ((17 : Int32) &&& 31).toUInt32).toInt32) % (12 : Int32))).toUInt32.toUInt16.toUInt32.toInt32))) rfl (hb hby own_dch_18) (own_end (Qv := (own_Qch Z p1 h0 n0)) X0 (own_some hret) hlk (by decide) (by decide) e0 ⟨⟨_, rfl⟩, N0, rfl⟩)
abbrev own_y1 : MethodName := ⟨"java/lang/Math", "min", "(II)I"⟩
theorem own_dmn_0 : decode jdk_29_method_69_code 0 = .ok (.iload_n 0, 1) := by decide +kernel
theorem own_dmn_1 : decode jdk_29_method_69_code 1 = .ok (.iload_n 1, 1) := by decide +kernel
theorem own_dmn_2 : decode jdk_29_method_69_code 2 = .ok (.if_icmp .gt 7, 3) := by decide +kernel
theorem own_dmn_5 : decode jdk_29_method_69_code 5 = .ok (.iload_n 0, 1) := by decide +kernel
theorem own_dmn_6 : decode jdk_29_method_69_code 6 = .ok (.goto 4, 3) := by decide +kernel
theorem own_dmn_9 : decode jdk_29_method_69_code 9 = .ok (.iload_n 1, 1) := by decide +kernel
theorem own_dmn_10 : decode jdk_29_method_69_code 10 = .ok (.ireturn, 1) := by decide +kernel
theorem own_efmn (m : MethodId) (x0 : Int32) (x1 : Int32) : entryFrame m #[(.int x0), (.int x1)] 2 = mkF m 0 #[iv x0, iv x1] [] := by first | (simp [entryFrame, mkF, argsToLocals, Value.category]; done) | rfl
def own_Qmn (Z : State) (p1 : Int32) (p2 : Int32) (h0 : Heap) (n0 : Nat) : Option Value → Heap → List Loc → Prop := fun v h L => v = some (.int (own_mn p1 p2)) ∧ Fr n0 L ∧ h = h0
def own_Rmn : Room := { frames := 0, cells := 0, slots := 0, locals := 0 }
set_option maxRecDepth 65536 in
set_option maxHeartbeats 40000000 in
theorem own_rmmn (l : Launch) (Z : State) (a0 : Array Value) (hw : ∀ d ∈ tables_1, d.before a0 Z = true) (ws : List Jvm.Cond) (p1 : Int32) (p2 : Int32) (h0 : Heap) (n0 : Nat) (Z0 : n0 ≤ h0.size) :
    own_Met l Z own_y1 jdk_29_method_69_code 2 (some .int) ws own_Rmn h0 #[(.int p1), (.int p2)] (own_Qmn Z p1 p2 h0 n0) own_Rmn.cells own_Rmn.slots := by
  refine own_start (Jvm.Free.JP.mathPlain rfl (by decide +kernel)) ?_
  intro p e s m below meth c s₁ X0 hx hZ hby hml hret hlk hown hnm e0
  have hown : s.vm.findClass "java/lang/Math" = some m.cls := hown
  have hml : c.maxLocals = 2 := hml
  have N0 := Fr.nil n0
  refine own_cast (own_efmn m p1 p2) ?_
  refine own_s s₁ (mkF m 2 #[iv p1, iv p2] [(.int p2), (.int p1)]) (fun _ k => XS.iloadN X0.here hx rfl (hb hby own_dmn_0) rfl  (XS.iloadN X0.here hx rfl (hb hby own_dmn_1) rfl  k)) ?_
  by_cases c2 : p2 < p1
  · refine own_s s₁ (mkF m 10 #[iv p1, iv p2] [(.int p2)]) (fun _ k => XS.icmpYes X0.here hx rfl (pc0 := 2) (pc' := 9) rfl (hb hby own_dmn_2) rfl (tlt c2).2.2.1 (by decide) (by decide) (XS.iloadN X0.here hx rfl (hb hby own_dmn_9) rfl  k)) ?_
    exact own_finI X0 hx hret (hb hby own_dmn_10) (own_end (Qv := (own_Qmn Z p1 p2 h0 n0)) X0 (own_some hret) hlk (by decide) (by decide) e0 ⟨by simp [own_mn, own_mx, c2], N0, rfl⟩)
  · refine own_s s₁ (mkF m 10 #[iv p1, iv p2] [(.int p1)]) (fun _ k => XS.icmpNo X0.here hx rfl (hb hby own_dmn_2) rfl (flt c2).2.2.1 (XS.iloadN X0.here hx rfl (hb hby own_dmn_5) rfl  (XS.goto X0.here hx rfl (pc0 := 6) (pc' := 10) rfl (hb hby own_dmn_6) (by decide) (by decide) k))) ?_
    exact own_finI X0 hx hret (hb hby own_dmn_10) (own_end (Qv := (own_Qmn Z p1 p2 h0 n0)) X0 (own_some hret) hlk (by decide) (by decide) e0 ⟨by simp [own_mn, own_mx, c2], N0, rfl⟩)
abbrev own_y2 : MethodName := ⟨"java/lang/Math", "max", "(II)I"⟩
theorem own_dmx_0 : decode jdk_29_method_65_code 0 = .ok (.iload_n 0, 1) := by decide +kernel
theorem own_dmx_1 : decode jdk_29_method_65_code 1 = .ok (.iload_n 1, 1) := by decide +kernel
theorem own_dmx_2 : decode jdk_29_method_65_code 2 = .ok (.if_icmp .lt 7, 3) := by decide +kernel
theorem own_dmx_5 : decode jdk_29_method_65_code 5 = .ok (.iload_n 0, 1) := by decide +kernel
theorem own_dmx_6 : decode jdk_29_method_65_code 6 = .ok (.goto 4, 3) := by decide +kernel
theorem own_dmx_9 : decode jdk_29_method_65_code 9 = .ok (.iload_n 1, 1) := by decide +kernel
theorem own_dmx_10 : decode jdk_29_method_65_code 10 = .ok (.ireturn, 1) := by decide +kernel
theorem own_efmx (m : MethodId) (x0 : Int32) (x1 : Int32) : entryFrame m #[(.int x0), (.int x1)] 2 = mkF m 0 #[iv x0, iv x1] [] := by first | (simp [entryFrame, mkF, argsToLocals, Value.category]; done) | rfl
def own_Qmx (Z : State) (p1 : Int32) (p2 : Int32) (h0 : Heap) (n0 : Nat) : Option Value → Heap → List Loc → Prop := fun v h L => v = some (.int (own_mx p1 p2)) ∧ Fr n0 L ∧ h = h0
def own_Rmx : Room := { frames := 0, cells := 0, slots := 0, locals := 0 }
set_option maxRecDepth 65536 in
set_option maxHeartbeats 40000000 in
theorem own_rmmx (l : Launch) (Z : State) (a0 : Array Value) (hw : ∀ d ∈ tables_1, d.before a0 Z = true) (ws : List Jvm.Cond) (p1 : Int32) (p2 : Int32) (h0 : Heap) (n0 : Nat) (Z0 : n0 ≤ h0.size) :
    own_Met l Z own_y2 jdk_29_method_65_code 2 (some .int) ws own_Rmx h0 #[(.int p1), (.int p2)] (own_Qmx Z p1 p2 h0 n0) own_Rmx.cells own_Rmx.slots := by
  refine own_start (Jvm.Free.JP.mathPlain rfl (by decide +kernel)) ?_
  intro p e s m below meth c s₁ X0 hx hZ hby hml hret hlk hown hnm e0
  have hown : s.vm.findClass "java/lang/Math" = some m.cls := hown
  have hml : c.maxLocals = 2 := hml
  have N0 := Fr.nil n0
  refine own_cast (own_efmx m p1 p2) ?_
  refine own_s s₁ (mkF m 2 #[iv p1, iv p2] [(.int p2), (.int p1)]) (fun _ k => XS.iloadN X0.here hx rfl (hb hby own_dmx_0) rfl  (XS.iloadN X0.here hx rfl (hb hby own_dmx_1) rfl  k)) ?_
  by_cases c2 : p1 < p2
  · refine own_s s₁ (mkF m 10 #[iv p1, iv p2] [(.int p2)]) (fun _ k => XS.icmpYes X0.here hx rfl (pc0 := 2) (pc' := 9) rfl (hb hby own_dmx_2) rfl (tlt c2).1 (by decide) (by decide) (XS.iloadN X0.here hx rfl (hb hby own_dmx_9) rfl  k)) ?_
    exact own_finI X0 hx hret (hb hby own_dmx_10) (own_end (Qv := (own_Qmx Z p1 p2 h0 n0)) X0 (own_some hret) hlk (by decide) (by decide) e0 ⟨by simp [own_mn, own_mx, c2], N0, rfl⟩)
  · refine own_s s₁ (mkF m 10 #[iv p1, iv p2] [(.int p1)]) (fun _ k => XS.icmpNo X0.here hx rfl (hb hby own_dmx_2) rfl (flt c2).1 (XS.iloadN X0.here hx rfl (hb hby own_dmx_5) rfl  (XS.goto X0.here hx rfl (pc0 := 6) (pc' := 10) rfl (hb hby own_dmx_6) (by decide) (by decide) k))) ?_
    exact own_finI X0 hx hret (hb hby own_dmx_10) (own_end (Qv := (own_Qmx Z p1 p2 h0 n0)) X0 (own_some hret) hlk (by decide) (by decide) e0 ⟨by simp [own_mn, own_mx, c2], N0, rfl⟩)
abbrev own_y3 : MethodName := ⟨"com/example/allotrope/allotrope/text/WholeNumberDigitsPinLaw", "isDigit", "(C)Z"⟩
theorem own_disd_0 : decode method_3_code 0 = .ok (.iload_n 0, 1) := by decide +kernel
theorem own_disd_1 : decode method_3_code 1 = .ok (.bipush 48, 2) := by decide +kernel
theorem own_disd_3 : decode method_3_code 3 = .ok (.if_icmp .lt 13, 3) := by decide +kernel
theorem own_disd_6 : decode method_3_code 6 = .ok (.iload_n 0, 1) := by decide +kernel
theorem own_disd_7 : decode method_3_code 7 = .ok (.bipush 57, 2) := by decide +kernel
theorem own_disd_9 : decode method_3_code 9 = .ok (.if_icmp .gt 7, 3) := by decide +kernel
theorem own_disd_12 : decode method_3_code 12 = .ok (.iconst 1, 1) := by decide +kernel
theorem own_disd_13 : decode method_3_code 13 = .ok (.goto 4, 3) := by decide +kernel
theorem own_disd_16 : decode method_3_code 16 = .ok (.iconst 0, 1) := by decide +kernel
theorem own_disd_17 : decode method_3_code 17 = .ok (.ireturn, 1) := by decide +kernel
theorem own_efisd (m : MethodId) (x0 : Int32) : entryFrame m #[(.int x0)] 1 = mkF m 0 #[iv x0] [] := by first | (simp [entryFrame, mkF, argsToLocals, Value.category]; done) | rfl
def own_Qisd (Z : State) (p1 : Int32) (h0 : Heap) (n0 : Nat) : Option Value → Heap → List Loc → Prop := fun v h L => v = some (.int (own_b (own_D p1))) ∧ Fr n0 L ∧ h = h0
def own_Risd : Room := { frames := 0, cells := 0, slots := 0, locals := 0 }
set_option maxRecDepth 65536 in
set_option maxHeartbeats 40000000 in
theorem own_rmisd (l : Launch) (Z : State) (a0 : Array Value) (hw : ∀ d ∈ tables_1, d.before a0 Z = true) (ws : List Jvm.Cond) (p1 : Int32) (h0 : Heap) (n0 : Nat) (Z0 : n0 ≤ h0.size) :
    own_Met l Z own_y3 method_3_code 1 (some .boolean) ws own_Risd h0 #[(.int p1)] (own_Qisd Z p1 h0 n0) own_Risd.cells own_Risd.slots := by
  refine own_start (plainFor_of_name own_pn0) ?_
  intro p e s m below meth c s₁ X0 hx hZ hby hml hret hlk hown hnm e0
  have hown : s.vm.findClass "com/example/allotrope/allotrope/text/WholeNumberDigitsPinLaw" = some m.cls := hown
  have hml : c.maxLocals = 1 := hml
  have N0 := Fr.nil n0
  refine own_cast (own_efisd m p1) ?_
  refine own_s s₁ (mkF m 3 #[iv p1] [(.int 48), (.int p1)]) (fun _ k => XS.iloadN X0.here hx rfl (hb hby own_disd_0) rfl  (XS.bipush X0.here hx rfl (hb hby own_disd_1) k)) ?_
  by_cases c3 : p1 < (48 : Int32)
  · refine own_s s₁ (mkF m 17 #[iv p1] [(.int 0)]) (fun _ k => XS.icmpYes X0.here hx rfl (pc0 := 3) (pc' := 16) rfl (hb hby own_disd_3) rfl (tlt c3).1 (by decide) (by decide) (XS.iconst X0.here hx rfl (hb hby own_disd_16) k)) ?_
    exact own_finZ X0 hx (t := .boolean) hret (by simp) (z' := (0 : Int32)) rfl (hb hby own_disd_17) (own_end (Qv := (own_Qisd Z p1 h0 n0)) X0 (own_some hret) hlk (by decide) (by decide) e0 ⟨by rw [own_Dlo c3]; rfl, N0, rfl⟩)
  · refine own_s s₁ (mkF m 9 #[iv p1] [(.int 57), (.int p1)]) (fun _ k => XS.icmpNo X0.here hx rfl (hb hby own_disd_3) rfl (flt c3).1 (XS.iloadN X0.here hx rfl (hb hby own_disd_6) rfl  (XS.bipush X0.here hx rfl (hb hby own_disd_7) k))) ?_
    by_cases c9 : (57 : Int32) < p1
    · refine own_s s₁ (mkF m 17 #[iv p1] [(.int 0)]) (fun _ k => XS.icmpYes X0.here hx rfl (pc0 := 9) (pc' := 16) rfl (hb hby own_disd_9) rfl (tlt c9).2.2.1 (by decide) (by decide) (XS.iconst X0.here hx rfl (hb hby own_disd_16) k)) ?_
      exact own_finZ X0 hx (t := .boolean) hret (by simp) (z' := (0 : Int32)) rfl (hb hby own_disd_17) (own_end (Qv := (own_Qisd Z p1 h0 n0)) X0 (own_some hret) hlk (by decide) (by decide) e0 ⟨by rw [own_Dhi c9]; rfl, N0, rfl⟩)
    · refine own_s s₁ (mkF m 17 #[iv p1] [(.int 1)]) (fun _ k => XS.icmpNo X0.here hx rfl (hb hby own_disd_9) rfl (flt c9).2.2.1 (XS.iconst X0.here hx rfl (hb hby own_disd_12) (XS.goto X0.here hx rfl (pc0 := 13) (pc' := 17) rfl (hb hby own_disd_13) (by decide) (by decide) k))) ?_
      exact own_finZ X0 hx (t := .boolean) hret (by simp) (z' := (1 : Int32)) rfl (hb hby own_disd_17) (own_end (Qv := (own_Qisd Z p1 h0 n0)) X0 (own_some hret) hlk (by decide) (by decide) e0 ⟨by rw [own_Dmid c3 c9]; rfl, N0, rfl⟩)
theorem own_pd0 : parseMethodDescriptor "(C)Z" = some ⟨[.char], some .boolean⟩ := by decide +kernel
abbrev own_y4 : MethodName := ⟨"com/example/allotrope/allotrope/text/WholeNumberDigitsPinLaw", "ok", "([CIII)Z"⟩
theorem own_dok_0 : decode method_4_code 0 = .ok (.iload_n 1, 1) := by decide +kernel
theorem own_dok_1 : decode method_4_code 1 = .ok (.iload_n 2, 1) := by decide +kernel
theorem own_dok_2 : decode method_4_code 2 = .ok (.if_icmp .lt 17, 3) := by decide +kernel
theorem own_dok_5 : decode method_4_code 5 = .ok (.iload_n 1, 1) := by decide +kernel
theorem own_dok_6 : decode method_4_code 6 = .ok (.iload_n 3, 1) := by decide +kernel
theorem own_dok_7 : decode method_4_code 7 = .ok (.if_icmp .ge 12, 3) := by decide +kernel
theorem own_dok_10 : decode method_4_code 10 = .ok (.aload_n 0, 1) := by decide +kernel
theorem own_dok_11 : decode method_4_code 11 = .ok (.iload_n 1, 1) := by decide +kernel
theorem own_dok_12 : decode method_4_code 12 = .ok (.caload, 1) := by decide +kernel
theorem own_dok_13 : decode method_4_code 13 = .ok (.invokestatic 9, 3) := by decide +kernel
theorem own_dok_16 : decode method_4_code 16 = .ok (.ifCond .eq 7, 3) := by decide +kernel
theorem own_dok_19 : decode method_4_code 19 = .ok (.iconst 1, 1) := by decide +kernel
theorem own_dok_20 : decode method_4_code 20 = .ok (.goto 4, 3) := by decide +kernel
theorem own_dok_23 : decode method_4_code 23 = .ok (.iconst 0, 1) := by decide +kernel
theorem own_dok_24 : decode method_4_code 24 = .ok (.ireturn, 1) := by decide +kernel
theorem own_efok (m : MethodId) (x0 : Addr) (x1 : Int32) (x2 : Int32) (x3 : Int32) : entryFrame m #[(.ref x0), (.int x1), (.int x2), (.int x3)] 4 = mkF m 0 #[rv x0, iv x1, iv x2, iv x3] [] := by first | (simp [entryFrame, mkF, argsToLocals, Value.category]; done) | rfl
def own_Qok (Z : State) (a1 : Addr) (p2 : Int32) (p3 : Int32) (p4 : Int32) (k1 : ClassId) (zs : List Int32) (h0 : Heap) (n0 : Nat) : Option Value → Heap → List Loc → Prop := fun v h L => v = some (.int (own_b (decide (p2 < p3) || !decide (p2 < p4) || own_D (zs.getD (p2).toNatClampNeg 0)))) ∧ Fr n0 L ∧ h = h0
def own_Rok : Room := { frames := 1, cells := 0, slots := 0, locals := 12 }
set_option maxRecDepth 65536 in
set_option maxHeartbeats 40000000 in
theorem own_rmok (l : Launch) (Z : State) (a0 : Array Value) (hw : ∀ d ∈ tables_1, d.before a0 Z = true) (ws : List Jvm.Cond) (a1 : Addr) (p2 : Int32) (p3 : Int32) (p4 : Int32) (k1 : ClassId) (zs : List Int32) (h0 : Heap) (n0 : Nat) (Z0 : n0 ≤ h0.size) (V1 : Arv Z h0 a1 k1 .char (5 : Int32) (zs.map Value.int) (.int 0)) (hi0 : ¬ p2 < 0) (hi5 : p2 < 5) :
    own_Met l Z own_y4 method_4_code 4 (some .boolean) ws own_Rok h0 #[(.ref a1), (.int p2), (.int p3), (.int p4)] (own_Qok Z a1 p2 p3 p4 k1 zs h0 n0) own_Rok.cells own_Rok.slots := by
  refine own_start (plainFor_of_name own_pn0) ?_
  intro p e s m below meth c s₁ X0 hx hZ hby hml hret hlk hown hnm e0
  have hown : s.vm.findClass "com/example/allotrope/allotrope/text/WholeNumberDigitsPinLaw" = some m.cls := hown
  have hml : c.maxLocals = 4 := hml
  have N0 := Fr.nil n0
  refine own_cast (own_efok m a1 p2 p3 p4) ?_
  refine own_s s₁ (mkF m 2 #[rv a1, iv p2, iv p3, iv p4] [(.int p3), (.int p2)]) (fun _ k => XS.iloadN X0.here hx rfl (hb hby own_dok_0) rfl  (XS.iloadN X0.here hx rfl (hb hby own_dok_1) rfl  k)) ?_
  by_cases c2 : p2 < p3
  · refine own_s s₁ (mkF m 24 #[rv a1, iv p2, iv p3, iv p4] [(.int 1)]) (fun _ k => XS.icmpYes X0.here hx rfl (pc0 := 2) (pc' := 19) rfl (hb hby own_dok_2) rfl (tlt c2).1 (by decide) (by decide) (XS.iconst X0.here hx rfl (hb hby own_dok_19) (XS.goto X0.here hx rfl (pc0 := 20) (pc' := 24) rfl (hb hby own_dok_20) (by decide) (by decide) k))) ?_
    exact own_finZ X0 hx (t := .boolean) hret (by simp) (z' := (1 : Int32)) rfl (hb hby own_dok_24) (own_end (Qv := (own_Qok Z a1 p2 p3 p4 k1 zs h0 n0)) X0 (own_some hret) hlk (by decide) (by decide) e0 ⟨by simp [own_b, c2], N0, rfl⟩)
  · refine own_s s₁ (mkF m 7 #[rv a1, iv p2, iv p3, iv p4] [(.int p4), (.int p2)]) (fun _ k => XS.icmpNo X0.here hx rfl (hb hby own_dok_2) rfl (flt c2).1 (XS.iloadN X0.here hx rfl (hb hby own_dok_5) rfl  (XS.iloadN X0.here hx rfl (hb hby own_dok_6) rfl  k))) ?_
    by_cases c7 : p2 < p4
    · refine own_s s₁ (mkF m 12 #[rv a1, iv p2, iv p3, iv p4] [(.int p2), (.ref a1)]) (fun _ k => XS.icmpNo X0.here hx rfl (hb hby own_dok_7) rfl (tlt c7).2.1 (XS.aloadN X0.here hx rfl (hb hby own_dok_10) rfl rfl (XS.iloadN X0.here hx rfl (hb hby own_dok_11) rfl  k))) ?_
      obtain ⟨cl1, Ar1, q1, S1, Nn1, H1, G1⟩ := id V1
      have hin1 : ¬ (p2 < 0 ∨ cl1.slots.size ≤ (p2).toNatClampNeg) := (inb_of S1 ⟨hi0, hi5⟩)
      refine own_s s₁ (mkF m 13 #[rv a1, iv p2, iv p3, iv p4] [(.int (zs.getD (p2).toNatClampNeg 0))]) (fun _ k => X0.caload hx (j := p2) (v := (.int (zs.getD (p2).toNatClampNeg 0))) (own_at e0 Ar1.1) (State.isArrayOf_alike hZ.alike Ar1.2.1) Ar1.2.2 hin1 (Has.at H1 hin1 (own_getm zs _)) (g := (mkF m 12 #[rv a1, iv p2, iv p3, iv p4] [(.int p2), (.ref a1)])) rfl rfl (hb hby own_dok_12) _ k) ?_
      obtain ⟨v2, T2, L2, X2, hQ2, st2⟩ := own_callS X0 hx hZ (y := own_y3) (W := 0) hown (own_h hw 17 rfl) (own_h hw 18 rfl) (own_h hw 3 rfl) (own_h hw 19 rfl) (by decide) (own_rmisd l Z a0 hw [] (zs.getD (p2).toNatClampNeg 0) h0 n0 Z0) (by decide) (by decide) (g := (mkF m 13 #[rv a1, iv p2, iv p3, iv p4] [(.int (zs.getD (p2).toNatClampNeg 0))])) rfl (by rw [hml]; rfl) (argsL := [(.int (zs.getD (p2).toNatClampNeg 0))]) (rest := []) rfl (lenOf own_pd0 rfl) rfl (by show 2 * 0 + _ ≤ _; exact Nat.le_of_eq rfl) (hb hby own_dok_13) e0 (by decide) (by decide)
      obtain ⟨rfl, Nq2, e2⟩ := hQ2
      have N2 := Fr.app N0 Nq2
      refine own_s T2 (mkF m 16 #[rv a1, iv p2, iv p3, iv p4] [(.int (own_b (own_D (zs.getD (p2).toNatClampNeg 0))))]) st2 ?_
      by_cases c16 : (own_D (zs.getD (p2).toNatClampNeg 0)) = false
      · refine own_s T2 (mkF m 24 #[rv a1, iv p2, iv p3, iv p4] [(.int 0)]) (fun _ k => XS.ifYes X2.here hx rfl (pc0 := 16) (pc' := 23) rfl (hb hby own_dok_16) rfl ((if0 _ _).trans (teq (own_b0 c16)).1) (by decide) (by decide) (XS.iconst X2.here hx rfl (hb hby own_dok_23) k)) ?_
        exact own_finZ X2 hx (t := .boolean) hret (by simp) (z' := (0 : Int32)) rfl (hb hby own_dok_24) (own_end (Qv := (own_Qok Z a1 p2 p3 p4 k1 zs h0 n0)) X2 (own_some hret) hlk (by decide) (by decide) e2 ⟨by rw [c16]; simp [own_b, c2, c7], N2, rfl⟩)
      · refine own_s T2 (mkF m 24 #[rv a1, iv p2, iv p3, iv p4] [(.int 1)]) (fun _ k => XS.ifNo X2.here hx rfl (hb hby own_dok_16) rfl ((if0 _ _).trans (feq (own_b1 c16)).1) (XS.iconst X2.here hx rfl (hb hby own_dok_19) (XS.goto X2.here hx rfl (pc0 := 20) (pc' := 24) rfl (hb hby own_dok_20) (by decide) (by decide) k))) ?_
        exact own_finZ X2 hx (t := .boolean) hret (by simp) (z' := (1 : Int32)) rfl (hb hby own_dok_24) (own_end (Qv := (own_Qok Z a1 p2 p3 p4 k1 zs h0 n0)) X2 (own_some hret) hlk (by decide) (by decide) e2 ⟨by rw [Bool.of_not_eq_false c16]; simp [own_b, c2, c7], N2, rfl⟩)
    · refine own_s s₁ (mkF m 24 #[rv a1, iv p2, iv p3, iv p4] [(.int 1)]) (fun _ k => XS.icmpYes X0.here hx rfl (pc0 := 7) (pc' := 19) rfl (hb hby own_dok_7) rfl (flt c7).2.1 (by decide) (by decide) (XS.iconst X0.here hx rfl (hb hby own_dok_19) (XS.goto X0.here hx rfl (pc0 := 20) (pc' := 24) rfl (hb hby own_dok_20) (by decide) (by decide) k))) ?_
      exact own_finZ X0 hx (t := .boolean) hret (by simp) (z' := (1 : Int32)) rfl (hb hby own_dok_24) (own_end (Qv := (own_Qok Z a1 p2 p3 p4 k1 zs h0 n0)) X0 (own_some hret) hlk (by decide) (by decide) e0 ⟨by simp [own_b, c7], N0, rfl⟩)
abbrev own_y5 : MethodName := ⟨"com/example/allotrope/allotrope/text/WholeNumber", "digits", "([CII)Z"⟩
theorem own_pn1 : plainName "com/example/allotrope/allotrope/text/WholeNumber" = true := by first | (simp [plainName, overriddenIn]; done) | decide +kernel
theorem own_ddig_0 : decode prog_72_method_5_code 0 = .ok (.iconst 1, 1) := by decide +kernel
theorem own_ddig_1 : decode prog_72_method_5_code 1 = .ok (.istore_n 3, 1) := by decide +kernel
theorem own_ddig_2 : decode prog_72_method_5_code 2 = .ok (.iload_n 1, 1) := by decide +kernel
theorem own_ddig_3 : decode prog_72_method_5_code 3 = .ok (.istore 4, 2) := by decide +kernel
theorem own_ddig_5 : decode prog_72_method_5_code 5 = .ok (.iload 4, 2) := by decide +kernel
theorem own_ddig_7 : decode prog_72_method_5_code 7 = .ok (.iload_n 2, 1) := by decide +kernel
theorem own_ddig_8 : decode prog_72_method_5_code 8 = .ok (.if_icmp .ge 37, 3) := by decide +kernel
theorem own_ddig_11 : decode prog_72_method_5_code 11 = .ok (.iload_n 3, 1) := by decide +kernel
theorem own_ddig_12 : decode prog_72_method_5_code 12 = .ok (.ifCond .eq 33, 3) := by decide +kernel
theorem own_ddig_15 : decode prog_72_method_5_code 15 = .ok (.aload_n 0, 1) := by decide +kernel
theorem own_ddig_16 : decode prog_72_method_5_code 16 = .ok (.iload 4, 2) := by decide +kernel
theorem own_ddig_18 : decode prog_72_method_5_code 18 = .ok (.caload, 1) := by decide +kernel
theorem own_ddig_19 : decode prog_72_method_5_code 19 = .ok (.bipush 48, 2) := by decide +kernel
theorem own_ddig_21 : decode prog_72_method_5_code 21 = .ok (.if_icmp .lt 16, 3) := by decide +kernel
theorem own_ddig_24 : decode prog_72_method_5_code 24 = .ok (.aload_n 0, 1) := by decide +kernel
theorem own_ddig_25 : decode prog_72_method_5_code 25 = .ok (.iload 4, 2) := by decide +kernel
theorem own_ddig_27 : decode prog_72_method_5_code 27 = .ok (.caload, 1) := by decide +kernel
theorem own_ddig_28 : decode prog_72_method_5_code 28 = .ok (.bipush 57, 2) := by decide +kernel
theorem own_ddig_30 : decode prog_72_method_5_code 30 = .ok (.if_icmp .gt 7, 3) := by decide +kernel
theorem own_ddig_33 : decode prog_72_method_5_code 33 = .ok (.iconst 1, 1) := by decide +kernel
theorem own_ddig_34 : decode prog_72_method_5_code 34 = .ok (.goto 4, 3) := by decide +kernel
theorem own_ddig_37 : decode prog_72_method_5_code 37 = .ok (.iconst 0, 1) := by decide +kernel
theorem own_ddig_38 : decode prog_72_method_5_code 38 = .ok (.istore_n 3, 1) := by decide +kernel
theorem own_ddig_39 : decode prog_72_method_5_code 39 = .ok (.iinc 4 1, 3) := by decide +kernel
theorem own_ddig_42 : decode prog_72_method_5_code 42 = .ok (.goto (-37), 3) := by decide +kernel
theorem own_ddig_45 : decode prog_72_method_5_code 45 = .ok (.iload_n 3, 1) := by decide +kernel
theorem own_ddig_46 : decode prog_72_method_5_code 46 = .ok (.ireturn, 1) := by decide +kernel
theorem own_efdig (m : MethodId) (x0 : Addr) (x1 : Int32) (x2 : Int32) : entryFrame m #[(.ref x0), (.int x1), (.int x2)] 5 = mkF m 0 #[rv x0, iv x1, iv x2, u_, u_] [] := by first | (simp [entryFrame, mkF, argsToLocals, Value.category]; done) | rfl
def own_Qdig (Z : State) (a1 : Addr) (p2 : Int32) (p3 : Int32) (k1 : ClassId) (zs : List Int32) (h0 : Heap) (n0 : Nat) : Option Value → Heap → List Loc → Prop := fun v h L => v = some (.int (own_b (own_all (fun j => own_D (zs.getD j 0)) p2.toNatClampNeg (p3.toNatClampNeg - p2.toNatClampNeg)))) ∧ Fr n0 L ∧ h = h0
def own_Rdig : Room := { frames := 0, cells := 0, slots := 0, locals := 0 }
set_option maxRecDepth 65536 in
set_option maxHeartbeats 40000000 in
theorem own_rmdig (l : Launch) (Z : State) (a0 : Array Value) (hw : ∀ d ∈ tables_1, d.before a0 Z = true) (ws : List Jvm.Cond) (a1 : Addr) (p2 : Int32) (p3 : Int32) (k1 : ClassId) (zs : List Int32) (h0 : Heap) (n0 : Nat) (Z0 : n0 ≤ h0.size) (V1 : Arv Z h0 a1 k1 .char (5 : Int32) (zs.map Value.int) (.int 0)) (hi0 : ¬ p2 < 0) (hi5 : ¬ (5 : Int32) < p3) :
    own_Met l Z own_y5 prog_72_method_5_code 5 (some .boolean) ws own_Rdig h0 #[(.ref a1), (.int p2), (.int p3)] (own_Qdig Z a1 p2 p3 k1 zs h0 n0) own_Rdig.cells own_Rdig.slots := by
  refine own_start (plainFor_of_name own_pn1) ?_
  intro p e s m below meth c s₁ X0 hx hZ hby hml hret hlk hown hnm e0
  have hown : s.vm.findClass "com/example/allotrope/allotrope/text/WholeNumber" = some m.cls := hown
  have hml : c.maxLocals = 5 := hml
  have N0 := Fr.nil n0
  refine own_cast (own_efdig m a1 p2 p3) ?_
  refine own_s s₁ (mkF m 5 #[rv a1, iv p2, iv p3, iv 1, iv p2] []) (fun _ k => XS.iconst X0.here hx rfl (hb hby own_ddig_0) (XS.istoreN X0.here hx rfl (hb hby own_ddig_1) rfl (l' := #[rv a1, iv p2, iv p3, iv 1, u_]) rfl (XS.iloadN X0.here hx rfl (hb hby own_ddig_2) rfl  (XS.istore X0.here hx rfl (hb hby own_ddig_3) rfl (l' := #[rv a1, iv p2, iv p3, iv 1, iv p2]) rfl k)))) ?_
  have LP : ∀ (n : Nat) (B : Bool) (i : Int32), ¬ i < 0 → p3.toNatClampNeg - i.toNatClampNeg = n → (B && own_all (fun j => own_D (zs.getD j 0)) i.toNatClampNeg n) = (own_all (fun j => own_D (zs.getD j 0)) p2.toNatClampNeg (p3.toNatClampNeg - p2.toNatClampNeg)) → own_Go p e below (own_Post (own_Qdig Z a1 p2 p3 k1 zs h0 n0) own_Rdig.cells own_Rdig.slots s) s₁ (mkF m 5 #[rv a1, iv p2, iv p3, iv (own_b B), iv i] []) := by
    intro n
    induction n with
    | zero =>
      intro B i h1 h2 h3
      have c8 := own_stop h1 h2
      refine own_s s₁ (mkF m 46 #[rv a1, iv p2, iv p3, iv (own_b B), iv i] [(.int (own_b B))]) (fun _ k => XS.iload X0.here hx rfl (hb hby own_ddig_5) rfl  (XS.iloadN X0.here hx rfl (hb hby own_ddig_7) rfl  (XS.icmpYes X0.here hx rfl (pc0 := 8) (pc' := 45) rfl (hb hby own_ddig_8) rfl (flt c8).2.1 (by decide) (by decide) (XS.iloadN X0.here hx rfl (hb hby own_ddig_45) rfl  k)))) ?_
      exact own_finZ X0 hx (t := .boolean) hret (by simp) (z' := (own_b B)) (own_narb _) (hb hby own_ddig_46) (own_end (Qv := (own_Qdig Z a1 p2 p3 k1 zs h0 n0)) X0 (own_some hret) hlk (by decide) (by decide) e0 ⟨by rw [← h3]; simp [own_all], N0, rfl⟩)
    | succ n ih =>
      intro B i h1 h2 h3
      have c8 := own_more h1 h2
      refine own_s s₁ (mkF m 12 #[rv a1, iv p2, iv p3, iv (own_b B), iv i] [(.int (own_b B))]) (fun _ k => XS.iload X0.here hx rfl (hb hby own_ddig_5) rfl  (XS.iloadN X0.here hx rfl (hb hby own_ddig_7) rfl  (XS.icmpNo X0.here hx rfl (hb hby own_ddig_8) rfl (tlt c8).2.1 (XS.iloadN X0.here hx rfl (hb hby own_ddig_11) rfl  k)))) ?_
      by_cases c12 : B = false
      · refine own_s s₁ (mkF m 46 #[rv a1, iv p2, iv p3, iv (own_b B), iv i] [(.int (own_b B))]) (fun _ k => XS.ifYes X0.here hx rfl (pc0 := 12) (pc' := 45) rfl (hb hby own_ddig_12) rfl ((if0 _ _).trans (teq (own_b0 c12)).1) (by decide) (by decide) (XS.iloadN X0.here hx rfl (hb hby own_ddig_45) rfl  k)) ?_
        exact own_finZ X0 hx (t := .boolean) hret (by simp) (z' := (own_b B)) (own_narb _) (hb hby own_ddig_46) (own_end (Qv := (own_Qdig Z a1 p2 p3 k1 zs h0 n0)) X0 (own_some hret) hlk (by decide) (by decide) e0 ⟨by rw [← h3, c12]; simp, N0, rfl⟩)
      · refine own_s s₁ (mkF m 18 #[rv a1, iv p2, iv p3, iv (own_b B), iv i] [(.int i), (.ref a1)]) (fun _ k => XS.ifNo X0.here hx rfl (hb hby own_ddig_12) rfl ((if0 _ _).trans (feq (own_b1 c12)).1) (XS.aloadN X0.here hx rfl (hb hby own_ddig_15) rfl rfl (XS.iload X0.here hx rfl (hb hby own_ddig_16) rfl  k))) ?_
        obtain ⟨cl1, Ar1, q1, S1, Nn1, H1, G1⟩ := id V1
        have hin1 : ¬ (i < 0 ∨ cl1.slots.size ≤ (i).toNatClampNeg) := (inb_of S1 (own_in5 h1 c8 hi5))
        refine own_s s₁ (mkF m 21 #[rv a1, iv p2, iv p3, iv (own_b B), iv i] [(.int 48), (.int (zs.getD (i).toNatClampNeg 0))]) (fun _ k => X0.caload hx (j := i) (v := (.int (zs.getD (i).toNatClampNeg 0))) (own_at e0 Ar1.1) (State.isArrayOf_alike hZ.alike Ar1.2.1) Ar1.2.2 hin1 (Has.at H1 hin1 (own_getm zs _)) (g := (mkF m 18 #[rv a1, iv p2, iv p3, iv (own_b B), iv i] [(.int i), (.ref a1)])) rfl rfl (hb hby own_ddig_18) _ (XS.bipush X0.here hx rfl (hb hby own_ddig_19) k)) ?_
        by_cases c21 : (zs.getD (i).toNatClampNeg 0) < (48 : Int32)
        · refine own_s s₁ (mkF m 5 #[rv a1, iv p2, iv p3, iv 0, iv (i + (1 : Int32))] []) (fun _ k => XS.icmpYes X0.here hx rfl (pc0 := 21) (pc' := 37) rfl (hb hby own_ddig_21) rfl (tlt c21).1 (by decide) (by decide) (XS.iconst X0.here hx rfl (hb hby own_ddig_37) (XS.istoreN X0.here hx rfl (hb hby own_ddig_38) rfl (l' := #[rv a1, iv p2, iv p3, iv 0, iv i]) rfl (XS.iinc X0.here hx rfl (hb hby own_ddig_39) rfl (l' := #[rv a1, iv p2, iv p3, iv 0, iv (i + (1 : Int32))]) rfl (XS.goto X0.here hx rfl (pc0 := 42) (pc' := 5) rfl (hb hby own_ddig_42) (by decide) (by decide) k))))) ?_
          exact ih false (i + 1) (own_inc h1 c8).1 (by rw [(own_inc h1 c8).2]; omega) (own_goF h3 (own_Dlo c21))
        · refine own_s s₁ (mkF m 27 #[rv a1, iv p2, iv p3, iv (own_b B), iv i] [(.int i), (.ref a1)]) (fun _ k => XS.icmpNo X0.here hx rfl (hb hby own_ddig_21) rfl (flt c21).1 (XS.aloadN X0.here hx rfl (hb hby own_ddig_24) rfl rfl (XS.iload X0.here hx rfl (hb hby own_ddig_25) rfl  k))) ?_
          obtain ⟨cl2, Ar2, q2, S2, Nn2, H2, G2⟩ := id V1
          have hin2 : ¬ (i < 0 ∨ cl2.slots.size ≤ (i).toNatClampNeg) := (inb_of S2 (own_in5 h1 c8 hi5))
          refine own_s s₁ (mkF m 30 #[rv a1, iv p2, iv p3, iv (own_b B), iv i] [(.int 57), (.int (zs.getD (i).toNatClampNeg 0))]) (fun _ k => X0.caload hx (j := i) (v := (.int (zs.getD (i).toNatClampNeg 0))) (own_at e0 Ar2.1) (State.isArrayOf_alike hZ.alike Ar2.2.1) Ar2.2.2 hin2 (Has.at H2 hin2 (own_getm zs _)) (g := (mkF m 27 #[rv a1, iv p2, iv p3, iv (own_b B), iv i] [(.int i), (.ref a1)])) rfl rfl (hb hby own_ddig_27) _ (XS.bipush X0.here hx rfl (hb hby own_ddig_28) k)) ?_
          by_cases c30 : (57 : Int32) < (zs.getD (i).toNatClampNeg 0)
          · refine own_s s₁ (mkF m 5 #[rv a1, iv p2, iv p3, iv 0, iv (i + (1 : Int32))] []) (fun _ k => XS.icmpYes X0.here hx rfl (pc0 := 30) (pc' := 37) rfl (hb hby own_ddig_30) rfl (tlt c30).2.2.1 (by decide) (by decide) (XS.iconst X0.here hx rfl (hb hby own_ddig_37) (XS.istoreN X0.here hx rfl (hb hby own_ddig_38) rfl (l' := #[rv a1, iv p2, iv p3, iv 0, iv i]) rfl (XS.iinc X0.here hx rfl (hb hby own_ddig_39) rfl (l' := #[rv a1, iv p2, iv p3, iv 0, iv (i + (1 : Int32))]) rfl (XS.goto X0.here hx rfl (pc0 := 42) (pc' := 5) rfl (hb hby own_ddig_42) (by decide) (by decide) k))))) ?_
            exact ih false (i + 1) (own_inc h1 c8).1 (by rw [(own_inc h1 c8).2]; omega) (own_goF h3 (own_Dhi c30))
          · refine own_s s₁ (mkF m 42 #[rv a1, iv p2, iv p3, iv 1, iv (i + (1 : Int32))] []) (fun _ k => XS.icmpNo X0.here hx rfl (hb hby own_ddig_30) rfl (flt c30).2.2.1 (XS.iconst X0.here hx rfl (hb hby own_ddig_33) (XS.goto X0.here hx rfl (pc0 := 34) (pc' := 38) rfl (hb hby own_ddig_34) (by decide) (by decide) (XS.istoreN X0.here hx rfl (hb hby own_ddig_38) rfl (l' := #[rv a1, iv p2, iv p3, iv 1, iv i]) rfl (XS.iinc X0.here hx rfl (hb hby own_ddig_39) rfl (l' := #[rv a1, iv p2, iv p3, iv 1, iv (i + (1 : Int32))]) rfl k))))) ?_
            refine own_s s₁ (mkF m 5 #[rv a1, iv p2, iv p3, iv 1, iv (i + (1 : Int32))] []) (fun _ k => XS.goto X0.here hx rfl (pc0 := 42) (pc' := 5) rfl (hb hby own_ddig_42) (by decide) (by decide) k) ?_
            exact ih true (i + 1) (own_inc h1 c8).1 (by rw [(own_inc h1 c8).2]; omega) (own_goT c12 h3 (own_inc h1 c8).2 (own_Dmid c21 c30))
  exact LP _ true p2 hi0 rfl (by simp)
theorem own_pd1 : parseMethodDescriptor "(I)C" = some ⟨[.int], some .char⟩ := by decide +kernel
theorem own_pd2 : parseMethodDescriptor "(II)I" = some ⟨[.int, .int], some .int⟩ := by decide +kernel
theorem own_pd3 : parseMethodDescriptor "([CIII)Z" = some ⟨[(.array .char), .int, .int, .int], some .boolean⟩ := by decide +kernel
theorem own_pd4 : parseMethodDescriptor "([CII)Z" = some ⟨[(.array .char), .int, .int], some .boolean⟩ := by decide +kernel
theorem own_ef0 (m : MethodId) (x0 : Int32) (x1 : Int32) (x2 : Int32) (x3 : Int32) (x4 : Int32) (x5 : Int32) : entryFrame m #[(.int x0), (.int x1), (.int x2), (.int x3), (.int x4), (.int x5)] maxLocals = mkF m 0 #[iv x0, iv x1, iv x2, iv x3, iv x4, iv x5, u_, u_, u_, u_, u_, u_] [] := by first | (simp [entryFrame, mkF, argsToLocals, Value.category, maxLocals]; done) | rfl
def own_Q0 (Z : State) (p1 : Int32) (p2 : Int32) (p3 : Int32) (p4 : Int32) (p5 : Int32) (p6 : Int32) (h0 : Heap) (n0 : Nat) : Option Value → Heap → List Loc → Prop := fun v h L => v = some (.int 1) ∧ Fr n0 L
set_option maxRecDepth 65536 in
set_option maxHeartbeats 40000000 in
theorem own_rm0 (l : Launch) (Z : State) (a0 : Array Value) (hw : ∀ d ∈ tables_1, d.before a0 Z = true) (ws : List Jvm.Cond) (p1 : Int32) (p2 : Int32) (p3 : Int32) (p4 : Int32) (p5 : Int32) (p6 : Int32) (h0 : Heap) (n0 : Nat) (Z0 : n0 ≤ h0.size) :
    own_Met l Z x code maxLocals ret ws room_1 h0 #[(.int p1), (.int p2), (.int p3), (.int p4), (.int p5), (.int p6)] (own_Q0 Z p1 p2 p3 p4 p5 p6 h0 n0) 16 128 := by
  refine own_start (plainFor_of_name own_pn0) ?_
  intro p e s m below meth c s₁ X0 hx hZ hby hml hret hlk hown hnm e0
  have hown : s.vm.findClass "com/example/allotrope/allotrope/text/WholeNumberDigitsPinLaw" = some m.cls := hown
  have hml : c.maxLocals = 12 := hml
  have N0 := Fr.nil n0
  refine own_cast (own_ef0 m p1 p2 p3 p4 p5 p6) ?_
  refine own_s s₁ (mkF m 1 #[iv p1, iv p2, iv p3, iv p4, iv p5, iv p6, u_, u_, u_, u_, u_, u_] [(.int 5)]) (fun _ k => XS.iconst X0.here hx rfl (hb hby at_0) k) ?_
  obtain ⟨T1, h1, k1, X1, e1, E1, A1, st1⟩ := newP X0 hx hZ (own_h hw 0 rfl) e0 (g := (mkF m 1 #[iv p1, iv p2, iv p3, iv p4, iv p5, iv p6, u_, u_, u_, u_, u_, u_] [(.int 5)])) rfl (hb hby at_1) rfl (by decide) (cap := 5) (by decide) (by decide) (by decide) (by decide)
  obtain ⟨b1, g1⟩ : ∃ z, z = h0.size := ⟨_, rfl⟩
  have g_b1 : n0 ≤ b1 := Nat.le_trans Z0 (Nat.le_of_eq g1.symm)
  have sz_b1 : h0.size ≤ b1 := Nat.le_trans (Keep.refl h0 []).1 (Nat.le_of_eq g1.symm)
  rw [← g1] at A1 st1
  have K1 : Keep h0 h1 [] := (Keep.refl h0 []).ext E1
  have Z1 := Nat.le_trans Z0 E1.1
  have f1 : Arv Z h1 b1 k1 .char (5 : Int32) [(.int 0), (.int 0), (.int 0), (.int 0), (.int 0)] (.int 0) := (Arv.new A1 (by decide)).pad (pad_rep [] (.int 0) 5)
  refine own_s T1 (mkF m 3 #[iv p1, iv p2, iv p3, iv p4, iv p5, iv p6, u_, u_, u_, u_, u_, u_] [(.ref b1)]) st1 ?_
  refine own_s T1 (mkF m 9 #[iv p1, iv p2, iv p3, iv p4, iv p5, iv p6, rv b1, u_, u_, u_, u_, u_] [(.int p1), (.int 0), (.ref b1)]) (fun _ k => XS.astore X1.here hx rfl (hb hby at_3) rfl rfl (l' := #[iv p1, iv p2, iv p3, iv p4, iv p5, iv p6, rv b1, u_, u_, u_, u_, u_]) rfl (XS.aload X1.here hx rfl (hb hby at_5) rfl rfl (XS.iconst X1.here hx rfl (hb hby at_7) (XS.iloadN X1.here hx rfl (hb hby at_8) rfl  k)))) ?_
  obtain ⟨v2, T2, L2, X2, hQ2, st2⟩ := own_callS X1 hx hZ (y := own_y0) (W := 2) hown (own_h hw 1 rfl) (own_h hw 2 rfl) (own_h hw 3 rfl) (own_h hw 4 rfl) (by decide) (own_rmch l Z a0 hw [] p1 h1 n0 Z1) (by decide) (by decide) (g := (mkF m 9 #[iv p1, iv p2, iv p3, iv p4, iv p5, iv p6, rv b1, u_, u_, u_, u_, u_] [(.int p1), (.int 0), (.ref b1)])) rfl (by rw [hml]; rfl) (argsL := [(.int p1)]) (rest := [(.int 0), (.ref b1)]) rfl (lenOf own_pd1 rfl) rfl (by show 2 * 0 + _ ≤ _; exact Nat.le_of_eq rfl) (hb hby at_9) e1 (by decide) (by decide)
  obtain ⟨⟨z2, rfl⟩, Nq2, e2⟩ := hQ2
  have N2 := Fr.app N0 Nq2
  refine own_s T2 (mkF m 12 #[iv p1, iv p2, iv p3, iv p4, iv p5, iv p6, rv b1, u_, u_, u_, u_, u_] [(.int z2), (.int 0), (.ref b1)]) st2 ?_
  obtain ⟨cl3, Ar3, q3, S3, Nn3, H3, G3⟩ := id f1
  have hin3 : ¬ ((0 : Int32) < 0 ∨ cl3.slots.size ≤ ((0 : Int32)).toNatClampNeg) := (inb_of S3 ⟨by decide, by decide⟩)
  obtain ⟨T3, h3, X3, e3, W3, st3⟩ := stC X2 hx hZ e2 Ar3 (j := (0 : Int32)) hin3 (g := (mkF m 12 #[iv p1, iv p2, iv p3, iv p4, iv p5, iv p6, rv b1, u_, u_, u_, u_, u_] [(.int z2), (.int 0), (.ref b1)])) rfl rfl (hb hby at_12)
  have f3 : Arv Z h3 b1 k1 .char (5 : Int32) [(.int (nar .char z2)), (.int 0), (.int 0), (.int 0), (.int 0)] (.int 0) := Arv.set Ar3 q3 S3 Nn3 H3 G3 (fits_nar_char _) W3 0 rfl (Nat.le_of_ble_eq_true rfl)
  have K3 : Keep h0 h3 [] := K1.wr W3 (Or.inr sz_b1)
  have Z3 := Nat.le_trans Z1 (Nat.le_of_eq W3.size.symm)
  have N3 := Fr.snoc X3 N2 g_b1
  refine own_s T3 (mkF m 13 #[iv p1, iv p2, iv p3, iv p4, iv p5, iv p6, rv b1, u_, u_, u_, u_, u_] []) st3 ?_
  refine own_s T3 (mkF m 17 #[iv p1, iv p2, iv p3, iv p4, iv p5, iv p6, rv b1, u_, u_, u_, u_, u_] [(.int p2), (.int 1), (.ref b1)]) (fun _ k => XS.aload X3.here hx rfl (hb hby at_13) rfl rfl (XS.iconst X3.here hx rfl (hb hby at_15) (XS.iloadN X3.here hx rfl (hb hby at_16) rfl  k))) ?_
  obtain ⟨v4, T4, L4, X4, hQ4, st4⟩ := own_callS X3 hx hZ (y := own_y0) (W := 2) hown (own_h hw 1 rfl) (own_h hw 2 rfl) (own_h hw 3 rfl) (own_h hw 4 rfl) (by decide) (own_rmch l Z a0 hw [] p2 h3 n0 Z3) (by decide) (by decide) (g := (mkF m 17 #[iv p1, iv p2, iv p3, iv p4, iv p5, iv p6, rv b1, u_, u_, u_, u_, u_] [(.int p2), (.int 1), (.ref b1)])) rfl (by rw [hml]; rfl) (argsL := [(.int p2)]) (rest := [(.int 1), (.ref b1)]) rfl (lenOf own_pd1 rfl) rfl (by show 2 * 0 + _ ≤ _; exact Nat.le_of_eq rfl) (hb hby at_17) e3 (by decide) (by decide)
  obtain ⟨⟨z4, rfl⟩, Nq4, e4⟩ := hQ4
  have N4 := Fr.app N3 Nq4
  refine own_s T4 (mkF m 20 #[iv p1, iv p2, iv p3, iv p4, iv p5, iv p6, rv b1, u_, u_, u_, u_, u_] [(.int z4), (.int 1), (.ref b1)]) st4 ?_
  obtain ⟨cl5, Ar5, q5, S5, Nn5, H5, G5⟩ := id f3
  have hin5 : ¬ ((1 : Int32) < 0 ∨ cl5.slots.size ≤ ((1 : Int32)).toNatClampNeg) := (inb_of S5 ⟨by decide, by decide⟩)
  obtain ⟨T5, h5, X5, e5, W5, st5⟩ := stC X4 hx hZ e4 Ar5 (j := (1 : Int32)) hin5 (g := (mkF m 20 #[iv p1, iv p2, iv p3, iv p4, iv p5, iv p6, rv b1, u_, u_, u_, u_, u_] [(.int z4), (.int 1), (.ref b1)])) rfl rfl (hb hby at_20)
  have f5 : Arv Z h5 b1 k1 .char (5 : Int32) [(.int (nar .char z2)), (.int (nar .char z4)), (.int 0), (.int 0), (.int 0)] (.int 0) := Arv.set Ar5 q5 S5 Nn5 H5 G5 (fits_nar_char _) W5 1 rfl (Nat.le_of_ble_eq_true rfl)
  have K5 : Keep h0 h5 [] := K3.wr W5 (Or.inr sz_b1)
  have Z5 := Nat.le_trans Z3 (Nat.le_of_eq W5.size.symm)
  have N5 := Fr.snoc X5 N4 g_b1
  refine own_s T5 (mkF m 21 #[iv p1, iv p2, iv p3, iv p4, iv p5, iv p6, rv b1, u_, u_, u_, u_, u_] []) st5 ?_
  refine own_s T5 (mkF m 25 #[iv p1, iv p2, iv p3, iv p4, iv p5, iv p6, rv b1, u_, u_, u_, u_, u_] [(.int p3), (.int 2), (.ref b1)]) (fun _ k => XS.aload X5.here hx rfl (hb hby at_21) rfl rfl (XS.iconst X5.here hx rfl (hb hby at_23) (XS.iloadN X5.here hx rfl (hb hby at_24) rfl  k))) ?_
  obtain ⟨v6, T6, L6, X6, hQ6, st6⟩ := own_callS X5 hx hZ (y := own_y0) (W := 2) hown (own_h hw 1 rfl) (own_h hw 2 rfl) (own_h hw 3 rfl) (own_h hw 4 rfl) (by decide) (own_rmch l Z a0 hw [] p3 h5 n0 Z5) (by decide) (by decide) (g := (mkF m 25 #[iv p1, iv p2, iv p3, iv p4, iv p5, iv p6, rv b1, u_, u_, u_, u_, u_] [(.int p3), (.int 2), (.ref b1)])) rfl (by rw [hml]; rfl) (argsL := [(.int p3)]) (rest := [(.int 2), (.ref b1)]) rfl (lenOf own_pd1 rfl) rfl (by show 2 * 0 + _ ≤ _; exact Nat.le_of_eq rfl) (hb hby at_25) e5 (by decide) (by decide)
  obtain ⟨⟨z6, rfl⟩, Nq6, e6⟩ := hQ6
  have N6 := Fr.app N5 Nq6
  refine own_s T6 (mkF m 28 #[iv p1, iv p2, iv p3, iv p4, iv p5, iv p6, rv b1, u_, u_, u_, u_, u_] [(.int z6), (.int 2), (.ref b1)]) st6 ?_
  obtain ⟨cl7, Ar7, q7, S7, Nn7, H7, G7⟩ := id f5
  have hin7 : ¬ ((2 : Int32) < 0 ∨ cl7.slots.size ≤ ((2 : Int32)).toNatClampNeg) := (inb_of S7 ⟨by decide, by decide⟩)
  obtain ⟨T7, h7, X7, e7, W7, st7⟩ := stC X6 hx hZ e6 Ar7 (j := (2 : Int32)) hin7 (g := (mkF m 28 #[iv p1, iv p2, iv p3, iv p4, iv p5, iv p6, rv b1, u_, u_, u_, u_, u_] [(.int z6), (.int 2), (.ref b1)])) rfl rfl (hb hby at_28)
  have f7 : Arv Z h7 b1 k1 .char (5 : Int32) [(.int (nar .char z2)), (.int (nar .char z4)), (.int (nar .char z6)), (.int 0), (.int 0)] (.int 0) := Arv.set Ar7 q7 S7 Nn7 H7 G7 (fits_nar_char _) W7 2 rfl (Nat.le_of_ble_eq_true rfl)
  have K7 : Keep h0 h7 [] := K5.wr W7 (Or.inr sz_b1)
  have Z7 := Nat.le_trans Z5 (Nat.le_of_eq W7.size.symm)
  have N7 := Fr.snoc X7 N6 g_b1
  refine own_s T7 (mkF m 29 #[iv p1, iv p2, iv p3, iv p4, iv p5, iv p6, rv b1, u_, u_, u_, u_, u_] []) st7 ?_
  refine own_s T7 (mkF m 33 #[iv p1, iv p2, iv p3, iv p4, iv p5, iv p6, rv b1, u_, u_, u_, u_, u_] [(.int p4), (.int 3), (.ref b1)]) (fun _ k => XS.aload X7.here hx rfl (hb hby at_29) rfl rfl (XS.iconst X7.here hx rfl (hb hby at_31) (XS.iloadN X7.here hx rfl (hb hby at_32) rfl  k))) ?_
  obtain ⟨v8, T8, L8, X8, hQ8, st8⟩ := own_callS X7 hx hZ (y := own_y0) (W := 2) hown (own_h hw 1 rfl) (own_h hw 2 rfl) (own_h hw 3 rfl) (own_h hw 4 rfl) (by decide) (own_rmch l Z a0 hw [] p4 h7 n0 Z7) (by decide) (by decide) (g := (mkF m 33 #[iv p1, iv p2, iv p3, iv p4, iv p5, iv p6, rv b1, u_, u_, u_, u_, u_] [(.int p4), (.int 3), (.ref b1)])) rfl (by rw [hml]; rfl) (argsL := [(.int p4)]) (rest := [(.int 3), (.ref b1)]) rfl (lenOf own_pd1 rfl) rfl (by show 2 * 0 + _ ≤ _; exact Nat.le_of_eq rfl) (hb hby at_33) e7 (by decide) (by decide)
  obtain ⟨⟨z8, rfl⟩, Nq8, e8⟩ := hQ8
  have N8 := Fr.app N7 Nq8
  refine own_s T8 (mkF m 36 #[iv p1, iv p2, iv p3, iv p4, iv p5, iv p6, rv b1, u_, u_, u_, u_, u_] [(.int z8), (.int 3), (.ref b1)]) st8 ?_
  obtain ⟨cl9, Ar9, q9, S9, Nn9, H9, G9⟩ := id f7
  have hin9 : ¬ ((3 : Int32) < 0 ∨ cl9.slots.size ≤ ((3 : Int32)).toNatClampNeg) := (inb_of S9 ⟨by decide, by decide⟩)
  obtain ⟨T9, h9, X9, e9, W9, st9⟩ := stC X8 hx hZ e8 Ar9 (j := (3 : Int32)) hin9 (g := (mkF m 36 #[iv p1, iv p2, iv p3, iv p4, iv p5, iv p6, rv b1, u_, u_, u_, u_, u_] [(.int z8), (.int 3), (.ref b1)])) rfl rfl (hb hby at_36)
  have f9 : Arv Z h9 b1 k1 .char (5 : Int32) [(.int (nar .char z2)), (.int (nar .char z4)), (.int (nar .char z6)), (.int (nar .char z8)), (.int 0)] (.int 0) := Arv.set Ar9 q9 S9 Nn9 H9 G9 (fits_nar_char _) W9 3 rfl (Nat.le_of_ble_eq_true rfl)
  have K9 : Keep h0 h9 [] := K7.wr W9 (Or.inr sz_b1)
  have Z9 := Nat.le_trans Z7 (Nat.le_of_eq W9.size.symm)
  have N9 := Fr.snoc X9 N8 g_b1
  refine own_s T9 (mkF m 37 #[iv p1, iv p2, iv p3, iv p4, iv p5, iv p6, rv b1, u_, u_, u_, u_, u_] []) st9 ?_
  refine own_s T9 (mkF m 42 #[iv p1, iv p2, iv p3, iv p4, iv p5, iv p6, rv b1, u_, u_, u_, u_, u_] [(.int p5), (.int 4), (.ref b1)]) (fun _ k => XS.aload X9.here hx rfl (hb hby at_37) rfl rfl (XS.iconst X9.here hx rfl (hb hby at_39) (XS.iload X9.here hx rfl (hb hby at_40) rfl  k))) ?_
  obtain ⟨v10, T10, L10, X10, hQ10, st10⟩ := own_callS X9 hx hZ (y := own_y0) (W := 2) hown (own_h hw 1 rfl) (own_h hw 2 rfl) (own_h hw 3 rfl) (own_h hw 4 rfl) (by decide) (own_rmch l Z a0 hw [] p5 h9 n0 Z9) (by decide) (by decide) (g := (mkF m 42 #[iv p1, iv p2, iv p3, iv p4, iv p5, iv p6, rv b1, u_, u_, u_, u_, u_] [(.int p5), (.int 4), (.ref b1)])) rfl (by rw [hml]; rfl) (argsL := [(.int p5)]) (rest := [(.int 4), (.ref b1)]) rfl (lenOf own_pd1 rfl) rfl (by show 2 * 0 + _ ≤ _; exact Nat.le_of_eq rfl) (hb hby at_42) e9 (by decide) (by decide)
  obtain ⟨⟨z10, rfl⟩, Nq10, e10⟩ := hQ10
  have N10 := Fr.app N9 Nq10
  refine own_s T10 (mkF m 45 #[iv p1, iv p2, iv p3, iv p4, iv p5, iv p6, rv b1, u_, u_, u_, u_, u_] [(.int z10), (.int 4), (.ref b1)]) st10 ?_
  obtain ⟨cl11, Ar11, q11, S11, Nn11, H11, G11⟩ := id f9
  have hin11 : ¬ ((4 : Int32) < 0 ∨ cl11.slots.size ≤ ((4 : Int32)).toNatClampNeg) := (inb_of S11 ⟨by decide, by decide⟩)
  obtain ⟨T11, h11, X11, e11, W11, st11⟩ := stC X10 hx hZ e10 Ar11 (j := (4 : Int32)) hin11 (g := (mkF m 45 #[iv p1, iv p2, iv p3, iv p4, iv p5, iv p6, rv b1, u_, u_, u_, u_, u_] [(.int z10), (.int 4), (.ref b1)])) rfl rfl (hb hby at_45)
  have f11 : Arv Z h11 b1 k1 .char (5 : Int32) [(.int (nar .char z2)), (.int (nar .char z4)), (.int (nar .char z6)), (.int (nar .char z8)), (.int (nar .char z10))] (.int 0) := Arv.set Ar11 q11 S11 Nn11 H11 G11 (fits_nar_char _) W11 4 rfl (Nat.le_of_ble_eq_true rfl)
  have K11 : Keep h0 h11 [] := K9.wr W11 (Or.inr sz_b1)
  have Z11 := Nat.le_trans Z9 (Nat.le_of_eq W11.size.symm)
  have N11 := Fr.snoc X11 N10 g_b1
  refine own_s T11 (mkF m 46 #[iv p1, iv p2, iv p3, iv p4, iv p5, iv p6, rv b1, u_, u_, u_, u_, u_] []) st11 ?_
  refine own_s T11 (mkF m 55 #[iv p1, iv p2, iv p3, iv p4, iv p5, iv p6, rv b1, u_, u_, u_, u_, u_] [(.int ((p6 &&& (255 : Int32)) % (6 : Int32)))]) (fun _ k => XS.iload X11.here hx rfl (hb hby at_46) rfl  (XS.sipush X11.here hx rfl (hb hby at_48) (XS.iand X11.here hx rfl (hb hby at_51) rfl (XS.bipush X11.here hx rfl (hb hby at_52) (iremM X11 hx rfl (hb hby at_54) rfl (by decide) k))))) ?_
  refine own_s T11 (mkF m 65 #[iv p1, iv p2, iv p3, iv p4, iv p5, iv p6, rv b1, iv ((p6 &&& (255 : Int32)) % (6 : Int32)), u_, u_, u_, u_] [(.int 255), (.int ((p6.toUInt32 >>> ((8 : Int32) &&& 31).toUInt32).toInt32))]) (fun _ k => XS.istore X11.here hx rfl (hb hby at_55) rfl (l' := #[iv p1, iv p2, iv p3, iv p4, iv p5, iv p6, rv b1, iv ((p6 &&& (255 : Int32)) % (6 : Int32)), u_, u_, u_, u_]) rfl (XS.iload X11.here hx rfl (hb hby at_57) rfl  (XS.bipush X11.here hx rfl (hb hby at_59) (XS.iushr X11.here hx rfl (hb hby at_61) rfl (XS.sipush X11.here hx rfl (hb hby at_62) k))))) ?_
  refine own_s T11 (mkF m 73 #[iv p1, iv p2, iv p3, iv p4, iv p5, iv p6, rv b1, iv ((p6 &&& (255 : Int32)) % (6 : Int32)), iv ((((p6.toUInt32 >>> ((8 : Int32) &&& 31).toUInt32).toInt32) &&& (255 : Int32)) % (6 : Int32)), u_, u_, u_] [(.int ((p6 &&& (255 : Int32)) % (6 : Int32)))]) (fun _ k => XS.iand X11.here hx rfl (hb hby at_65) rfl (XS.bipush X11.here hx rfl (hb hby at_66) (iremM X11 hx rfl (hb hby at_68) rfl (by decide) (XS.istore X11.here hx rfl (hb hby at_69) rfl (l' := #[iv p1, iv p2, iv p3, iv p4, iv p5, iv p6, rv b1, iv ((p6 &&& (255 : Int32)) % (6 : Int32)), iv ((((p6.toUInt32 >>> ((8 : Int32) &&& 31).toUInt32).toInt32) &&& (255 : Int32)) % (6 : Int32)), u_, u_, u_]) rfl (XS.iload X11.here hx rfl (hb hby at_71) rfl  k))))) ?_
  refine own_s T11 (mkF m 75 #[iv p1, iv p2, iv p3, iv p4, iv p5, iv p6, rv b1, iv ((p6 &&& (255 : Int32)) % (6 : Int32)), iv ((((p6.toUInt32 >>> ((8 : Int32) &&& 31).toUInt32).toInt32) &&& (255 : Int32)) % (6 : Int32)), u_, u_, u_] [(.int ((((p6.toUInt32 >>> ((8 : Int32) &&& 31).toUInt32).toInt32) &&& (255 : Int32)) % (6 : Int32))), (.int ((p6 &&& (255 : Int32)) % (6 : Int32)))]) (fun _ k => XS.iload X11.here hx rfl (hb hby at_73) rfl  k) ?_
  obtain ⟨v12, T12, L12, X12, hQ12, st12⟩ := own_callS X11 hx hZ (y := own_y1) (W := 0) hown (own_h hw 7 rfl) (own_h hw 8 rfl) (own_h hw 9 rfl) (own_h hw 10 rfl) (by decide) (own_rmmn l Z a0 hw [] ((p6 &&& (255 : Int32)) % (6 : Int32)) ((((p6.toUInt32 >>> ((8 : Int32) &&& 31).toUInt32).toInt32) &&& (255 : Int32)) % (6 : Int32)) h11 n0 Z11) (by decide) (by decide) (g := (mkF m 75 #[iv p1, iv p2, iv p3, iv p4, iv p5, iv p6, rv b1, iv ((p6 &&& (255 : Int32)) % (6 : Int32)), iv ((((p6.toUInt32 >>> ((8 : Int32) &&& 31).toUInt32).toInt32) &&& (255 : Int32)) % (6 : Int32)), u_, u_, u_] [(.int ((((p6.toUInt32 >>> ((8 : Int32) &&& 31).toUInt32).toInt32) &&& (255 : Int32)) % (6 : Int32))), (.int ((p6 &&& (255 : Int32)) % (6 : Int32)))])) rfl (by rw [hml]; rfl) (argsL := [(.int ((p6 &&& (255 : Int32)) % (6 : Int32))), (.int ((((p6.toUInt32 >>> ((8 : Int32) &&& 31).toUInt32).toInt32) &&& (255 : Int32)) % (6 : Int32)))]) (rest := []) rfl (lenOf own_pd2 rfl) rfl (by show 2 * 0 + _ ≤ _; exact Nat.le_of_eq rfl) (hb hby at_75) e11 (by decide) (by decide)
  obtain ⟨rfl, Nq12, e12⟩ := hQ12
  have N12 := Fr.app N11 Nq12
  refine own_s T12 (mkF m 78 #[iv p1, iv p2, iv p3, iv p4, iv p5, iv p6, rv b1, iv ((p6 &&& (255 : Int32)) % (6 : Int32)), iv ((((p6.toUInt32 >>> ((8 : Int32) &&& 31).toUInt32).toInt32) &&& (255 : Int32)) % (6 : Int32)), u_, u_, u_] [(.int (own_mn ((p6 &&& (255 : Int32)) % (6 : Int32)) ((((p6.toUInt32 >>> ((8 : Int32) &&& 31).toUInt32).toInt32) &&& (255 : Int32)) % (6 : Int32))))]) st12 ?_
  refine own_s T12 (mkF m 84 #[iv p1, iv p2, iv p3, iv p4, iv p5, iv p6, rv b1, iv ((p6 &&& (255 : Int32)) % (6 : Int32)), iv ((((p6.toUInt32 >>> ((8 : Int32) &&& 31).toUInt32).toInt32) &&& (255 : Int32)) % (6 : Int32)), iv (own_mn ((p6 &&& (255 : Int32)) % (6 : Int32)) ((((p6.toUInt32 >>> ((8 : Int32) &&& 31).toUInt32).toInt32) &&& (255 : Int32)) % (6 : Int32))), u_, u_] [(.int ((((p6.toUInt32 >>> ((8 : Int32) &&& 31).toUInt32).toInt32) &&& (255 : Int32)) % (6 : Int32))), (.int ((p6 &&& (255 : Int32)) % (6 : Int32)))]) (fun _ k => XS.istore X12.here hx rfl (hb hby at_78) rfl (l' := #[iv p1, iv p2, iv p3, iv p4, iv p5, iv p6, rv b1, iv ((p6 &&& (255 : Int32)) % (6 : Int32)), iv ((((p6.toUInt32 >>> ((8 : Int32) &&& 31).toUInt32).toInt32) &&& (255 : Int32)) % (6 : Int32)), iv (own_mn ((p6 &&& (255 : Int32)) % (6 : Int32)) ((((p6.toUInt32 >>> ((8 : Int32) &&& 31).toUInt32).toInt32) &&& (255 : Int32)) % (6 : Int32))), u_, u_]) rfl (XS.iload X12.here hx rfl (hb hby at_80) rfl  (XS.iload X12.here hx rfl (hb hby at_82) rfl  k))) ?_
  obtain ⟨v13, T13, L13, X13, hQ13, st13⟩ := own_callS X12 hx hZ (y := own_y2) (W := 0) hown (own_h hw 11 rfl) (own_h hw 12 rfl) (own_h hw 9 rfl) (own_h hw 13 rfl) (by decide) (own_rmmx l Z a0 hw [] ((p6 &&& (255 : Int32)) % (6 : Int32)) ((((p6.toUInt32 >>> ((8 : Int32) &&& 31).toUInt32).toInt32) &&& (255 : Int32)) % (6 : Int32)) h11 n0 Z11) (by decide) (by decide) (g := (mkF m 84 #[iv p1, iv p2, iv p3, iv p4, iv p5, iv p6, rv b1, iv ((p6 &&& (255 : Int32)) % (6 : Int32)), iv ((((p6.toUInt32 >>> ((8 : Int32) &&& 31).toUInt32).toInt32) &&& (255 : Int32)) % (6 : Int32)), iv (own_mn ((p6 &&& (255 : Int32)) % (6 : Int32)) ((((p6.toUInt32 >>> ((8 : Int32) &&& 31).toUInt32).toInt32) &&& (255 : Int32)) % (6 : Int32))), u_, u_] [(.int ((((p6.toUInt32 >>> ((8 : Int32) &&& 31).toUInt32).toInt32) &&& (255 : Int32)) % (6 : Int32))), (.int ((p6 &&& (255 : Int32)) % (6 : Int32)))])) rfl (by rw [hml]; rfl) (argsL := [(.int ((p6 &&& (255 : Int32)) % (6 : Int32))), (.int ((((p6.toUInt32 >>> ((8 : Int32) &&& 31).toUInt32).toInt32) &&& (255 : Int32)) % (6 : Int32)))]) (rest := []) rfl (lenOf own_pd2 rfl) rfl (by show 2 * 0 + _ ≤ _; exact Nat.le_of_eq rfl) (hb hby at_84) e12 (by decide) (by decide)
  obtain ⟨rfl, Nq13, e13⟩ := hQ13
  have N13 := Fr.app N12 Nq13
  refine own_s T13 (mkF m 87 #[iv p1, iv p2, iv p3, iv p4, iv p5, iv p6, rv b1, iv ((p6 &&& (255 : Int32)) % (6 : Int32)), iv ((((p6.toUInt32 >>> ((8 : Int32) &&& 31).toUInt32).toInt32) &&& (255 : Int32)) % (6 : Int32)), iv (own_mn ((p6 &&& (255 : Int32)) % (6 : Int32)) ((((p6.toUInt32 >>> ((8 : Int32) &&& 31).toUInt32).toInt32) &&& (255 : Int32)) % (6 : Int32))), u_, u_] [(.int (own_mx ((p6 &&& (255 : Int32)) % (6 : Int32)) ((((p6.toUInt32 >>> ((8 : Int32) &&& 31).toUInt32).toInt32) &&& (255 : Int32)) % (6 : Int32))))]) st13 ?_
  refine own_s T13 (mkF m 89 #[iv p1, iv p2, iv p3, iv p4, iv p5, iv p6, rv b1, iv ((p6 &&& (255 : Int32)) % (6 : Int32)), iv ((((p6.toUInt32 >>> ((8 : Int32) &&& 31).toUInt32).toInt32) &&& (255 : Int32)) % (6 : Int32)), iv (own_mn ((p6 &&& (255 : Int32)) % (6 : Int32)) ((((p6.toUInt32 >>> ((8 : Int32) &&& 31).toUInt32).toInt32) &&& (255 : Int32)) % (6 : Int32))), iv (own_mx ((p6 &&& (255 : Int32)) % (6 : Int32)) ((((p6.toUInt32 >>> ((8 : Int32) &&& 31).toUInt32).toInt32) &&& (255 : Int32)) % (6 : Int32))), u_] []) (fun _ k => XS.istore X13.here hx rfl (hb hby at_87) rfl (l' := #[iv p1, iv p2, iv p3, iv p4, iv p5, iv p6, rv b1, iv ((p6 &&& (255 : Int32)) % (6 : Int32)), iv ((((p6.toUInt32 >>> ((8 : Int32) &&& 31).toUInt32).toInt32) &&& (255 : Int32)) % (6 : Int32)), iv (own_mn ((p6 &&& (255 : Int32)) % (6 : Int32)) ((((p6.toUInt32 >>> ((8 : Int32) &&& 31).toUInt32).toInt32) &&& (255 : Int32)) % (6 : Int32))), iv (own_mx ((p6 &&& (255 : Int32)) % (6 : Int32)) ((((p6.toUInt32 >>> ((8 : Int32) &&& 31).toUInt32).toInt32) &&& (255 : Int32)) % (6 : Int32))), u_]) rfl k) ?_
  have hfr : ¬ (own_mn ((p6 &&& (255 : Int32)) % (6 : Int32)) ((((p6.toUInt32 >>> ((8 : Int32) &&& 31).toUInt32).toInt32) &&& (255 : Int32)) % (6 : Int32))) < 0 ∧ ¬ (5 : Int32) < (own_mn ((p6 &&& (255 : Int32)) % (6 : Int32)) ((((p6.toUInt32 >>> ((8 : Int32) &&& 31).toUInt32).toInt32) &&& (255 : Int32)) % (6 : Int32))) := own_mnP (P := fun z => ¬ z < 0 ∧ ¬ (5 : Int32) < z) (own_mod6 (Jvm.Kit.i32_and_bounds _ (by decide)).1) (own_mod6 (Jvm.Kit.i32_and_bounds _ (by decide)).1)
  have hto : ¬ (own_mx ((p6 &&& (255 : Int32)) % (6 : Int32)) ((((p6.toUInt32 >>> ((8 : Int32) &&& 31).toUInt32).toInt32) &&& (255 : Int32)) % (6 : Int32))) < 0 ∧ ¬ (5 : Int32) < (own_mx ((p6 &&& (255 : Int32)) % (6 : Int32)) ((((p6.toUInt32 >>> ((8 : Int32) &&& 31).toUInt32).toInt32) &&& (255 : Int32)) % (6 : Int32))) := own_mxP (P := fun z => ¬ z < 0 ∧ ¬ (5 : Int32) < z) (own_mod6 (Jvm.Kit.i32_and_bounds _ (by decide)).1) (own_mod6 (Jvm.Kit.i32_and_bounds _ (by decide)).1)
  refine own_s T13 (mkF m 96 #[iv p1, iv p2, iv p3, iv p4, iv p5, iv p6, rv b1, iv ((p6 &&& (255 : Int32)) % (6 : Int32)), iv ((((p6.toUInt32 >>> ((8 : Int32) &&& 31).toUInt32).toInt32) &&& (255 : Int32)) % (6 : Int32)), iv (own_mn ((p6 &&& (255 : Int32)) % (6 : Int32)) ((((p6.toUInt32 >>> ((8 : Int32) &&& 31).toUInt32).toInt32) &&& (255 : Int32)) % (6 : Int32))), iv (own_mx ((p6 &&& (255 : Int32)) % (6 : Int32)) ((((p6.toUInt32 >>> ((8 : Int32) &&& 31).toUInt32).toInt32) &&& (255 : Int32)) % (6 : Int32))), u_] [(.int (own_mx ((p6 &&& (255 : Int32)) % (6 : Int32)) ((((p6.toUInt32 >>> ((8 : Int32) &&& 31).toUInt32).toInt32) &&& (255 : Int32)) % (6 : Int32)))), (.int (own_mn ((p6 &&& (255 : Int32)) % (6 : Int32)) ((((p6.toUInt32 >>> ((8 : Int32) &&& 31).toUInt32).toInt32) &&& (255 : Int32)) % (6 : Int32)))), (.int 0), (.ref b1)]) (fun _ k => XS.aload X13.here hx rfl (hb hby at_89) rfl rfl (XS.iconst X13.here hx rfl (hb hby at_91) (XS.iload X13.here hx rfl (hb hby at_92) rfl  (XS.iload X13.here hx rfl (hb hby at_94) rfl  k)))) ?_
  obtain ⟨v14, T14, L14, X14, hQ14, st14⟩ := own_callS X13 hx hZ (y := own_y4) (W := 0) hown (own_h hw 14 rfl) (own_h hw 15 rfl) (own_h hw 3 rfl) (own_h hw 16 rfl) (by decide) (own_rmok l Z a0 hw [] b1 (0 : Int32) (own_mn ((p6 &&& (255 : Int32)) % (6 : Int32)) ((((p6.toUInt32 >>> ((8 : Int32) &&& 31).toUInt32).toInt32) &&& (255 : Int32)) % (6 : Int32))) (own_mx ((p6 &&& (255 : Int32)) % (6 : Int32)) ((((p6.toUInt32 >>> ((8 : Int32) &&& 31).toUInt32).toInt32) &&& (255 : Int32)) % (6 : Int32))) k1 [(nar .char z2), (nar .char z4), (nar .char z6), (nar .char z8), (nar .char z10)] h11 n0 Z11 f11 (by decide) (by decide)) (by decide) (by decide) (g := (mkF m 96 #[iv p1, iv p2, iv p3, iv p4, iv p5, iv p6, rv b1, iv ((p6 &&& (255 : Int32)) % (6 : Int32)), iv ((((p6.toUInt32 >>> ((8 : Int32) &&& 31).toUInt32).toInt32) &&& (255 : Int32)) % (6 : Int32)), iv (own_mn ((p6 &&& (255 : Int32)) % (6 : Int32)) ((((p6.toUInt32 >>> ((8 : Int32) &&& 31).toUInt32).toInt32) &&& (255 : Int32)) % (6 : Int32))), iv (own_mx ((p6 &&& (255 : Int32)) % (6 : Int32)) ((((p6.toUInt32 >>> ((8 : Int32) &&& 31).toUInt32).toInt32) &&& (255 : Int32)) % (6 : Int32))), u_] [(.int (own_mx ((p6 &&& (255 : Int32)) % (6 : Int32)) ((((p6.toUInt32 >>> ((8 : Int32) &&& 31).toUInt32).toInt32) &&& (255 : Int32)) % (6 : Int32)))), (.int (own_mn ((p6 &&& (255 : Int32)) % (6 : Int32)) ((((p6.toUInt32 >>> ((8 : Int32) &&& 31).toUInt32).toInt32) &&& (255 : Int32)) % (6 : Int32)))), (.int 0), (.ref b1)])) rfl (by rw [hml]; rfl) (argsL := [(.ref b1), (.int 0), (.int (own_mn ((p6 &&& (255 : Int32)) % (6 : Int32)) ((((p6.toUInt32 >>> ((8 : Int32) &&& 31).toUInt32).toInt32) &&& (255 : Int32)) % (6 : Int32)))), (.int (own_mx ((p6 &&& (255 : Int32)) % (6 : Int32)) ((((p6.toUInt32 >>> ((8 : Int32) &&& 31).toUInt32).toInt32) &&& (255 : Int32)) % (6 : Int32))))]) (rest := []) rfl (lenOf own_pd3 rfl) rfl (by show 2 * 0 + _ ≤ _; exact Nat.le_of_eq rfl) (hb hby at_96) e13 (by decide) (by decide)
  obtain ⟨rfl, Nq14, e14⟩ := hQ14
  have N14 := Fr.app N13 Nq14
  refine own_s T14 (mkF m 99 #[iv p1, iv p2, iv p3, iv p4, iv p5, iv p6, rv b1, iv ((p6 &&& (255 : Int32)) % (6 : Int32)), iv ((((p6.toUInt32 >>> ((8 : Int32) &&& 31).toUInt32).toInt32) &&& (255 : Int32)) % (6 : Int32)), iv (own_mn ((p6 &&& (255 : Int32)) % (6 : Int32)) ((((p6.toUInt32 >>> ((8 : Int32) &&& 31).toUInt32).toInt32) &&& (255 : Int32)) % (6 : Int32))), iv (own_mx ((p6 &&& (255 : Int32)) % (6 : Int32)) ((((p6.toUInt32 >>> ((8 : Int32) &&& 31).toUInt32).toInt32) &&& (255 : Int32)) % (6 : Int32))), u_] [(.int (own_b (decide ((0 : Int32) < (own_mn ((p6 &&& (255 : Int32)) % (6 : Int32)) ((((p6.toUInt32 >>> ((8 : Int32) &&& 31).toUInt32).toInt32) &&& (255 : Int32)) % (6 : Int32)))) || !decide ((0 : Int32) < (own_mx ((p6 &&& (255 : Int32)) % (6 : Int32)) ((((p6.toUInt32 >>> ((8 : Int32) &&& 31).toUInt32).toInt32) &&& (255 : Int32)) % (6 : Int32)))) || own_D ([(nar .char z2), (nar .char z4), (nar .char z6), (nar .char z8), (nar .char z10)].getD ((0 : Int32)).toNatClampNeg 0))))]) st14 ?_
  by_cases c99 : (decide ((0 : Int32) < (own_mn ((p6 &&& (255 : Int32)) % (6 : Int32)) ((((p6.toUInt32 >>> ((8 : Int32) &&& 31).toUInt32).toInt32) &&& (255 : Int32)) % (6 : Int32)))) || !decide ((0 : Int32) < (own_mx ((p6 &&& (255 : Int32)) % (6 : Int32)) ((((p6.toUInt32 >>> ((8 : Int32) &&& 31).toUInt32).toInt32) &&& (255 : Int32)) % (6 : Int32)))) || own_D ([(nar .char z2), (nar .char z4), (nar .char z6), (nar .char z8), (nar .char z10)].getD ((0 : Int32)).toNatClampNeg 0)) = false
  · refine own_s T14 (mkF m 165 #[iv p1, iv p2, iv p3, iv p4, iv p5, iv p6, rv b1, iv ((p6 &&& (255 : Int32)) % (6 : Int32)), iv ((((p6.toUInt32 >>> ((8 : Int32) &&& 31).toUInt32).toInt32) &&& (255 : Int32)) % (6 : Int32)), iv (own_mn ((p6 &&& (255 : Int32)) % (6 : Int32)) ((((p6.toUInt32 >>> ((8 : Int32) &&& 31).toUInt32).toInt32) &&& (255 : Int32)) % (6 : Int32))), iv (own_mx ((p6 &&& (255 : Int32)) % (6 : Int32)) ((((p6.toUInt32 >>> ((8 : Int32) &&& 31).toUInt32).toInt32) &&& (255 : Int32)) % (6 : Int32))), iv 0] [(.int (own_mn ((p6 &&& (255 : Int32)) % (6 : Int32)) ((((p6.toUInt32 >>> ((8 : Int32) &&& 31).toUInt32).toInt32) &&& (255 : Int32)) % (6 : Int32)))), (.ref b1)]) (fun _ k => XS.ifYes X14.here hx rfl (pc0 := 99) (pc' := 158) rfl (hb hby at_99) rfl ((if0 _ _).trans (teq (own_b0 c99)).1) (by decide) (by decide) (XS.iconst X14.here hx rfl (hb hby at_158) (XS.istore X14.here hx rfl (hb hby at_159) rfl (l' := #[iv p1, iv p2, iv p3, iv p4, iv p5, iv p6, rv b1, iv ((p6 &&& (255 : Int32)) % (6 : Int32)), iv ((((p6.toUInt32 >>> ((8 : Int32) &&& 31).toUInt32).toInt32) &&& (255 : Int32)) % (6 : Int32)), iv (own_mn ((p6 &&& (255 : Int32)) % (6 : Int32)) ((((p6.toUInt32 >>> ((8 : Int32) &&& 31).toUInt32).toInt32) &&& (255 : Int32)) % (6 : Int32))), iv (own_mx ((p6 &&& (255 : Int32)) % (6 : Int32)) ((((p6.toUInt32 >>> ((8 : Int32) &&& 31).toUInt32).toInt32) &&& (255 : Int32)) % (6 : Int32))), iv 0]) rfl (XS.aload X14.here hx rfl (hb hby at_161) rfl rfl (XS.iload X14.here hx rfl (hb hby at_163) rfl  k))))) ?_
    refine own_s T14 (mkF m 167 #[iv p1, iv p2, iv p3, iv p4, iv p5, iv p6, rv b1, iv ((p6 &&& (255 : Int32)) % (6 : Int32)), iv ((((p6.toUInt32 >>> ((8 : Int32) &&& 31).toUInt32).toInt32) &&& (255 : Int32)) % (6 : Int32)), iv (own_mn ((p6 &&& (255 : Int32)) % (6 : Int32)) ((((p6.toUInt32 >>> ((8 : Int32) &&& 31).toUInt32).toInt32) &&& (255 : Int32)) % (6 : Int32))), iv (own_mx ((p6 &&& (255 : Int32)) % (6 : Int32)) ((((p6.toUInt32 >>> ((8 : Int32) &&& 31).toUInt32).toInt32) &&& (255 : Int32)) % (6 : Int32))), iv 0] [(.int (own_mx ((p6 &&& (255 : Int32)) % (6 : Int32)) ((((p6.toUInt32 >>> ((8 : Int32) &&& 31).toUInt32).toInt32) &&& (255 : Int32)) % (6 : Int32)))), (.int (own_mn ((p6 &&& (255 : Int32)) % (6 : Int32)) ((((p6.toUInt32 >>> ((8 : Int32) &&& 31).toUInt32).toInt32) &&& (255 : Int32)) % (6 : Int32)))), (.ref b1)]) (fun _ k => XS.iload X14.here hx rfl (hb hby at_165) rfl  k) ?_
    obtain ⟨v15, T15, L15, X15, hQ15, st15⟩ := own_callS X14 hx hZ (y := own_y5) (W := 0) hown (own_h hw 20 rfl) (own_h hw 21 rfl) (own_h hw 22 rfl) (own_h hw 23 rfl) (by decide) (own_rmdig l Z a0 hw [] b1 (own_mn ((p6 &&& (255 : Int32)) % (6 : Int32)) ((((p6.toUInt32 >>> ((8 : Int32) &&& 31).toUInt32).toInt32) &&& (255 : Int32)) % (6 : Int32))) (own_mx ((p6 &&& (255 : Int32)) % (6 : Int32)) ((((p6.toUInt32 >>> ((8 : Int32) &&& 31).toUInt32).toInt32) &&& (255 : Int32)) % (6 : Int32))) k1 [(nar .char z2), (nar .char z4), (nar .char z6), (nar .char z8), (nar .char z10)] h11 n0 Z11 f11 hfr.1 hto.2) (by decide) (by decide) (g := (mkF m 167 #[iv p1, iv p2, iv p3, iv p4, iv p5, iv p6, rv b1, iv ((p6 &&& (255 : Int32)) % (6 : Int32)), iv ((((p6.toUInt32 >>> ((8 : Int32) &&& 31).toUInt32).toInt32) &&& (255 : Int32)) % (6 : Int32)), iv (own_mn ((p6 &&& (255 : Int32)) % (6 : Int32)) ((((p6.toUInt32 >>> ((8 : Int32) &&& 31).toUInt32).toInt32) &&& (255 : Int32)) % (6 : Int32))), iv (own_mx ((p6 &&& (255 : Int32)) % (6 : Int32)) ((((p6.toUInt32 >>> ((8 : Int32) &&& 31).toUInt32).toInt32) &&& (255 : Int32)) % (6 : Int32))), iv 0] [(.int (own_mx ((p6 &&& (255 : Int32)) % (6 : Int32)) ((((p6.toUInt32 >>> ((8 : Int32) &&& 31).toUInt32).toInt32) &&& (255 : Int32)) % (6 : Int32)))), (.int (own_mn ((p6 &&& (255 : Int32)) % (6 : Int32)) ((((p6.toUInt32 >>> ((8 : Int32) &&& 31).toUInt32).toInt32) &&& (255 : Int32)) % (6 : Int32)))), (.ref b1)])) rfl (by rw [hml]; rfl) (argsL := [(.ref b1), (.int (own_mn ((p6 &&& (255 : Int32)) % (6 : Int32)) ((((p6.toUInt32 >>> ((8 : Int32) &&& 31).toUInt32).toInt32) &&& (255 : Int32)) % (6 : Int32)))), (.int (own_mx ((p6 &&& (255 : Int32)) % (6 : Int32)) ((((p6.toUInt32 >>> ((8 : Int32) &&& 31).toUInt32).toInt32) &&& (255 : Int32)) % (6 : Int32))))]) (rest := []) rfl (lenOf own_pd4 rfl) rfl (by show 2 * 0 + _ ≤ _; exact Nat.le_of_eq rfl) (hb hby at_167) e14 (by decide) (by decide)
    obtain ⟨rfl, Nq15, e15⟩ := hQ15
    have N15 := Fr.app N14 Nq15
    refine own_s T15 (mkF m 170 #[iv p1, iv p2, iv p3, iv p4, iv p5, iv p6, rv b1, iv ((p6 &&& (255 : Int32)) % (6 : Int32)), iv ((((p6.toUInt32 >>> ((8 : Int32) &&& 31).toUInt32).toInt32) &&& (255 : Int32)) % (6 : Int32)), iv (own_mn ((p6 &&& (255 : Int32)) % (6 : Int32)) ((((p6.toUInt32 >>> ((8 : Int32) &&& 31).toUInt32).toInt32) &&& (255 : Int32)) % (6 : Int32))), iv (own_mx ((p6 &&& (255 : Int32)) % (6 : Int32)) ((((p6.toUInt32 >>> ((8 : Int32) &&& 31).toUInt32).toInt32) &&& (255 : Int32)) % (6 : Int32))), iv 0] [(.int (own_b (own_all (fun j => own_D ([(nar .char z2), (nar .char z4), (nar .char z6), (nar .char z8), (nar .char z10)].getD j 0)) ((own_mn ((p6 &&& (255 : Int32)) % (6 : Int32)) ((((p6.toUInt32 >>> ((8 : Int32) &&& 31).toUInt32).toInt32) &&& (255 : Int32)) % (6 : Int32)))).toNatClampNeg (((own_mx ((p6 &&& (255 : Int32)) % (6 : Int32)) ((((p6.toUInt32 >>> ((8 : Int32) &&& 31).toUInt32).toInt32) &&& (255 : Int32)) % (6 : Int32)))).toNatClampNeg - ((own_mn ((p6 &&& (255 : Int32)) % (6 : Int32)) ((((p6.toUInt32 >>> ((8 : Int32) &&& 31).toUInt32).toInt32) &&& (255 : Int32)) % (6 : Int32)))).toNatClampNeg))))]) st15 ?_
    refine own_s T15 (mkF m 180 #[iv p1, iv p2, iv p3, iv p4, iv p5, iv p6, rv b1, iv ((p6 &&& (255 : Int32)) % (6 : Int32)), iv ((((p6.toUInt32 >>> ((8 : Int32) &&& 31).toUInt32).toInt32) &&& (255 : Int32)) % (6 : Int32)), iv (own_mn ((p6 &&& (255 : Int32)) % (6 : Int32)) ((((p6.toUInt32 >>> ((8 : Int32) &&& 31).toUInt32).toInt32) &&& (255 : Int32)) % (6 : Int32))), iv (own_mx ((p6 &&& (255 : Int32)) % (6 : Int32)) ((((p6.toUInt32 >>> ((8 : Int32) &&& 31).toUInt32).toInt32) &&& (255 : Int32)) % (6 : Int32))), iv 0] [(.int 1)]) (fun _ k => XS.iload X15.here hx rfl (hb hby at_170) rfl  (XS.icmpNo X15.here hx rfl (hb hby at_172) rfl (teq (by rw [own_allEq hfr.1 hfr.2 hto.1 hto.2, c99]; simp [own_b])).2 (XS.iconst X15.here hx rfl (hb hby at_175) (XS.goto X15.here hx rfl (pc0 := 176) (pc' := 180) rfl (hb hby at_176) (by decide) (by decide) k)))) ?_
    exact own_finZ X15 hx (t := .boolean) hret (by simp) (z' := (1 : Int32)) rfl (hb hby at_180) (own_end (Qv := (own_Q0 Z p1 p2 p3 p4 p5 p6 h0 n0)) X15 (own_some hret) hlk (by decide) (by decide) e15 ⟨rfl, N15⟩)
  · refine own_s T14 (mkF m 109 #[iv p1, iv p2, iv p3, iv p4, iv p5, iv p6, rv b1, iv ((p6 &&& (255 : Int32)) % (6 : Int32)), iv ((((p6.toUInt32 >>> ((8 : Int32) &&& 31).toUInt32).toInt32) &&& (255 : Int32)) % (6 : Int32)), iv (own_mn ((p6 &&& (255 : Int32)) % (6 : Int32)) ((((p6.toUInt32 >>> ((8 : Int32) &&& 31).toUInt32).toInt32) &&& (255 : Int32)) % (6 : Int32))), iv (own_mx ((p6 &&& (255 : Int32)) % (6 : Int32)) ((((p6.toUInt32 >>> ((8 : Int32) &&& 31).toUInt32).toInt32) &&& (255 : Int32)) % (6 : Int32))), u_] [(.int (own_mx ((p6 &&& (255 : Int32)) % (6 : Int32)) ((((p6.toUInt32 >>> ((8 : Int32) &&& 31).toUInt32).toInt32) &&& (255 : Int32)) % (6 : Int32)))), (.int (own_mn ((p6 &&& (255 : Int32)) % (6 : Int32)) ((((p6.toUInt32 >>> ((8 : Int32) &&& 31).toUInt32).toInt32) &&& (255 : Int32)) % (6 : Int32)))), (.int 1), (.ref b1)]) (fun _ k => XS.ifNo X14.here hx rfl (hb hby at_99) rfl ((if0 _ _).trans (feq (own_b1 c99)).1) (XS.aload X14.here hx rfl (hb hby at_102) rfl rfl (XS.iconst X14.here hx rfl (hb hby at_104) (XS.iload X14.here hx rfl (hb hby at_105) rfl  (XS.iload X14.here hx rfl (hb hby at_107) rfl  k))))) ?_
    obtain ⟨v16, T16, L16, X16, hQ16, st16⟩ := own_callS X14 hx hZ (y := own_y4) (W := 0) hown (own_h hw 14 rfl) (own_h hw 15 rfl) (own_h hw 3 rfl) (own_h hw 16 rfl) (by decide) (own_rmok l Z a0 hw [] b1 (1 : Int32) (own_mn ((p6 &&& (255 : Int32)) % (6 : Int32)) ((((p6.toUInt32 >>> ((8 : Int32) &&& 31).toUInt32).toInt32) &&& (255 : Int32)) % (6 : Int32))) (own_mx ((p6 &&& (255 : Int32)) % (6 : Int32)) ((((p6.toUInt32 >>> ((8 : Int32) &&& 31).toUInt32).toInt32) &&& (255 : Int32)) % (6 : Int32))) k1 [(nar .char z2), (nar .char z4), (nar .char z6), (nar .char z8), (nar .char z10)] h11 n0 Z11 f11 (by decide) (by decide)) (by decide) (by decide) (g := (mkF m 109 #[iv p1, iv p2, iv p3, iv p4, iv p5, iv p6, rv b1, iv ((p6 &&& (255 : Int32)) % (6 : Int32)), iv ((((p6.toUInt32 >>> ((8 : Int32) &&& 31).toUInt32).toInt32) &&& (255 : Int32)) % (6 : Int32)), iv (own_mn ((p6 &&& (255 : Int32)) % (6 : Int32)) ((((p6.toUInt32 >>> ((8 : Int32) &&& 31).toUInt32).toInt32) &&& (255 : Int32)) % (6 : Int32))), iv (own_mx ((p6 &&& (255 : Int32)) % (6 : Int32)) ((((p6.toUInt32 >>> ((8 : Int32) &&& 31).toUInt32).toInt32) &&& (255 : Int32)) % (6 : Int32))), u_] [(.int (own_mx ((p6 &&& (255 : Int32)) % (6 : Int32)) ((((p6.toUInt32 >>> ((8 : Int32) &&& 31).toUInt32).toInt32) &&& (255 : Int32)) % (6 : Int32)))), (.int (own_mn ((p6 &&& (255 : Int32)) % (6 : Int32)) ((((p6.toUInt32 >>> ((8 : Int32) &&& 31).toUInt32).toInt32) &&& (255 : Int32)) % (6 : Int32)))), (.int 1), (.ref b1)])) rfl (by rw [hml]; rfl) (argsL := [(.ref b1), (.int 1), (.int (own_mn ((p6 &&& (255 : Int32)) % (6 : Int32)) ((((p6.toUInt32 >>> ((8 : Int32) &&& 31).toUInt32).toInt32) &&& (255 : Int32)) % (6 : Int32)))), (.int (own_mx ((p6 &&& (255 : Int32)) % (6 : Int32)) ((((p6.toUInt32 >>> ((8 : Int32) &&& 31).toUInt32).toInt32) &&& (255 : Int32)) % (6 : Int32))))]) (rest := []) rfl (lenOf own_pd3 rfl) rfl (by show 2 * 0 + _ ≤ _; exact Nat.le_of_eq rfl) (hb hby at_109) e14 (by decide) (by decide)
    obtain ⟨rfl, Nq16, e16⟩ := hQ16
    have N16 := Fr.app N14 Nq16
    refine own_s T16 (mkF m 112 #[iv p1, iv p2, iv p3, iv p4, iv p5, iv p6, rv b1, iv ((p6 &&& (255 : Int32)) % (6 : Int32)), iv ((((p6.toUInt32 >>> ((8 : Int32) &&& 31).toUInt32).toInt32) &&& (255 : Int32)) % (6 : Int32)), iv (own_mn ((p6 &&& (255 : Int32)) % (6 : Int32)) ((((p6.toUInt32 >>> ((8 : Int32) &&& 31).toUInt32).toInt32) &&& (255 : Int32)) % (6 : Int32))), iv (own_mx ((p6 &&& (255 : Int32)) % (6 : Int32)) ((((p6.toUInt32 >>> ((8 : Int32) &&& 31).toUInt32).toInt32) &&& (255 : Int32)) % (6 : Int32))), u_] [(.int (own_b (decide ((1 : Int32) < (own_mn ((p6 &&& (255 : Int32)) % (6 : Int32)) ((((p6.toUInt32 >>> ((8 : Int32) &&& 31).toUInt32).toInt32) &&& (255 : Int32)) % (6 : Int32)))) || !decide ((1 : Int32) < (own_mx ((p6 &&& (255 : Int32)) % (6 : Int32)) ((((p6.toUInt32 >>> ((8 : Int32) &&& 31).toUInt32).toInt32) &&& (255 : Int32)) % (6 : Int32)))) || own_D ([(nar .char z2), (nar .char z4), (nar .char z6), (nar .char z8), (nar .char z10)].getD ((1 : Int32)).toNatClampNeg 0))))]) st16 ?_
    by_cases c112 : (decide ((1 : Int32) < (own_mn ((p6 &&& (255 : Int32)) % (6 : Int32)) ((((p6.toUInt32 >>> ((8 : Int32) &&& 31).toUInt32).toInt32) &&& (255 : Int32)) % (6 : Int32)))) || !decide ((1 : Int32) < (own_mx ((p6 &&& (255 : Int32)) % (6 : Int32)) ((((p6.toUInt32 >>> ((8 : Int32) &&& 31).toUInt32).toInt32) &&& (255 : Int32)) % (6 : Int32)))) || own_D ([(nar .char z2), (nar .char z4), (nar .char z6), (nar .char z8), (nar .char z10)].getD ((1 : Int32)).toNatClampNeg 0)) = false
    · refine own_s T16 (mkF m 165 #[iv p1, iv p2, iv p3, iv p4, iv p5, iv p6, rv b1, iv ((p6 &&& (255 : Int32)) % (6 : Int32)), iv ((((p6.toUInt32 >>> ((8 : Int32) &&& 31).toUInt32).toInt32) &&& (255 : Int32)) % (6 : Int32)), iv (own_mn ((p6 &&& (255 : Int32)) % (6 : Int32)) ((((p6.toUInt32 >>> ((8 : Int32) &&& 31).toUInt32).toInt32) &&& (255 : Int32)) % (6 : Int32))), iv (own_mx ((p6 &&& (255 : Int32)) % (6 : Int32)) ((((p6.toUInt32 >>> ((8 : Int32) &&& 31).toUInt32).toInt32) &&& (255 : Int32)) % (6 : Int32))), iv 0] [(.int (own_mn ((p6 &&& (255 : Int32)) % (6 : Int32)) ((((p6.toUInt32 >>> ((8 : Int32) &&& 31).toUInt32).toInt32) &&& (255 : Int32)) % (6 : Int32)))), (.ref b1)]) (fun _ k => XS.ifYes X16.here hx rfl (pc0 := 112) (pc' := 158) rfl (hb hby at_112) rfl ((if0 _ _).trans (teq (own_b0 c112)).1) (by decide) (by decide) (XS.iconst X16.here hx rfl (hb hby at_158) (XS.istore X16.here hx rfl (hb hby at_159) rfl (l' := #[iv p1, iv p2, iv p3, iv p4, iv p5, iv p6, rv b1, iv ((p6 &&& (255 : Int32)) % (6 : Int32)), iv ((((p6.toUInt32 >>> ((8 : Int32) &&& 31).toUInt32).toInt32) &&& (255 : Int32)) % (6 : Int32)), iv (own_mn ((p6 &&& (255 : Int32)) % (6 : Int32)) ((((p6.toUInt32 >>> ((8 : Int32) &&& 31).toUInt32).toInt32) &&& (255 : Int32)) % (6 : Int32))), iv (own_mx ((p6 &&& (255 : Int32)) % (6 : Int32)) ((((p6.toUInt32 >>> ((8 : Int32) &&& 31).toUInt32).toInt32) &&& (255 : Int32)) % (6 : Int32))), iv 0]) rfl (XS.aload X16.here hx rfl (hb hby at_161) rfl rfl (XS.iload X16.here hx rfl (hb hby at_163) rfl  k))))) ?_
      refine own_s T16 (mkF m 167 #[iv p1, iv p2, iv p3, iv p4, iv p5, iv p6, rv b1, iv ((p6 &&& (255 : Int32)) % (6 : Int32)), iv ((((p6.toUInt32 >>> ((8 : Int32) &&& 31).toUInt32).toInt32) &&& (255 : Int32)) % (6 : Int32)), iv (own_mn ((p6 &&& (255 : Int32)) % (6 : Int32)) ((((p6.toUInt32 >>> ((8 : Int32) &&& 31).toUInt32).toInt32) &&& (255 : Int32)) % (6 : Int32))), iv (own_mx ((p6 &&& (255 : Int32)) % (6 : Int32)) ((((p6.toUInt32 >>> ((8 : Int32) &&& 31).toUInt32).toInt32) &&& (255 : Int32)) % (6 : Int32))), iv 0] [(.int (own_mx ((p6 &&& (255 : Int32)) % (6 : Int32)) ((((p6.toUInt32 >>> ((8 : Int32) &&& 31).toUInt32).toInt32) &&& (255 : Int32)) % (6 : Int32)))), (.int (own_mn ((p6 &&& (255 : Int32)) % (6 : Int32)) ((((p6.toUInt32 >>> ((8 : Int32) &&& 31).toUInt32).toInt32) &&& (255 : Int32)) % (6 : Int32)))), (.ref b1)]) (fun _ k => XS.iload X16.here hx rfl (hb hby at_165) rfl  k) ?_
      obtain ⟨v17, T17, L17, X17, hQ17, st17⟩ := own_callS X16 hx hZ (y := own_y5) (W := 0) hown (own_h hw 20 rfl) (own_h hw 21 rfl) (own_h hw 22 rfl) (own_h hw 23 rfl) (by decide) (own_rmdig l Z a0 hw [] b1 (own_mn ((p6 &&& (255 : Int32)) % (6 : Int32)) ((((p6.toUInt32 >>> ((8 : Int32) &&& 31).toUInt32).toInt32) &&& (255 : Int32)) % (6 : Int32))) (own_mx ((p6 &&& (255 : Int32)) % (6 : Int32)) ((((p6.toUInt32 >>> ((8 : Int32) &&& 31).toUInt32).toInt32) &&& (255 : Int32)) % (6 : Int32))) k1 [(nar .char z2), (nar .char z4), (nar .char z6), (nar .char z8), (nar .char z10)] h11 n0 Z11 f11 hfr.1 hto.2) (by decide) (by decide) (g := (mkF m 167 #[iv p1, iv p2, iv p3, iv p4, iv p5, iv p6, rv b1, iv ((p6 &&& (255 : Int32)) % (6 : Int32)), iv ((((p6.toUInt32 >>> ((8 : Int32) &&& 31).toUInt32).toInt32) &&& (255 : Int32)) % (6 : Int32)), iv (own_mn ((p6 &&& (255 : Int32)) % (6 : Int32)) ((((p6.toUInt32 >>> ((8 : Int32) &&& 31).toUInt32).toInt32) &&& (255 : Int32)) % (6 : Int32))), iv (own_mx ((p6 &&& (255 : Int32)) % (6 : Int32)) ((((p6.toUInt32 >>> ((8 : Int32) &&& 31).toUInt32).toInt32) &&& (255 : Int32)) % (6 : Int32))), iv 0] [(.int (own_mx ((p6 &&& (255 : Int32)) % (6 : Int32)) ((((p6.toUInt32 >>> ((8 : Int32) &&& 31).toUInt32).toInt32) &&& (255 : Int32)) % (6 : Int32)))), (.int (own_mn ((p6 &&& (255 : Int32)) % (6 : Int32)) ((((p6.toUInt32 >>> ((8 : Int32) &&& 31).toUInt32).toInt32) &&& (255 : Int32)) % (6 : Int32)))), (.ref b1)])) rfl (by rw [hml]; rfl) (argsL := [(.ref b1), (.int (own_mn ((p6 &&& (255 : Int32)) % (6 : Int32)) ((((p6.toUInt32 >>> ((8 : Int32) &&& 31).toUInt32).toInt32) &&& (255 : Int32)) % (6 : Int32)))), (.int (own_mx ((p6 &&& (255 : Int32)) % (6 : Int32)) ((((p6.toUInt32 >>> ((8 : Int32) &&& 31).toUInt32).toInt32) &&& (255 : Int32)) % (6 : Int32))))]) (rest := []) rfl (lenOf own_pd4 rfl) rfl (by show 2 * 0 + _ ≤ _; exact Nat.le_of_eq rfl) (hb hby at_167) e16 (by decide) (by decide)
      obtain ⟨rfl, Nq17, e17⟩ := hQ17
      have N17 := Fr.app N16 Nq17
      refine own_s T17 (mkF m 170 #[iv p1, iv p2, iv p3, iv p4, iv p5, iv p6, rv b1, iv ((p6 &&& (255 : Int32)) % (6 : Int32)), iv ((((p6.toUInt32 >>> ((8 : Int32) &&& 31).toUInt32).toInt32) &&& (255 : Int32)) % (6 : Int32)), iv (own_mn ((p6 &&& (255 : Int32)) % (6 : Int32)) ((((p6.toUInt32 >>> ((8 : Int32) &&& 31).toUInt32).toInt32) &&& (255 : Int32)) % (6 : Int32))), iv (own_mx ((p6 &&& (255 : Int32)) % (6 : Int32)) ((((p6.toUInt32 >>> ((8 : Int32) &&& 31).toUInt32).toInt32) &&& (255 : Int32)) % (6 : Int32))), iv 0] [(.int (own_b (own_all (fun j => own_D ([(nar .char z2), (nar .char z4), (nar .char z6), (nar .char z8), (nar .char z10)].getD j 0)) ((own_mn ((p6 &&& (255 : Int32)) % (6 : Int32)) ((((p6.toUInt32 >>> ((8 : Int32) &&& 31).toUInt32).toInt32) &&& (255 : Int32)) % (6 : Int32)))).toNatClampNeg (((own_mx ((p6 &&& (255 : Int32)) % (6 : Int32)) ((((p6.toUInt32 >>> ((8 : Int32) &&& 31).toUInt32).toInt32) &&& (255 : Int32)) % (6 : Int32)))).toNatClampNeg - ((own_mn ((p6 &&& (255 : Int32)) % (6 : Int32)) ((((p6.toUInt32 >>> ((8 : Int32) &&& 31).toUInt32).toInt32) &&& (255 : Int32)) % (6 : Int32)))).toNatClampNeg))))]) st17 ?_
      refine own_s T17 (mkF m 180 #[iv p1, iv p2, iv p3, iv p4, iv p5, iv p6, rv b1, iv ((p6 &&& (255 : Int32)) % (6 : Int32)), iv ((((p6.toUInt32 >>> ((8 : Int32) &&& 31).toUInt32).toInt32) &&& (255 : Int32)) % (6 : Int32)), iv (own_mn ((p6 &&& (255 : Int32)) % (6 : Int32)) ((((p6.toUInt32 >>> ((8 : Int32) &&& 31).toUInt32).toInt32) &&& (255 : Int32)) % (6 : Int32))), iv (own_mx ((p6 &&& (255 : Int32)) % (6 : Int32)) ((((p6.toUInt32 >>> ((8 : Int32) &&& 31).toUInt32).toInt32) &&& (255 : Int32)) % (6 : Int32))), iv 0] [(.int 1)]) (fun _ k => XS.iload X17.here hx rfl (hb hby at_170) rfl  (XS.icmpNo X17.here hx rfl (hb hby at_172) rfl (teq (by rw [own_allEq hfr.1 hfr.2 hto.1 hto.2, c112]; simp [own_b])).2 (XS.iconst X17.here hx rfl (hb hby at_175) (XS.goto X17.here hx rfl (pc0 := 176) (pc' := 180) rfl (hb hby at_176) (by decide) (by decide) k)))) ?_
      exact own_finZ X17 hx (t := .boolean) hret (by simp) (z' := (1 : Int32)) rfl (hb hby at_180) (own_end (Qv := (own_Q0 Z p1 p2 p3 p4 p5 p6 h0 n0)) X17 (own_some hret) hlk (by decide) (by decide) e17 ⟨rfl, N17⟩)
    · refine own_s T16 (mkF m 122 #[iv p1, iv p2, iv p3, iv p4, iv p5, iv p6, rv b1, iv ((p6 &&& (255 : Int32)) % (6 : Int32)), iv ((((p6.toUInt32 >>> ((8 : Int32) &&& 31).toUInt32).toInt32) &&& (255 : Int32)) % (6 : Int32)), iv (own_mn ((p6 &&& (255 : Int32)) % (6 : Int32)) ((((p6.toUInt32 >>> ((8 : Int32) &&& 31).toUInt32).toInt32) &&& (255 : Int32)) % (6 : Int32))), iv (own_mx ((p6 &&& (255 : Int32)) % (6 : Int32)) ((((p6.toUInt32 >>> ((8 : Int32) &&& 31).toUInt32).toInt32) &&& (255 : Int32)) % (6 : Int32))), u_] [(.int (own_mx ((p6 &&& (255 : Int32)) % (6 : Int32)) ((((p6.toUInt32 >>> ((8 : Int32) &&& 31).toUInt32).toInt32) &&& (255 : Int32)) % (6 : Int32)))), (.int (own_mn ((p6 &&& (255 : Int32)) % (6 : Int32)) ((((p6.toUInt32 >>> ((8 : Int32) &&& 31).toUInt32).toInt32) &&& (255 : Int32)) % (6 : Int32)))), (.int 2), (.ref b1)]) (fun _ k => XS.ifNo X16.here hx rfl (hb hby at_112) rfl ((if0 _ _).trans (feq (own_b1 c112)).1) (XS.aload X16.here hx rfl (hb hby at_115) rfl rfl (XS.iconst X16.here hx rfl (hb hby at_117) (XS.iload X16.here hx rfl (hb hby at_118) rfl  (XS.iload X16.here hx rfl (hb hby at_120) rfl  k))))) ?_
      obtain ⟨v18, T18, L18, X18, hQ18, st18⟩ := own_callS X16 hx hZ (y := own_y4) (W := 0) hown (own_h hw 14 rfl) (own_h hw 15 rfl) (own_h hw 3 rfl) (own_h hw 16 rfl) (by decide) (own_rmok l Z a0 hw [] b1 (2 : Int32) (own_mn ((p6 &&& (255 : Int32)) % (6 : Int32)) ((((p6.toUInt32 >>> ((8 : Int32) &&& 31).toUInt32).toInt32) &&& (255 : Int32)) % (6 : Int32))) (own_mx ((p6 &&& (255 : Int32)) % (6 : Int32)) ((((p6.toUInt32 >>> ((8 : Int32) &&& 31).toUInt32).toInt32) &&& (255 : Int32)) % (6 : Int32))) k1 [(nar .char z2), (nar .char z4), (nar .char z6), (nar .char z8), (nar .char z10)] h11 n0 Z11 f11 (by decide) (by decide)) (by decide) (by decide) (g := (mkF m 122 #[iv p1, iv p2, iv p3, iv p4, iv p5, iv p6, rv b1, iv ((p6 &&& (255 : Int32)) % (6 : Int32)), iv ((((p6.toUInt32 >>> ((8 : Int32) &&& 31).toUInt32).toInt32) &&& (255 : Int32)) % (6 : Int32)), iv (own_mn ((p6 &&& (255 : Int32)) % (6 : Int32)) ((((p6.toUInt32 >>> ((8 : Int32) &&& 31).toUInt32).toInt32) &&& (255 : Int32)) % (6 : Int32))), iv (own_mx ((p6 &&& (255 : Int32)) % (6 : Int32)) ((((p6.toUInt32 >>> ((8 : Int32) &&& 31).toUInt32).toInt32) &&& (255 : Int32)) % (6 : Int32))), u_] [(.int (own_mx ((p6 &&& (255 : Int32)) % (6 : Int32)) ((((p6.toUInt32 >>> ((8 : Int32) &&& 31).toUInt32).toInt32) &&& (255 : Int32)) % (6 : Int32)))), (.int (own_mn ((p6 &&& (255 : Int32)) % (6 : Int32)) ((((p6.toUInt32 >>> ((8 : Int32) &&& 31).toUInt32).toInt32) &&& (255 : Int32)) % (6 : Int32)))), (.int 2), (.ref b1)])) rfl (by rw [hml]; rfl) (argsL := [(.ref b1), (.int 2), (.int (own_mn ((p6 &&& (255 : Int32)) % (6 : Int32)) ((((p6.toUInt32 >>> ((8 : Int32) &&& 31).toUInt32).toInt32) &&& (255 : Int32)) % (6 : Int32)))), (.int (own_mx ((p6 &&& (255 : Int32)) % (6 : Int32)) ((((p6.toUInt32 >>> ((8 : Int32) &&& 31).toUInt32).toInt32) &&& (255 : Int32)) % (6 : Int32))))]) (rest := []) rfl (lenOf own_pd3 rfl) rfl (by show 2 * 0 + _ ≤ _; exact Nat.le_of_eq rfl) (hb hby at_122) e16 (by decide) (by decide)
      obtain ⟨rfl, Nq18, e18⟩ := hQ18
      have N18 := Fr.app N16 Nq18
      refine own_s T18 (mkF m 125 #[iv p1, iv p2, iv p3, iv p4, iv p5, iv p6, rv b1, iv ((p6 &&& (255 : Int32)) % (6 : Int32)), iv ((((p6.toUInt32 >>> ((8 : Int32) &&& 31).toUInt32).toInt32) &&& (255 : Int32)) % (6 : Int32)), iv (own_mn ((p6 &&& (255 : Int32)) % (6 : Int32)) ((((p6.toUInt32 >>> ((8 : Int32) &&& 31).toUInt32).toInt32) &&& (255 : Int32)) % (6 : Int32))), iv (own_mx ((p6 &&& (255 : Int32)) % (6 : Int32)) ((((p6.toUInt32 >>> ((8 : Int32) &&& 31).toUInt32).toInt32) &&& (255 : Int32)) % (6 : Int32))), u_] [(.int (own_b (decide ((2 : Int32) < (own_mn ((p6 &&& (255 : Int32)) % (6 : Int32)) ((((p6.toUInt32 >>> ((8 : Int32) &&& 31).toUInt32).toInt32) &&& (255 : Int32)) % (6 : Int32)))) || !decide ((2 : Int32) < (own_mx ((p6 &&& (255 : Int32)) % (6 : Int32)) ((((p6.toUInt32 >>> ((8 : Int32) &&& 31).toUInt32).toInt32) &&& (255 : Int32)) % (6 : Int32)))) || own_D ([(nar .char z2), (nar .char z4), (nar .char z6), (nar .char z8), (nar .char z10)].getD ((2 : Int32)).toNatClampNeg 0))))]) st18 ?_
      by_cases c125 : (decide ((2 : Int32) < (own_mn ((p6 &&& (255 : Int32)) % (6 : Int32)) ((((p6.toUInt32 >>> ((8 : Int32) &&& 31).toUInt32).toInt32) &&& (255 : Int32)) % (6 : Int32)))) || !decide ((2 : Int32) < (own_mx ((p6 &&& (255 : Int32)) % (6 : Int32)) ((((p6.toUInt32 >>> ((8 : Int32) &&& 31).toUInt32).toInt32) &&& (255 : Int32)) % (6 : Int32)))) || own_D ([(nar .char z2), (nar .char z4), (nar .char z6), (nar .char z8), (nar .char z10)].getD ((2 : Int32)).toNatClampNeg 0)) = false
      · refine own_s T18 (mkF m 165 #[iv p1, iv p2, iv p3, iv p4, iv p5, iv p6, rv b1, iv ((p6 &&& (255 : Int32)) % (6 : Int32)), iv ((((p6.toUInt32 >>> ((8 : Int32) &&& 31).toUInt32).toInt32) &&& (255 : Int32)) % (6 : Int32)), iv (own_mn ((p6 &&& (255 : Int32)) % (6 : Int32)) ((((p6.toUInt32 >>> ((8 : Int32) &&& 31).toUInt32).toInt32) &&& (255 : Int32)) % (6 : Int32))), iv (own_mx ((p6 &&& (255 : Int32)) % (6 : Int32)) ((((p6.toUInt32 >>> ((8 : Int32) &&& 31).toUInt32).toInt32) &&& (255 : Int32)) % (6 : Int32))), iv 0] [(.int (own_mn ((p6 &&& (255 : Int32)) % (6 : Int32)) ((((p6.toUInt32 >>> ((8 : Int32) &&& 31).toUInt32).toInt32) &&& (255 : Int32)) % (6 : Int32)))), (.ref b1)]) (fun _ k => XS.ifYes X18.here hx rfl (pc0 := 125) (pc' := 158) rfl (hb hby at_125) rfl ((if0 _ _).trans (teq (own_b0 c125)).1) (by decide) (by decide) (XS.iconst X18.here hx rfl (hb hby at_158) (XS.istore X18.here hx rfl (hb hby at_159) rfl (l' := #[iv p1, iv p2, iv p3, iv p4, iv p5, iv p6, rv b1, iv ((p6 &&& (255 : Int32)) % (6 : Int32)), iv ((((p6.toUInt32 >>> ((8 : Int32) &&& 31).toUInt32).toInt32) &&& (255 : Int32)) % (6 : Int32)), iv (own_mn ((p6 &&& (255 : Int32)) % (6 : Int32)) ((((p6.toUInt32 >>> ((8 : Int32) &&& 31).toUInt32).toInt32) &&& (255 : Int32)) % (6 : Int32))), iv (own_mx ((p6 &&& (255 : Int32)) % (6 : Int32)) ((((p6.toUInt32 >>> ((8 : Int32) &&& 31).toUInt32).toInt32) &&& (255 : Int32)) % (6 : Int32))), iv 0]) rfl (XS.aload X18.here hx rfl (hb hby at_161) rfl rfl (XS.iload X18.here hx rfl (hb hby at_163) rfl  k))))) ?_
        refine own_s T18 (mkF m 167 #[iv p1, iv p2, iv p3, iv p4, iv p5, iv p6, rv b1, iv ((p6 &&& (255 : Int32)) % (6 : Int32)), iv ((((p6.toUInt32 >>> ((8 : Int32) &&& 31).toUInt32).toInt32) &&& (255 : Int32)) % (6 : Int32)), iv (own_mn ((p6 &&& (255 : Int32)) % (6 : Int32)) ((((p6.toUInt32 >>> ((8 : Int32) &&& 31).toUInt32).toInt32) &&& (255 : Int32)) % (6 : Int32))), iv (own_mx ((p6 &&& (255 : Int32)) % (6 : Int32)) ((((p6.toUInt32 >>> ((8 : Int32) &&& 31).toUInt32).toInt32) &&& (255 : Int32)) % (6 : Int32))), iv 0] [(.int (own_mx ((p6 &&& (255 : Int32)) % (6 : Int32)) ((((p6.toUInt32 >>> ((8 : Int32) &&& 31).toUInt32).toInt32) &&& (255 : Int32)) % (6 : Int32)))), (.int (own_mn ((p6 &&& (255 : Int32)) % (6 : Int32)) ((((p6.toUInt32 >>> ((8 : Int32) &&& 31).toUInt32).toInt32) &&& (255 : Int32)) % (6 : Int32)))), (.ref b1)]) (fun _ k => XS.iload X18.here hx rfl (hb hby at_165) rfl  k) ?_
        obtain ⟨v19, T19, L19, X19, hQ19, st19⟩ := own_callS X18 hx hZ (y := own_y5) (W := 0) hown (own_h hw 20 rfl) (own_h hw 21 rfl) (own_h hw 22 rfl) (own_h hw 23 rfl) (by decide) (own_rmdig l Z a0 hw [] b1 (own_mn ((p6 &&& (255 : Int32)) % (6 : Int32)) ((((p6.toUInt32 >>> ((8 : Int32) &&& 31).toUInt32).toInt32) &&& (255 : Int32)) % (6 : Int32))) (own_mx ((p6 &&& (255 : Int32)) % (6 : Int32)) ((((p6.toUInt32 >>> ((8 : Int32) &&& 31).toUInt32).toInt32) &&& (255 : Int32)) % (6 : Int32))) k1 [(nar .char z2), (nar .char z4), (nar .char z6), (nar .char z8), (nar .char z10)] h11 n0 Z11 f11 hfr.1 hto.2) (by decide) (by decide) (g := (mkF m 167 #[iv p1, iv p2, iv p3, iv p4, iv p5, iv p6, rv b1, iv ((p6 &&& (255 : Int32)) % (6 : Int32)), iv ((((p6.toUInt32 >>> ((8 : Int32) &&& 31).toUInt32).toInt32) &&& (255 : Int32)) % (6 : Int32)), iv (own_mn ((p6 &&& (255 : Int32)) % (6 : Int32)) ((((p6.toUInt32 >>> ((8 : Int32) &&& 31).toUInt32).toInt32) &&& (255 : Int32)) % (6 : Int32))), iv (own_mx ((p6 &&& (255 : Int32)) % (6 : Int32)) ((((p6.toUInt32 >>> ((8 : Int32) &&& 31).toUInt32).toInt32) &&& (255 : Int32)) % (6 : Int32))), iv 0] [(.int (own_mx ((p6 &&& (255 : Int32)) % (6 : Int32)) ((((p6.toUInt32 >>> ((8 : Int32) &&& 31).toUInt32).toInt32) &&& (255 : Int32)) % (6 : Int32)))), (.int (own_mn ((p6 &&& (255 : Int32)) % (6 : Int32)) ((((p6.toUInt32 >>> ((8 : Int32) &&& 31).toUInt32).toInt32) &&& (255 : Int32)) % (6 : Int32)))), (.ref b1)])) rfl (by rw [hml]; rfl) (argsL := [(.ref b1), (.int (own_mn ((p6 &&& (255 : Int32)) % (6 : Int32)) ((((p6.toUInt32 >>> ((8 : Int32) &&& 31).toUInt32).toInt32) &&& (255 : Int32)) % (6 : Int32)))), (.int (own_mx ((p6 &&& (255 : Int32)) % (6 : Int32)) ((((p6.toUInt32 >>> ((8 : Int32) &&& 31).toUInt32).toInt32) &&& (255 : Int32)) % (6 : Int32))))]) (rest := []) rfl (lenOf own_pd4 rfl) rfl (by show 2 * 0 + _ ≤ _; exact Nat.le_of_eq rfl) (hb hby at_167) e18 (by decide) (by decide)
        obtain ⟨rfl, Nq19, e19⟩ := hQ19
        have N19 := Fr.app N18 Nq19
        refine own_s T19 (mkF m 170 #[iv p1, iv p2, iv p3, iv p4, iv p5, iv p6, rv b1, iv ((p6 &&& (255 : Int32)) % (6 : Int32)), iv ((((p6.toUInt32 >>> ((8 : Int32) &&& 31).toUInt32).toInt32) &&& (255 : Int32)) % (6 : Int32)), iv (own_mn ((p6 &&& (255 : Int32)) % (6 : Int32)) ((((p6.toUInt32 >>> ((8 : Int32) &&& 31).toUInt32).toInt32) &&& (255 : Int32)) % (6 : Int32))), iv (own_mx ((p6 &&& (255 : Int32)) % (6 : Int32)) ((((p6.toUInt32 >>> ((8 : Int32) &&& 31).toUInt32).toInt32) &&& (255 : Int32)) % (6 : Int32))), iv 0] [(.int (own_b (own_all (fun j => own_D ([(nar .char z2), (nar .char z4), (nar .char z6), (nar .char z8), (nar .char z10)].getD j 0)) ((own_mn ((p6 &&& (255 : Int32)) % (6 : Int32)) ((((p6.toUInt32 >>> ((8 : Int32) &&& 31).toUInt32).toInt32) &&& (255 : Int32)) % (6 : Int32)))).toNatClampNeg (((own_mx ((p6 &&& (255 : Int32)) % (6 : Int32)) ((((p6.toUInt32 >>> ((8 : Int32) &&& 31).toUInt32).toInt32) &&& (255 : Int32)) % (6 : Int32)))).toNatClampNeg - ((own_mn ((p6 &&& (255 : Int32)) % (6 : Int32)) ((((p6.toUInt32 >>> ((8 : Int32) &&& 31).toUInt32).toInt32) &&& (255 : Int32)) % (6 : Int32)))).toNatClampNeg))))]) st19 ?_
        refine own_s T19 (mkF m 180 #[iv p1, iv p2, iv p3, iv p4, iv p5, iv p6, rv b1, iv ((p6 &&& (255 : Int32)) % (6 : Int32)), iv ((((p6.toUInt32 >>> ((8 : Int32) &&& 31).toUInt32).toInt32) &&& (255 : Int32)) % (6 : Int32)), iv (own_mn ((p6 &&& (255 : Int32)) % (6 : Int32)) ((((p6.toUInt32 >>> ((8 : Int32) &&& 31).toUInt32).toInt32) &&& (255 : Int32)) % (6 : Int32))), iv (own_mx ((p6 &&& (255 : Int32)) % (6 : Int32)) ((((p6.toUInt32 >>> ((8 : Int32) &&& 31).toUInt32).toInt32) &&& (255 : Int32)) % (6 : Int32))), iv 0] [(.int 1)]) (fun _ k => XS.iload X19.here hx rfl (hb hby at_170) rfl  (XS.icmpNo X19.here hx rfl (hb hby at_172) rfl (teq (by rw [own_allEq hfr.1 hfr.2 hto.1 hto.2, c125]; simp [own_b])).2 (XS.iconst X19.here hx rfl (hb hby at_175) (XS.goto X19.here hx rfl (pc0 := 176) (pc' := 180) rfl (hb hby at_176) (by decide) (by decide) k)))) ?_
        exact own_finZ X19 hx (t := .boolean) hret (by simp) (z' := (1 : Int32)) rfl (hb hby at_180) (own_end (Qv := (own_Q0 Z p1 p2 p3 p4 p5 p6 h0 n0)) X19 (own_some hret) hlk (by decide) (by decide) e19 ⟨rfl, N19⟩)
      · refine own_s T18 (mkF m 135 #[iv p1, iv p2, iv p3, iv p4, iv p5, iv p6, rv b1, iv ((p6 &&& (255 : Int32)) % (6 : Int32)), iv ((((p6.toUInt32 >>> ((8 : Int32) &&& 31).toUInt32).toInt32) &&& (255 : Int32)) % (6 : Int32)), iv (own_mn ((p6 &&& (255 : Int32)) % (6 : Int32)) ((((p6.toUInt32 >>> ((8 : Int32) &&& 31).toUInt32).toInt32) &&& (255 : Int32)) % (6 : Int32))), iv (own_mx ((p6 &&& (255 : Int32)) % (6 : Int32)) ((((p6.toUInt32 >>> ((8 : Int32) &&& 31).toUInt32).toInt32) &&& (255 : Int32)) % (6 : Int32))), u_] [(.int (own_mx ((p6 &&& (255 : Int32)) % (6 : Int32)) ((((p6.toUInt32 >>> ((8 : Int32) &&& 31).toUInt32).toInt32) &&& (255 : Int32)) % (6 : Int32)))), (.int (own_mn ((p6 &&& (255 : Int32)) % (6 : Int32)) ((((p6.toUInt32 >>> ((8 : Int32) &&& 31).toUInt32).toInt32) &&& (255 : Int32)) % (6 : Int32)))), (.int 3), (.ref b1)]) (fun _ k => XS.ifNo X18.here hx rfl (hb hby at_125) rfl ((if0 _ _).trans (feq (own_b1 c125)).1) (XS.aload X18.here hx rfl (hb hby at_128) rfl rfl (XS.iconst X18.here hx rfl (hb hby at_130) (XS.iload X18.here hx rfl (hb hby at_131) rfl  (XS.iload X18.here hx rfl (hb hby at_133) rfl  k))))) ?_
        obtain ⟨v20, T20, L20, X20, hQ20, st20⟩ := own_callS X18 hx hZ (y := own_y4) (W := 0) hown (own_h hw 14 rfl) (own_h hw 15 rfl) (own_h hw 3 rfl) (own_h hw 16 rfl) (by decide) (own_rmok l Z a0 hw [] b1 (3 : Int32) (own_mn ((p6 &&& (255 : Int32)) % (6 : Int32)) ((((p6.toUInt32 >>> ((8 : Int32) &&& 31).toUInt32).toInt32) &&& (255 : Int32)) % (6 : Int32))) (own_mx ((p6 &&& (255 : Int32)) % (6 : Int32)) ((((p6.toUInt32 >>> ((8 : Int32) &&& 31).toUInt32).toInt32) &&& (255 : Int32)) % (6 : Int32))) k1 [(nar .char z2), (nar .char z4), (nar .char z6), (nar .char z8), (nar .char z10)] h11 n0 Z11 f11 (by decide) (by decide)) (by decide) (by decide) (g := (mkF m 135 #[iv p1, iv p2, iv p3, iv p4, iv p5, iv p6, rv b1, iv ((p6 &&& (255 : Int32)) % (6 : Int32)), iv ((((p6.toUInt32 >>> ((8 : Int32) &&& 31).toUInt32).toInt32) &&& (255 : Int32)) % (6 : Int32)), iv (own_mn ((p6 &&& (255 : Int32)) % (6 : Int32)) ((((p6.toUInt32 >>> ((8 : Int32) &&& 31).toUInt32).toInt32) &&& (255 : Int32)) % (6 : Int32))), iv (own_mx ((p6 &&& (255 : Int32)) % (6 : Int32)) ((((p6.toUInt32 >>> ((8 : Int32) &&& 31).toUInt32).toInt32) &&& (255 : Int32)) % (6 : Int32))), u_] [(.int (own_mx ((p6 &&& (255 : Int32)) % (6 : Int32)) ((((p6.toUInt32 >>> ((8 : Int32) &&& 31).toUInt32).toInt32) &&& (255 : Int32)) % (6 : Int32)))), (.int (own_mn ((p6 &&& (255 : Int32)) % (6 : Int32)) ((((p6.toUInt32 >>> ((8 : Int32) &&& 31).toUInt32).toInt32) &&& (255 : Int32)) % (6 : Int32)))), (.int 3), (.ref b1)])) rfl (by rw [hml]; rfl) (argsL := [(.ref b1), (.int 3), (.int (own_mn ((p6 &&& (255 : Int32)) % (6 : Int32)) ((((p6.toUInt32 >>> ((8 : Int32) &&& 31).toUInt32).toInt32) &&& (255 : Int32)) % (6 : Int32)))), (.int (own_mx ((p6 &&& (255 : Int32)) % (6 : Int32)) ((((p6.toUInt32 >>> ((8 : Int32) &&& 31).toUInt32).toInt32) &&& (255 : Int32)) % (6 : Int32))))]) (rest := []) rfl (lenOf own_pd3 rfl) rfl (by show 2 * 0 + _ ≤ _; exact Nat.le_of_eq rfl) (hb hby at_135) e18 (by decide) (by decide)
        obtain ⟨rfl, Nq20, e20⟩ := hQ20
        have N20 := Fr.app N18 Nq20
        refine own_s T20 (mkF m 138 #[iv p1, iv p2, iv p3, iv p4, iv p5, iv p6, rv b1, iv ((p6 &&& (255 : Int32)) % (6 : Int32)), iv ((((p6.toUInt32 >>> ((8 : Int32) &&& 31).toUInt32).toInt32) &&& (255 : Int32)) % (6 : Int32)), iv (own_mn ((p6 &&& (255 : Int32)) % (6 : Int32)) ((((p6.toUInt32 >>> ((8 : Int32) &&& 31).toUInt32).toInt32) &&& (255 : Int32)) % (6 : Int32))), iv (own_mx ((p6 &&& (255 : Int32)) % (6 : Int32)) ((((p6.toUInt32 >>> ((8 : Int32) &&& 31).toUInt32).toInt32) &&& (255 : Int32)) % (6 : Int32))), u_] [(.int (own_b (decide ((3 : Int32) < (own_mn ((p6 &&& (255 : Int32)) % (6 : Int32)) ((((p6.toUInt32 >>> ((8 : Int32) &&& 31).toUInt32).toInt32) &&& (255 : Int32)) % (6 : Int32)))) || !decide ((3 : Int32) < (own_mx ((p6 &&& (255 : Int32)) % (6 : Int32)) ((((p6.toUInt32 >>> ((8 : Int32) &&& 31).toUInt32).toInt32) &&& (255 : Int32)) % (6 : Int32)))) || own_D ([(nar .char z2), (nar .char z4), (nar .char z6), (nar .char z8), (nar .char z10)].getD ((3 : Int32)).toNatClampNeg 0))))]) st20 ?_
        by_cases c138 : (decide ((3 : Int32) < (own_mn ((p6 &&& (255 : Int32)) % (6 : Int32)) ((((p6.toUInt32 >>> ((8 : Int32) &&& 31).toUInt32).toInt32) &&& (255 : Int32)) % (6 : Int32)))) || !decide ((3 : Int32) < (own_mx ((p6 &&& (255 : Int32)) % (6 : Int32)) ((((p6.toUInt32 >>> ((8 : Int32) &&& 31).toUInt32).toInt32) &&& (255 : Int32)) % (6 : Int32)))) || own_D ([(nar .char z2), (nar .char z4), (nar .char z6), (nar .char z8), (nar .char z10)].getD ((3 : Int32)).toNatClampNeg 0)) = false
        · refine own_s T20 (mkF m 165 #[iv p1, iv p2, iv p3, iv p4, iv p5, iv p6, rv b1, iv ((p6 &&& (255 : Int32)) % (6 : Int32)), iv ((((p6.toUInt32 >>> ((8 : Int32) &&& 31).toUInt32).toInt32) &&& (255 : Int32)) % (6 : Int32)), iv (own_mn ((p6 &&& (255 : Int32)) % (6 : Int32)) ((((p6.toUInt32 >>> ((8 : Int32) &&& 31).toUInt32).toInt32) &&& (255 : Int32)) % (6 : Int32))), iv (own_mx ((p6 &&& (255 : Int32)) % (6 : Int32)) ((((p6.toUInt32 >>> ((8 : Int32) &&& 31).toUInt32).toInt32) &&& (255 : Int32)) % (6 : Int32))), iv 0] [(.int (own_mn ((p6 &&& (255 : Int32)) % (6 : Int32)) ((((p6.toUInt32 >>> ((8 : Int32) &&& 31).toUInt32).toInt32) &&& (255 : Int32)) % (6 : Int32)))), (.ref b1)]) (fun _ k => XS.ifYes X20.here hx rfl (pc0 := 138) (pc' := 158) rfl (hb hby at_138) rfl ((if0 _ _).trans (teq (own_b0 c138)).1) (by decide) (by decide) (XS.iconst X20.here hx rfl (hb hby at_158) (XS.istore X20.here hx rfl (hb hby at_159) rfl (l' := #[iv p1, iv p2, iv p3, iv p4, iv p5, iv p6, rv b1, iv ((p6 &&& (255 : Int32)) % (6 : Int32)), iv ((((p6.toUInt32 >>> ((8 : Int32) &&& 31).toUInt32).toInt32) &&& (255 : Int32)) % (6 : Int32)), iv (own_mn ((p6 &&& (255 : Int32)) % (6 : Int32)) ((((p6.toUInt32 >>> ((8 : Int32) &&& 31).toUInt32).toInt32) &&& (255 : Int32)) % (6 : Int32))), iv (own_mx ((p6 &&& (255 : Int32)) % (6 : Int32)) ((((p6.toUInt32 >>> ((8 : Int32) &&& 31).toUInt32).toInt32) &&& (255 : Int32)) % (6 : Int32))), iv 0]) rfl (XS.aload X20.here hx rfl (hb hby at_161) rfl rfl (XS.iload X20.here hx rfl (hb hby at_163) rfl  k))))) ?_
          refine own_s T20 (mkF m 167 #[iv p1, iv p2, iv p3, iv p4, iv p5, iv p6, rv b1, iv ((p6 &&& (255 : Int32)) % (6 : Int32)), iv ((((p6.toUInt32 >>> ((8 : Int32) &&& 31).toUInt32).toInt32) &&& (255 : Int32)) % (6 : Int32)), iv (own_mn ((p6 &&& (255 : Int32)) % (6 : Int32)) ((((p6.toUInt32 >>> ((8 : Int32) &&& 31).toUInt32).toInt32) &&& (255 : Int32)) % (6 : Int32))), iv (own_mx ((p6 &&& (255 : Int32)) % (6 : Int32)) ((((p6.toUInt32 >>> ((8 : Int32) &&& 31).toUInt32).toInt32) &&& (255 : Int32)) % (6 : Int32))), iv 0] [(.int (own_mx ((p6 &&& (255 : Int32)) % (6 : Int32)) ((((p6.toUInt32 >>> ((8 : Int32) &&& 31).toUInt32).toInt32) &&& (255 : Int32)) % (6 : Int32)))), (.int (own_mn ((p6 &&& (255 : Int32)) % (6 : Int32)) ((((p6.toUInt32 >>> ((8 : Int32) &&& 31).toUInt32).toInt32) &&& (255 : Int32)) % (6 : Int32)))), (.ref b1)]) (fun _ k => XS.iload X20.here hx rfl (hb hby at_165) rfl  k) ?_
          obtain ⟨v21, T21, L21, X21, hQ21, st21⟩ := own_callS X20 hx hZ (y := own_y5) (W := 0) hown (own_h hw 20 rfl) (own_h hw 21 rfl) (own_h hw 22 rfl) (own_h hw 23 rfl) (by decide) (own_rmdig l Z a0 hw [] b1 (own_mn ((p6 &&& (255 : Int32)) % (6 : Int32)) ((((p6.toUInt32 >>> ((8 : Int32) &&& 31).toUInt32).toInt32) &&& (255 : Int32)) % (6 : Int32))) (own_mx ((p6 &&& (255 : Int32)) % (6 : Int32)) ((((p6.toUInt32 >>> ((8 : Int32) &&& 31).toUInt32).toInt32) &&& (255 : Int32)) % (6 : Int32))) k1 [(nar .char z2), (nar .char z4), (nar .char z6), (nar .char z8), (nar .char z10)] h11 n0 Z11 f11 hfr.1 hto.2) (by decide) (by decide) (g := (mkF m 167 #[iv p1, iv p2, iv p3, iv p4, iv p5, iv p6, rv b1, iv ((p6 &&& (255 : Int32)) % (6 : Int32)), iv ((((p6.toUInt32 >>> ((8 : Int32) &&& 31).toUInt32).toInt32) &&& (255 : Int32)) % (6 : Int32)), iv (own_mn ((p6 &&& (255 : Int32)) % (6 : Int32)) ((((p6.toUInt32 >>> ((8 : Int32) &&& 31).toUInt32).toInt32) &&& (255 : Int32)) % (6 : Int32))), iv (own_mx ((p6 &&& (255 : Int32)) % (6 : Int32)) ((((p6.toUInt32 >>> ((8 : Int32) &&& 31).toUInt32).toInt32) &&& (255 : Int32)) % (6 : Int32))), iv 0] [(.int (own_mx ((p6 &&& (255 : Int32)) % (6 : Int32)) ((((p6.toUInt32 >>> ((8 : Int32) &&& 31).toUInt32).toInt32) &&& (255 : Int32)) % (6 : Int32)))), (.int (own_mn ((p6 &&& (255 : Int32)) % (6 : Int32)) ((((p6.toUInt32 >>> ((8 : Int32) &&& 31).toUInt32).toInt32) &&& (255 : Int32)) % (6 : Int32)))), (.ref b1)])) rfl (by rw [hml]; rfl) (argsL := [(.ref b1), (.int (own_mn ((p6 &&& (255 : Int32)) % (6 : Int32)) ((((p6.toUInt32 >>> ((8 : Int32) &&& 31).toUInt32).toInt32) &&& (255 : Int32)) % (6 : Int32)))), (.int (own_mx ((p6 &&& (255 : Int32)) % (6 : Int32)) ((((p6.toUInt32 >>> ((8 : Int32) &&& 31).toUInt32).toInt32) &&& (255 : Int32)) % (6 : Int32))))]) (rest := []) rfl (lenOf own_pd4 rfl) rfl (by show 2 * 0 + _ ≤ _; exact Nat.le_of_eq rfl) (hb hby at_167) e20 (by decide) (by decide)
          obtain ⟨rfl, Nq21, e21⟩ := hQ21
          have N21 := Fr.app N20 Nq21
          refine own_s T21 (mkF m 170 #[iv p1, iv p2, iv p3, iv p4, iv p5, iv p6, rv b1, iv ((p6 &&& (255 : Int32)) % (6 : Int32)), iv ((((p6.toUInt32 >>> ((8 : Int32) &&& 31).toUInt32).toInt32) &&& (255 : Int32)) % (6 : Int32)), iv (own_mn ((p6 &&& (255 : Int32)) % (6 : Int32)) ((((p6.toUInt32 >>> ((8 : Int32) &&& 31).toUInt32).toInt32) &&& (255 : Int32)) % (6 : Int32))), iv (own_mx ((p6 &&& (255 : Int32)) % (6 : Int32)) ((((p6.toUInt32 >>> ((8 : Int32) &&& 31).toUInt32).toInt32) &&& (255 : Int32)) % (6 : Int32))), iv 0] [(.int (own_b (own_all (fun j => own_D ([(nar .char z2), (nar .char z4), (nar .char z6), (nar .char z8), (nar .char z10)].getD j 0)) ((own_mn ((p6 &&& (255 : Int32)) % (6 : Int32)) ((((p6.toUInt32 >>> ((8 : Int32) &&& 31).toUInt32).toInt32) &&& (255 : Int32)) % (6 : Int32)))).toNatClampNeg (((own_mx ((p6 &&& (255 : Int32)) % (6 : Int32)) ((((p6.toUInt32 >>> ((8 : Int32) &&& 31).toUInt32).toInt32) &&& (255 : Int32)) % (6 : Int32)))).toNatClampNeg - ((own_mn ((p6 &&& (255 : Int32)) % (6 : Int32)) ((((p6.toUInt32 >>> ((8 : Int32) &&& 31).toUInt32).toInt32) &&& (255 : Int32)) % (6 : Int32)))).toNatClampNeg))))]) st21 ?_
          refine own_s T21 (mkF m 180 #[iv p1, iv p2, iv p3, iv p4, iv p5, iv p6, rv b1, iv ((p6 &&& (255 : Int32)) % (6 : Int32)), iv ((((p6.toUInt32 >>> ((8 : Int32) &&& 31).toUInt32).toInt32) &&& (255 : Int32)) % (6 : Int32)), iv (own_mn ((p6 &&& (255 : Int32)) % (6 : Int32)) ((((p6.toUInt32 >>> ((8 : Int32) &&& 31).toUInt32).toInt32) &&& (255 : Int32)) % (6 : Int32))), iv (own_mx ((p6 &&& (255 : Int32)) % (6 : Int32)) ((((p6.toUInt32 >>> ((8 : Int32) &&& 31).toUInt32).toInt32) &&& (255 : Int32)) % (6 : Int32))), iv 0] [(.int 1)]) (fun _ k => XS.iload X21.here hx rfl (hb hby at_170) rfl  (XS.icmpNo X21.here hx rfl (hb hby at_172) rfl (teq (by rw [own_allEq hfr.1 hfr.2 hto.1 hto.2, c138]; simp [own_b])).2 (XS.iconst X21.here hx rfl (hb hby at_175) (XS.goto X21.here hx rfl (pc0 := 176) (pc' := 180) rfl (hb hby at_176) (by decide) (by decide) k)))) ?_
          exact own_finZ X21 hx (t := .boolean) hret (by simp) (z' := (1 : Int32)) rfl (hb hby at_180) (own_end (Qv := (own_Q0 Z p1 p2 p3 p4 p5 p6 h0 n0)) X21 (own_some hret) hlk (by decide) (by decide) e21 ⟨rfl, N21⟩)
        · refine own_s T20 (mkF m 148 #[iv p1, iv p2, iv p3, iv p4, iv p5, iv p6, rv b1, iv ((p6 &&& (255 : Int32)) % (6 : Int32)), iv ((((p6.toUInt32 >>> ((8 : Int32) &&& 31).toUInt32).toInt32) &&& (255 : Int32)) % (6 : Int32)), iv (own_mn ((p6 &&& (255 : Int32)) % (6 : Int32)) ((((p6.toUInt32 >>> ((8 : Int32) &&& 31).toUInt32).toInt32) &&& (255 : Int32)) % (6 : Int32))), iv (own_mx ((p6 &&& (255 : Int32)) % (6 : Int32)) ((((p6.toUInt32 >>> ((8 : Int32) &&& 31).toUInt32).toInt32) &&& (255 : Int32)) % (6 : Int32))), u_] [(.int (own_mx ((p6 &&& (255 : Int32)) % (6 : Int32)) ((((p6.toUInt32 >>> ((8 : Int32) &&& 31).toUInt32).toInt32) &&& (255 : Int32)) % (6 : Int32)))), (.int (own_mn ((p6 &&& (255 : Int32)) % (6 : Int32)) ((((p6.toUInt32 >>> ((8 : Int32) &&& 31).toUInt32).toInt32) &&& (255 : Int32)) % (6 : Int32)))), (.int 4), (.ref b1)]) (fun _ k => XS.ifNo X20.here hx rfl (hb hby at_138) rfl ((if0 _ _).trans (feq (own_b1 c138)).1) (XS.aload X20.here hx rfl (hb hby at_141) rfl rfl (XS.iconst X20.here hx rfl (hb hby at_143) (XS.iload X20.here hx rfl (hb hby at_144) rfl  (XS.iload X20.here hx rfl (hb hby at_146) rfl  k))))) ?_
          obtain ⟨v22, T22, L22, X22, hQ22, st22⟩ := own_callS X20 hx hZ (y := own_y4) (W := 0) hown (own_h hw 14 rfl) (own_h hw 15 rfl) (own_h hw 3 rfl) (own_h hw 16 rfl) (by decide) (own_rmok l Z a0 hw [] b1 (4 : Int32) (own_mn ((p6 &&& (255 : Int32)) % (6 : Int32)) ((((p6.toUInt32 >>> ((8 : Int32) &&& 31).toUInt32).toInt32) &&& (255 : Int32)) % (6 : Int32))) (own_mx ((p6 &&& (255 : Int32)) % (6 : Int32)) ((((p6.toUInt32 >>> ((8 : Int32) &&& 31).toUInt32).toInt32) &&& (255 : Int32)) % (6 : Int32))) k1 [(nar .char z2), (nar .char z4), (nar .char z6), (nar .char z8), (nar .char z10)] h11 n0 Z11 f11 (by decide) (by decide)) (by decide) (by decide) (g := (mkF m 148 #[iv p1, iv p2, iv p3, iv p4, iv p5, iv p6, rv b1, iv ((p6 &&& (255 : Int32)) % (6 : Int32)), iv ((((p6.toUInt32 >>> ((8 : Int32) &&& 31).toUInt32).toInt32) &&& (255 : Int32)) % (6 : Int32)), iv (own_mn ((p6 &&& (255 : Int32)) % (6 : Int32)) ((((p6.toUInt32 >>> ((8 : Int32) &&& 31).toUInt32).toInt32) &&& (255 : Int32)) % (6 : Int32))), iv (own_mx ((p6 &&& (255 : Int32)) % (6 : Int32)) ((((p6.toUInt32 >>> ((8 : Int32) &&& 31).toUInt32).toInt32) &&& (255 : Int32)) % (6 : Int32))), u_] [(.int (own_mx ((p6 &&& (255 : Int32)) % (6 : Int32)) ((((p6.toUInt32 >>> ((8 : Int32) &&& 31).toUInt32).toInt32) &&& (255 : Int32)) % (6 : Int32)))), (.int (own_mn ((p6 &&& (255 : Int32)) % (6 : Int32)) ((((p6.toUInt32 >>> ((8 : Int32) &&& 31).toUInt32).toInt32) &&& (255 : Int32)) % (6 : Int32)))), (.int 4), (.ref b1)])) rfl (by rw [hml]; rfl) (argsL := [(.ref b1), (.int 4), (.int (own_mn ((p6 &&& (255 : Int32)) % (6 : Int32)) ((((p6.toUInt32 >>> ((8 : Int32) &&& 31).toUInt32).toInt32) &&& (255 : Int32)) % (6 : Int32)))), (.int (own_mx ((p6 &&& (255 : Int32)) % (6 : Int32)) ((((p6.toUInt32 >>> ((8 : Int32) &&& 31).toUInt32).toInt32) &&& (255 : Int32)) % (6 : Int32))))]) (rest := []) rfl (lenOf own_pd3 rfl) rfl (by show 2 * 0 + _ ≤ _; exact Nat.le_of_eq rfl) (hb hby at_148) e20 (by decide) (by decide)
          obtain ⟨rfl, Nq22, e22⟩ := hQ22
          have N22 := Fr.app N20 Nq22
          refine own_s T22 (mkF m 151 #[iv p1, iv p2, iv p3, iv p4, iv p5, iv p6, rv b1, iv ((p6 &&& (255 : Int32)) % (6 : Int32)), iv ((((p6.toUInt32 >>> ((8 : Int32) &&& 31).toUInt32).toInt32) &&& (255 : Int32)) % (6 : Int32)), iv (own_mn ((p6 &&& (255 : Int32)) % (6 : Int32)) ((((p6.toUInt32 >>> ((8 : Int32) &&& 31).toUInt32).toInt32) &&& (255 : Int32)) % (6 : Int32))), iv (own_mx ((p6 &&& (255 : Int32)) % (6 : Int32)) ((((p6.toUInt32 >>> ((8 : Int32) &&& 31).toUInt32).toInt32) &&& (255 : Int32)) % (6 : Int32))), u_] [(.int (own_b (decide ((4 : Int32) < (own_mn ((p6 &&& (255 : Int32)) % (6 : Int32)) ((((p6.toUInt32 >>> ((8 : Int32) &&& 31).toUInt32).toInt32) &&& (255 : Int32)) % (6 : Int32)))) || !decide ((4 : Int32) < (own_mx ((p6 &&& (255 : Int32)) % (6 : Int32)) ((((p6.toUInt32 >>> ((8 : Int32) &&& 31).toUInt32).toInt32) &&& (255 : Int32)) % (6 : Int32)))) || own_D ([(nar .char z2), (nar .char z4), (nar .char z6), (nar .char z8), (nar .char z10)].getD ((4 : Int32)).toNatClampNeg 0))))]) st22 ?_
          by_cases c151 : (decide ((4 : Int32) < (own_mn ((p6 &&& (255 : Int32)) % (6 : Int32)) ((((p6.toUInt32 >>> ((8 : Int32) &&& 31).toUInt32).toInt32) &&& (255 : Int32)) % (6 : Int32)))) || !decide ((4 : Int32) < (own_mx ((p6 &&& (255 : Int32)) % (6 : Int32)) ((((p6.toUInt32 >>> ((8 : Int32) &&& 31).toUInt32).toInt32) &&& (255 : Int32)) % (6 : Int32)))) || own_D ([(nar .char z2), (nar .char z4), (nar .char z6), (nar .char z8), (nar .char z10)].getD ((4 : Int32)).toNatClampNeg 0)) = false
          · refine own_s T22 (mkF m 165 #[iv p1, iv p2, iv p3, iv p4, iv p5, iv p6, rv b1, iv ((p6 &&& (255 : Int32)) % (6 : Int32)), iv ((((p6.toUInt32 >>> ((8 : Int32) &&& 31).toUInt32).toInt32) &&& (255 : Int32)) % (6 : Int32)), iv (own_mn ((p6 &&& (255 : Int32)) % (6 : Int32)) ((((p6.toUInt32 >>> ((8 : Int32) &&& 31).toUInt32).toInt32) &&& (255 : Int32)) % (6 : Int32))), iv (own_mx ((p6 &&& (255 : Int32)) % (6 : Int32)) ((((p6.toUInt32 >>> ((8 : Int32) &&& 31).toUInt32).toInt32) &&& (255 : Int32)) % (6 : Int32))), iv 0] [(.int (own_mn ((p6 &&& (255 : Int32)) % (6 : Int32)) ((((p6.toUInt32 >>> ((8 : Int32) &&& 31).toUInt32).toInt32) &&& (255 : Int32)) % (6 : Int32)))), (.ref b1)]) (fun _ k => XS.ifYes X22.here hx rfl (pc0 := 151) (pc' := 158) rfl (hb hby at_151) rfl ((if0 _ _).trans (teq (own_b0 c151)).1) (by decide) (by decide) (XS.iconst X22.here hx rfl (hb hby at_158) (XS.istore X22.here hx rfl (hb hby at_159) rfl (l' := #[iv p1, iv p2, iv p3, iv p4, iv p5, iv p6, rv b1, iv ((p6 &&& (255 : Int32)) % (6 : Int32)), iv ((((p6.toUInt32 >>> ((8 : Int32) &&& 31).toUInt32).toInt32) &&& (255 : Int32)) % (6 : Int32)), iv (own_mn ((p6 &&& (255 : Int32)) % (6 : Int32)) ((((p6.toUInt32 >>> ((8 : Int32) &&& 31).toUInt32).toInt32) &&& (255 : Int32)) % (6 : Int32))), iv (own_mx ((p6 &&& (255 : Int32)) % (6 : Int32)) ((((p6.toUInt32 >>> ((8 : Int32) &&& 31).toUInt32).toInt32) &&& (255 : Int32)) % (6 : Int32))), iv 0]) rfl (XS.aload X22.here hx rfl (hb hby at_161) rfl rfl (XS.iload X22.here hx rfl (hb hby at_163) rfl  k))))) ?_
            refine own_s T22 (mkF m 167 #[iv p1, iv p2, iv p3, iv p4, iv p5, iv p6, rv b1, iv ((p6 &&& (255 : Int32)) % (6 : Int32)), iv ((((p6.toUInt32 >>> ((8 : Int32) &&& 31).toUInt32).toInt32) &&& (255 : Int32)) % (6 : Int32)), iv (own_mn ((p6 &&& (255 : Int32)) % (6 : Int32)) ((((p6.toUInt32 >>> ((8 : Int32) &&& 31).toUInt32).toInt32) &&& (255 : Int32)) % (6 : Int32))), iv (own_mx ((p6 &&& (255 : Int32)) % (6 : Int32)) ((((p6.toUInt32 >>> ((8 : Int32) &&& 31).toUInt32).toInt32) &&& (255 : Int32)) % (6 : Int32))), iv 0] [(.int (own_mx ((p6 &&& (255 : Int32)) % (6 : Int32)) ((((p6.toUInt32 >>> ((8 : Int32) &&& 31).toUInt32).toInt32) &&& (255 : Int32)) % (6 : Int32)))), (.int (own_mn ((p6 &&& (255 : Int32)) % (6 : Int32)) ((((p6.toUInt32 >>> ((8 : Int32) &&& 31).toUInt32).toInt32) &&& (255 : Int32)) % (6 : Int32)))), (.ref b1)]) (fun _ k => XS.iload X22.here hx rfl (hb hby at_165) rfl  k) ?_
            obtain ⟨v23, T23, L23, X23, hQ23, st23⟩ := own_callS X22 hx hZ (y := own_y5) (W := 0) hown (own_h hw 20 rfl) (own_h hw 21 rfl) (own_h hw 22 rfl) (own_h hw 23 rfl) (by decide) (own_rmdig l Z a0 hw [] b1 (own_mn ((p6 &&& (255 : Int32)) % (6 : Int32)) ((((p6.toUInt32 >>> ((8 : Int32) &&& 31).toUInt32).toInt32) &&& (255 : Int32)) % (6 : Int32))) (own_mx ((p6 &&& (255 : Int32)) % (6 : Int32)) ((((p6.toUInt32 >>> ((8 : Int32) &&& 31).toUInt32).toInt32) &&& (255 : Int32)) % (6 : Int32))) k1 [(nar .char z2), (nar .char z4), (nar .char z6), (nar .char z8), (nar .char z10)] h11 n0 Z11 f11 hfr.1 hto.2) (by decide) (by decide) (g := (mkF m 167 #[iv p1, iv p2, iv p3, iv p4, iv p5, iv p6, rv b1, iv ((p6 &&& (255 : Int32)) % (6 : Int32)), iv ((((p6.toUInt32 >>> ((8 : Int32) &&& 31).toUInt32).toInt32) &&& (255 : Int32)) % (6 : Int32)), iv (own_mn ((p6 &&& (255 : Int32)) % (6 : Int32)) ((((p6.toUInt32 >>> ((8 : Int32) &&& 31).toUInt32).toInt32) &&& (255 : Int32)) % (6 : Int32))), iv (own_mx ((p6 &&& (255 : Int32)) % (6 : Int32)) ((((p6.toUInt32 >>> ((8 : Int32) &&& 31).toUInt32).toInt32) &&& (255 : Int32)) % (6 : Int32))), iv 0] [(.int (own_mx ((p6 &&& (255 : Int32)) % (6 : Int32)) ((((p6.toUInt32 >>> ((8 : Int32) &&& 31).toUInt32).toInt32) &&& (255 : Int32)) % (6 : Int32)))), (.int (own_mn ((p6 &&& (255 : Int32)) % (6 : Int32)) ((((p6.toUInt32 >>> ((8 : Int32) &&& 31).toUInt32).toInt32) &&& (255 : Int32)) % (6 : Int32)))), (.ref b1)])) rfl (by rw [hml]; rfl) (argsL := [(.ref b1), (.int (own_mn ((p6 &&& (255 : Int32)) % (6 : Int32)) ((((p6.toUInt32 >>> ((8 : Int32) &&& 31).toUInt32).toInt32) &&& (255 : Int32)) % (6 : Int32)))), (.int (own_mx ((p6 &&& (255 : Int32)) % (6 : Int32)) ((((p6.toUInt32 >>> ((8 : Int32) &&& 31).toUInt32).toInt32) &&& (255 : Int32)) % (6 : Int32))))]) (rest := []) rfl (lenOf own_pd4 rfl) rfl (by show 2 * 0 + _ ≤ _; exact Nat.le_of_eq rfl) (hb hby at_167) e22 (by decide) (by decide)
            obtain ⟨rfl, Nq23, e23⟩ := hQ23
            have N23 := Fr.app N22 Nq23
            refine own_s T23 (mkF m 170 #[iv p1, iv p2, iv p3, iv p4, iv p5, iv p6, rv b1, iv ((p6 &&& (255 : Int32)) % (6 : Int32)), iv ((((p6.toUInt32 >>> ((8 : Int32) &&& 31).toUInt32).toInt32) &&& (255 : Int32)) % (6 : Int32)), iv (own_mn ((p6 &&& (255 : Int32)) % (6 : Int32)) ((((p6.toUInt32 >>> ((8 : Int32) &&& 31).toUInt32).toInt32) &&& (255 : Int32)) % (6 : Int32))), iv (own_mx ((p6 &&& (255 : Int32)) % (6 : Int32)) ((((p6.toUInt32 >>> ((8 : Int32) &&& 31).toUInt32).toInt32) &&& (255 : Int32)) % (6 : Int32))), iv 0] [(.int (own_b (own_all (fun j => own_D ([(nar .char z2), (nar .char z4), (nar .char z6), (nar .char z8), (nar .char z10)].getD j 0)) ((own_mn ((p6 &&& (255 : Int32)) % (6 : Int32)) ((((p6.toUInt32 >>> ((8 : Int32) &&& 31).toUInt32).toInt32) &&& (255 : Int32)) % (6 : Int32)))).toNatClampNeg (((own_mx ((p6 &&& (255 : Int32)) % (6 : Int32)) ((((p6.toUInt32 >>> ((8 : Int32) &&& 31).toUInt32).toInt32) &&& (255 : Int32)) % (6 : Int32)))).toNatClampNeg - ((own_mn ((p6 &&& (255 : Int32)) % (6 : Int32)) ((((p6.toUInt32 >>> ((8 : Int32) &&& 31).toUInt32).toInt32) &&& (255 : Int32)) % (6 : Int32)))).toNatClampNeg))))]) st23 ?_
            refine own_s T23 (mkF m 180 #[iv p1, iv p2, iv p3, iv p4, iv p5, iv p6, rv b1, iv ((p6 &&& (255 : Int32)) % (6 : Int32)), iv ((((p6.toUInt32 >>> ((8 : Int32) &&& 31).toUInt32).toInt32) &&& (255 : Int32)) % (6 : Int32)), iv (own_mn ((p6 &&& (255 : Int32)) % (6 : Int32)) ((((p6.toUInt32 >>> ((8 : Int32) &&& 31).toUInt32).toInt32) &&& (255 : Int32)) % (6 : Int32))), iv (own_mx ((p6 &&& (255 : Int32)) % (6 : Int32)) ((((p6.toUInt32 >>> ((8 : Int32) &&& 31).toUInt32).toInt32) &&& (255 : Int32)) % (6 : Int32))), iv 0] [(.int 1)]) (fun _ k => XS.iload X23.here hx rfl (hb hby at_170) rfl  (XS.icmpNo X23.here hx rfl (hb hby at_172) rfl (teq (by rw [own_allEq hfr.1 hfr.2 hto.1 hto.2, c151]; simp [own_b])).2 (XS.iconst X23.here hx rfl (hb hby at_175) (XS.goto X23.here hx rfl (pc0 := 176) (pc' := 180) rfl (hb hby at_176) (by decide) (by decide) k)))) ?_
            exact own_finZ X23 hx (t := .boolean) hret (by simp) (z' := (1 : Int32)) rfl (hb hby at_180) (own_end (Qv := (own_Q0 Z p1 p2 p3 p4 p5 p6 h0 n0)) X23 (own_some hret) hlk (by decide) (by decide) e23 ⟨rfl, N23⟩)
          · refine own_s T22 (mkF m 163 #[iv p1, iv p2, iv p3, iv p4, iv p5, iv p6, rv b1, iv ((p6 &&& (255 : Int32)) % (6 : Int32)), iv ((((p6.toUInt32 >>> ((8 : Int32) &&& 31).toUInt32).toInt32) &&& (255 : Int32)) % (6 : Int32)), iv (own_mn ((p6 &&& (255 : Int32)) % (6 : Int32)) ((((p6.toUInt32 >>> ((8 : Int32) &&& 31).toUInt32).toInt32) &&& (255 : Int32)) % (6 : Int32))), iv (own_mx ((p6 &&& (255 : Int32)) % (6 : Int32)) ((((p6.toUInt32 >>> ((8 : Int32) &&& 31).toUInt32).toInt32) &&& (255 : Int32)) % (6 : Int32))), iv 1] [(.ref b1)]) (fun _ k => XS.ifNo X22.here hx rfl (hb hby at_151) rfl ((if0 _ _).trans (feq (own_b1 c151)).1) (XS.iconst X22.here hx rfl (hb hby at_154) (XS.goto X22.here hx rfl (pc0 := 155) (pc' := 159) rfl (hb hby at_155) (by decide) (by decide) (XS.istore X22.here hx rfl (hb hby at_159) rfl (l' := #[iv p1, iv p2, iv p3, iv p4, iv p5, iv p6, rv b1, iv ((p6 &&& (255 : Int32)) % (6 : Int32)), iv ((((p6.toUInt32 >>> ((8 : Int32) &&& 31).toUInt32).toInt32) &&& (255 : Int32)) % (6 : Int32)), iv (own_mn ((p6 &&& (255 : Int32)) % (6 : Int32)) ((((p6.toUInt32 >>> ((8 : Int32) &&& 31).toUInt32).toInt32) &&& (255 : Int32)) % (6 : Int32))), iv (own_mx ((p6 &&& (255 : Int32)) % (6 : Int32)) ((((p6.toUInt32 >>> ((8 : Int32) &&& 31).toUInt32).toInt32) &&& (255 : Int32)) % (6 : Int32))), iv 1]) rfl (XS.aload X22.here hx rfl (hb hby at_161) rfl rfl k))))) ?_
            refine own_s T22 (mkF m 167 #[iv p1, iv p2, iv p3, iv p4, iv p5, iv p6, rv b1, iv ((p6 &&& (255 : Int32)) % (6 : Int32)), iv ((((p6.toUInt32 >>> ((8 : Int32) &&& 31).toUInt32).toInt32) &&& (255 : Int32)) % (6 : Int32)), iv (own_mn ((p6 &&& (255 : Int32)) % (6 : Int32)) ((((p6.toUInt32 >>> ((8 : Int32) &&& 31).toUInt32).toInt32) &&& (255 : Int32)) % (6 : Int32))), iv (own_mx ((p6 &&& (255 : Int32)) % (6 : Int32)) ((((p6.toUInt32 >>> ((8 : Int32) &&& 31).toUInt32).toInt32) &&& (255 : Int32)) % (6 : Int32))), iv 1] [(.int (own_mx ((p6 &&& (255 : Int32)) % (6 : Int32)) ((((p6.toUInt32 >>> ((8 : Int32) &&& 31).toUInt32).toInt32) &&& (255 : Int32)) % (6 : Int32)))), (.int (own_mn ((p6 &&& (255 : Int32)) % (6 : Int32)) ((((p6.toUInt32 >>> ((8 : Int32) &&& 31).toUInt32).toInt32) &&& (255 : Int32)) % (6 : Int32)))), (.ref b1)]) (fun _ k => XS.iload X22.here hx rfl (hb hby at_163) rfl  (XS.iload X22.here hx rfl (hb hby at_165) rfl  k)) ?_
            obtain ⟨v24, T24, L24, X24, hQ24, st24⟩ := own_callS X22 hx hZ (y := own_y5) (W := 0) hown (own_h hw 20 rfl) (own_h hw 21 rfl) (own_h hw 22 rfl) (own_h hw 23 rfl) (by decide) (own_rmdig l Z a0 hw [] b1 (own_mn ((p6 &&& (255 : Int32)) % (6 : Int32)) ((((p6.toUInt32 >>> ((8 : Int32) &&& 31).toUInt32).toInt32) &&& (255 : Int32)) % (6 : Int32))) (own_mx ((p6 &&& (255 : Int32)) % (6 : Int32)) ((((p6.toUInt32 >>> ((8 : Int32) &&& 31).toUInt32).toInt32) &&& (255 : Int32)) % (6 : Int32))) k1 [(nar .char z2), (nar .char z4), (nar .char z6), (nar .char z8), (nar .char z10)] h11 n0 Z11 f11 hfr.1 hto.2) (by decide) (by decide) (g := (mkF m 167 #[iv p1, iv p2, iv p3, iv p4, iv p5, iv p6, rv b1, iv ((p6 &&& (255 : Int32)) % (6 : Int32)), iv ((((p6.toUInt32 >>> ((8 : Int32) &&& 31).toUInt32).toInt32) &&& (255 : Int32)) % (6 : Int32)), iv (own_mn ((p6 &&& (255 : Int32)) % (6 : Int32)) ((((p6.toUInt32 >>> ((8 : Int32) &&& 31).toUInt32).toInt32) &&& (255 : Int32)) % (6 : Int32))), iv (own_mx ((p6 &&& (255 : Int32)) % (6 : Int32)) ((((p6.toUInt32 >>> ((8 : Int32) &&& 31).toUInt32).toInt32) &&& (255 : Int32)) % (6 : Int32))), iv 1] [(.int (own_mx ((p6 &&& (255 : Int32)) % (6 : Int32)) ((((p6.toUInt32 >>> ((8 : Int32) &&& 31).toUInt32).toInt32) &&& (255 : Int32)) % (6 : Int32)))), (.int (own_mn ((p6 &&& (255 : Int32)) % (6 : Int32)) ((((p6.toUInt32 >>> ((8 : Int32) &&& 31).toUInt32).toInt32) &&& (255 : Int32)) % (6 : Int32)))), (.ref b1)])) rfl (by rw [hml]; rfl) (argsL := [(.ref b1), (.int (own_mn ((p6 &&& (255 : Int32)) % (6 : Int32)) ((((p6.toUInt32 >>> ((8 : Int32) &&& 31).toUInt32).toInt32) &&& (255 : Int32)) % (6 : Int32)))), (.int (own_mx ((p6 &&& (255 : Int32)) % (6 : Int32)) ((((p6.toUInt32 >>> ((8 : Int32) &&& 31).toUInt32).toInt32) &&& (255 : Int32)) % (6 : Int32))))]) (rest := []) rfl (lenOf own_pd4 rfl) rfl (by show 2 * 0 + _ ≤ _; exact Nat.le_of_eq rfl) (hb hby at_167) e22 (by decide) (by decide)
            obtain ⟨rfl, Nq24, e24⟩ := hQ24
            have N24 := Fr.app N22 Nq24
            refine own_s T24 (mkF m 170 #[iv p1, iv p2, iv p3, iv p4, iv p5, iv p6, rv b1, iv ((p6 &&& (255 : Int32)) % (6 : Int32)), iv ((((p6.toUInt32 >>> ((8 : Int32) &&& 31).toUInt32).toInt32) &&& (255 : Int32)) % (6 : Int32)), iv (own_mn ((p6 &&& (255 : Int32)) % (6 : Int32)) ((((p6.toUInt32 >>> ((8 : Int32) &&& 31).toUInt32).toInt32) &&& (255 : Int32)) % (6 : Int32))), iv (own_mx ((p6 &&& (255 : Int32)) % (6 : Int32)) ((((p6.toUInt32 >>> ((8 : Int32) &&& 31).toUInt32).toInt32) &&& (255 : Int32)) % (6 : Int32))), iv 1] [(.int (own_b (own_all (fun j => own_D ([(nar .char z2), (nar .char z4), (nar .char z6), (nar .char z8), (nar .char z10)].getD j 0)) ((own_mn ((p6 &&& (255 : Int32)) % (6 : Int32)) ((((p6.toUInt32 >>> ((8 : Int32) &&& 31).toUInt32).toInt32) &&& (255 : Int32)) % (6 : Int32)))).toNatClampNeg (((own_mx ((p6 &&& (255 : Int32)) % (6 : Int32)) ((((p6.toUInt32 >>> ((8 : Int32) &&& 31).toUInt32).toInt32) &&& (255 : Int32)) % (6 : Int32)))).toNatClampNeg - ((own_mn ((p6 &&& (255 : Int32)) % (6 : Int32)) ((((p6.toUInt32 >>> ((8 : Int32) &&& 31).toUInt32).toInt32) &&& (255 : Int32)) % (6 : Int32)))).toNatClampNeg))))]) st24 ?_
            refine own_s T24 (mkF m 180 #[iv p1, iv p2, iv p3, iv p4, iv p5, iv p6, rv b1, iv ((p6 &&& (255 : Int32)) % (6 : Int32)), iv ((((p6.toUInt32 >>> ((8 : Int32) &&& 31).toUInt32).toInt32) &&& (255 : Int32)) % (6 : Int32)), iv (own_mn ((p6 &&& (255 : Int32)) % (6 : Int32)) ((((p6.toUInt32 >>> ((8 : Int32) &&& 31).toUInt32).toInt32) &&& (255 : Int32)) % (6 : Int32))), iv (own_mx ((p6 &&& (255 : Int32)) % (6 : Int32)) ((((p6.toUInt32 >>> ((8 : Int32) &&& 31).toUInt32).toInt32) &&& (255 : Int32)) % (6 : Int32))), iv 1] [(.int 1)]) (fun _ k => XS.iload X24.here hx rfl (hb hby at_170) rfl  (XS.icmpNo X24.here hx rfl (hb hby at_172) rfl (teq (by rw [own_allEq hfr.1 hfr.2 hto.1 hto.2, Bool.of_not_eq_false c99, Bool.of_not_eq_false c112, Bool.of_not_eq_false c125, Bool.of_not_eq_false c138, Bool.of_not_eq_false c151]; rfl)).2 (XS.iconst X24.here hx rfl (hb hby at_175) (XS.goto X24.here hx rfl (pc0 := 176) (pc' := 180) rfl (hb hby at_176) (by decide) (by decide) k)))) ?_
            exact own_finZ X24 hx (t := .boolean) hret (by simp) (z' := (1 : Int32)) rfl (hb hby at_180) (own_end (Qv := (own_Q0 Z p1 p2 p3 p4 p5 p6 h0 n0)) X24 (own_some hret) hlk (by decide) (by decide) e24 ⟨rfl, N24⟩)
set_option maxRecDepth 65536 in
set_option maxHeartbeats 40000000 in
theorem comes_1 {Post : Tables → Env → Array Value → State → Outcome → State → Prop} (hpost : ∀ tb e args s v u, (limb_1_1.after args s (.returned v) u = true ∧ limb_1_2.after args s (.returned v) u = true ∧ True) → FrameEnd s (.returned v) u (Jvm.fieldLocs frame_1_writes args s ++ Jvm.arrayLocs frame_1_arrays args s ++ Jvm.staticLocs frame_1_statics s) 16 128 → Post tb e args s (.returned v) u) :
    ArmFor flags0 classFile x code maxLocals ret World_1 tables_1 room_1 Calls_1 rest_1 Pre_1 Post := by
  intro l hfl _ _ p e ha hc hk s m args below hf hA hF happ hP
  obtain ⟨hcalls, hrest, hpre⟩ := hP
  obtain ⟨-, -, -, hnamed, -, -, -, hat⟩ := (Spec.applies_iff hf).mp happ
  obtain ⟨hg, hn⟩ := and_e (Cond.before_iff.mp (show (Jvm.Cond.and given_1 narrow_1).before args s = true from hpre))
  obtain ⟨g1, g2⟩ := and_e hg
  obtain ⟨g3, g4⟩ := and_e g2
  obtain ⟨g5, g6⟩ := and_e g4
  obtain ⟨g7, g8⟩ := and_e g6
  obtain ⟨g9, g10⟩ := and_e g8
  obtain ⟨g11, g12⟩ := and_e g10
  obtain ⟨w0, w1, w2, w3, w4, w5, rfl⟩ : ∃ w0 w1 w2 w3 w4 w5 : Value, args = #[w0, w1, w2, w3, w4, w5] := by
    have hs : args.size = 6 := by simpa [Cond.value, given_1] using g1
    obtain ⟨L⟩ := args
    match L, hs with
    | [w0, w1, w2, w3, w4, w5], _ => exact ⟨w0, w1, w2, w3, w4, w5, rfl⟩
  have hw := fun d (hd : d ∈ tables_1) => atoms_spec (ws := Jvm.Cond.code x code maxLocals ret :: tables_1) hat d (List.mem_cons_of_mem _ hd)
  have hfit : Fit s := fun {y c} hc i hi => by
    obtain ⟨ha, rfl⟩ := Array.getElem?_eq_some_iff.mp hc
    have q := List.all_eq_true.mp ((Array.all_eq_true_iff_forall_mem.mp hF) _ (Array.getElem_mem ha)) i (List.mem_range.mpr hi)
    simpa [Array.getElem?_eq_getElem hi] using q
  obtain ⟨i0, ei0⟩ := is_v g3
  obtain rfl : w0 = (.int i0) := Option.some.inj ei0
  obtain ⟨i1, ei1⟩ := is_v g5
  obtain rfl : w1 = (.int i1) := Option.some.inj ei1
  obtain ⟨i2, ei2⟩ := is_v g7
  obtain rfl : w2 = (.int i2) := Option.some.inj ei2
  obtain ⟨i3, ei3⟩ := is_v g9
  obtain rfl : w3 = (.int i3) := Option.some.inj ei3
  obtain ⟨i4, ei4⟩ := is_v g11
  obtain rfl : w4 = (.int i4) := Option.some.inj ei4
  obtain ⟨i5, ei5⟩ := is_v g12
  obtain rfl : w5 = (.int i5) := Option.some.inj ei5
  obtain ⟨n, o, h1, h2, h3, _, L, rfl, ⟨rfl, N⟩, hq⟩ := own_rm0 l s _ hw tables_1 i0 i1 i2 i3 i4 i5 s.heap s.heap.size (Nat.le_refl _)  p e ha hc hk s m _ below hf ((Spec.applies_iff_loose hf).mp happ).1 ⟨rfl, State.Warmed39.refl s, rfl⟩ trivial
  refine ⟨n, _, h1, h2, h3, hpost _ _ _ _ _ _ ⟨Cond.after_iff.mpr rfl, Cond.after_iff.mpr (eq_i res_at (Term.int_eval (1)) rfl), trivial⟩ ⟨hq.1, hq.2.1, (hq.2.2.sift fun y hy => Or.inr (N y hy)).mono (by decide) (by decide)⟩⟩
theorem main_1_1 : Claimed_1_1 := comes_1 fun _ _ _ _ _ _ h hF => ⟨h.1, hF⟩
theorem main_1_2 : Claimed_1_2 := comes_1 fun _ _ _ _ _ _ h hF => ⟨h.2.1, hF⟩
end Jvm.Pilot.@@N@@
namespace Jvm.Pilot.@@N@@
open Jvm Jvm.ClassFile Sem Op Lib Jvm.Free Jvm.Stand Jvm.Pilot.@@N@@.Jvm.D
/-! MADE BY PROGRAM (witnessworld.py) out of the Statement's table words and the real class files: 12 classes; the members and pool entries that the words name. The judged class is class 1, her method 4. -/
namespace start1
open Jvm.ClassFile
def u (s : String) : CpInfo := .utf8 (stringToUtf16 s)
/-- a pool by its gaps: so many unusable entries, then the entry; so many at the end -/
def gap : Nat → List CpInfo → List CpInfo
  | 0, r => r
  | n + 1, r => .unusable :: gap n r
def poolList (es : List (Nat × CpInfo)) (last : Nat) : List CpInfo := es.foldr (fun e r => gap e.1 (e.2 :: r)) (gap last [])
def pool (es : List (Nat × CpInfo)) (last : Nat) : Array CpInfo := ⟨poolList es last⟩
def fileOf (pool : Array CpInfo) (this : Nat) (attrs : Array Attribute := #[]) (ms : Array MethodInfo := #[]) (fl : Nat := 33) (sup : Nat := 0) (ifs : Array Nat := #[]) (fds : Array FieldInfo := #[]) : ClassFile where
  minorVersion := 0
  majorVersion := 65
  constantPool := pool
  accessFlags := fl
  thisClass := this
  superClass := sup
  interfaces := ifs
  fields := fds
  methods := ms
  attributes := attrs
def plain (name : String) (sup : Option ClassId) : Class where
  name := name
  kind := .ordinary
  loader := none
  accessFlags := 33
  super := sup
  interfaces := #[]
  cf := none
  fields := #[]
  methods := #[]
  instanceTypes := #[]
  staticTypes := #[]
  resolved := #[]
  callSites := []
  init := .initialized
  statics := none
  mirror := none

def pool0 : Array CpInfo := pool [(5, u "<init>"), (0, u "()V"), (1, .class_ 10), (1, u "java/lang/Object")] 113

def k0m0 : Method := { name := "<init>", desc := "()V", sig := { parameters := [], returnType := none }, accessFlags := 1, code := none }
/-- java/lang/Object -/
def k0 : Class := { plain "java/lang/Object" none with
  accessFlags := 33
  interfaces := #[]
  cf := some (fileOf pool0 8 #[] #[{ accessFlags := 1, nameIndex := 5, descriptorIndex := 6, attributes := #[] }] 33 0 #[] #[])
  fields := #[]
  methods := #[k0m0]
  instanceTypes := #[]
  staticTypes := #[]
  resolved := Array.replicate 124 none
  statics := none }

def pool1 : Array CpInfo := pool [(2, .class_ 4), (1, u "java/lang/Object"), (0, u "<init>"), (0, u "()V"), (0, .integer 65536), (0, .integer 65535), (0, .methodref 10 11), (0, .class_ 12), (0, .nameAndType 13 14), (0, u "com/example/allotrope/allotrope/text/WholeNumberDigitsPinLaw"), (0, u "isDigit"), (0, u "(C)Z"), (0, .methodref 10 16), (0, .nameAndType 17 18), (0, u "ch"), (0, u "(I)C"), (0, .methodref 20 21), (0, .class_ 22), (0, .nameAndType 23 24), (0, u "java/lang/Math"), (0, u "min"), (0, u "(II)I"), (0, .methodref 20 26), (0, .nameAndType 27 24), (0, u "max"), (0, .methodref 10 29), (0, .nameAndType 30 31), (0, u "ok"), (0, u "([CIII)Z"), (0, .methodref 33 34), (0, .class_ 35), (0, .nameAndType 36 37), (0, u "com/example/allotrope/allotrope/text/WholeNumber"), (0, u "digits"), (0, u "([CII)Z"), (3, u "law"), (0, u "(IIIIII)Z")] 4

def k1m0 : Method := { name := "<init>", desc := "()V", sig := { parameters := [], returnType := none }, accessFlags := 2, code := none }
def k1c1 : Code := { maxStack := 3, maxLocals := 1, code := method_2_code, exceptionTable := #[], attributes := #[] }
def k1m1 : Method := { name := "ch", desc := "(I)C", sig := { parameters := [.int], returnType := some .char }, accessFlags := 10, code := some k1c1 }
def k1c2 : Code := { maxStack := 2, maxLocals := 1, code := method_3_code, exceptionTable := #[], attributes := #[] }
def k1m2 : Method := { name := "isDigit", desc := "(C)Z", sig := { parameters := [.char], returnType := some .boolean }, accessFlags := 10, code := some k1c2 }
def k1c3 : Code := { maxStack := 2, maxLocals := 4, code := method_4_code, exceptionTable := #[], attributes := #[] }
def k1m3 : Method := { name := "ok", desc := "([CIII)Z", sig := { parameters := [(.array .char), .int, .int, .int], returnType := some .boolean }, accessFlags := 10, code := some k1c3 }
def k1c4 : Code := { maxStack := 4, maxLocals := 12, code := code, exceptionTable := #[], attributes := #[] }
def k1m4 : Method := { name := "law", desc := "(IIIIII)Z", sig := { parameters := [.int, .int, .int, .int, .int, .int], returnType := some .boolean }, accessFlags := 9, code := some k1c4 }
/-- com/example/allotrope/allotrope/text/WholeNumberDigitsPinLaw -/
def k1 : Class := { plain "com/example/allotrope/allotrope/text/WholeNumberDigitsPinLaw" (some 0) with
  accessFlags := 49
  interfaces := #[]
  cf := some (fileOf pool1 10 #[] #[{ accessFlags := 2, nameIndex := 5, descriptorIndex := 6, attributes := #[] }, { accessFlags := 10, nameIndex := 17, descriptorIndex := 18, attributes := #[] }, { accessFlags := 10, nameIndex := 13, descriptorIndex := 14, attributes := #[] }, { accessFlags := 10, nameIndex := 30, descriptorIndex := 31, attributes := #[] }, { accessFlags := 9, nameIndex := 41, descriptorIndex := 42, attributes := #[] }] 49 2 #[] #[])
  fields := #[]
  methods := #[k1m0, k1m1, k1m2, k1m3, k1m4]
  instanceTypes := #[]
  staticTypes := #[]
  resolved := Array.replicate 47 none
  statics := none }

def pool2 : Array CpInfo := pool [(1, .class_ 2), (0, u "java/lang/Math"), (1, .class_ 6), (1, u "java/lang/Object"), (0, u "<init>"), (0, u "()V"), (89, .class_ 100), (1, u "java/lang/Math$RandomNumberGeneratorHolder"), (71, u "negativeZeroFloatBits"), (0, u "J"), (2, u "negativeZeroDoubleBits"), (21, u "max"), (2, u "min"), (43, u "$assertionsDisabled"), (0, u "Z"), (88, u "(II)I"), (2, u "twoToTheDoubleScaleDown"), (0, u "D"), (4, u "twoToTheDoubleScaleUp"), (9, u "E"), (3, u "PI"), (2, u "TAU"), (2, u "DEGREES_TO_RADIANS"), (0, u "RADIANS_TO_DEGREES")] 94

def k2m0 : Method := { name := "<init>", desc := "()V", sig := { parameters := [], returnType := none }, accessFlags := 2, code := none }
def k2c1 : Code := { maxStack := 2, maxLocals := 2, code := jdk_29_method_65_code, exceptionTable := #[], attributes := #[] }
def k2m1 : Method := { name := "max", desc := "(II)I", sig := { parameters := [.int, .int], returnType := some .int }, accessFlags := 9, code := some k2c1 }
def k2c2 : Code := { maxStack := 2, maxLocals := 2, code := jdk_29_method_69_code, exceptionTable := #[], attributes := #[] }
def k2m2 : Method := { name := "min", desc := "(II)I", sig := { parameters := [.int, .int], returnType := some .int }, accessFlags := 9, code := some k2c2 }
/-- java/lang/Math -/
def k2 : Class := { plain "java/lang/Math" (some 0) with
  accessFlags := 49
  interfaces := #[]
  cf := some (fileOf pool2 1 #[.nestMembers #[98]] #[{ accessFlags := 2, nameIndex := 7, descriptorIndex := 8, attributes := #[] }, { accessFlags := 9, nameIndex := 198, descriptorIndex := 335, attributes := #[] }, { accessFlags := 9, nameIndex := 201, descriptorIndex := 335, attributes := #[] }] 49 4 #[] #[{ accessFlags := 25, nameIndex := 354, descriptorIndex := 339, attributes := #[] }, { accessFlags := 25, nameIndex := 358, descriptorIndex := 339, attributes := #[] }, { accessFlags := 25, nameIndex := 361, descriptorIndex := 339, attributes := #[] }, { accessFlags := 26, nameIndex := 364, descriptorIndex := 339, attributes := #[] }, { accessFlags := 26, nameIndex := 365, descriptorIndex := 339, attributes := #[] }, { accessFlags := 26, nameIndex := 172, descriptorIndex := 173, attributes := #[] }, { accessFlags := 26, nameIndex := 176, descriptorIndex := 173, attributes := #[] }, { accessFlags := 8, nameIndex := 344, descriptorIndex := 339, attributes := #[] }, { accessFlags := 8, nameIndex := 338, descriptorIndex := 339, attributes := #[] }, { accessFlags := 4120, nameIndex := 245, descriptorIndex := 246, attributes := #[] }])
  fields := #[{ name := "E", type := .double, accessFlags := 25, slot := 0, constantValue := 0 }, { name := "PI", type := .double, accessFlags := 25, slot := 1, constantValue := 0 }, { name := "TAU", type := .double, accessFlags := 25, slot := 2, constantValue := 0 }, { name := "DEGREES_TO_RADIANS", type := .double, accessFlags := 26, slot := 3, constantValue := 0 }, { name := "RADIANS_TO_DEGREES", type := .double, accessFlags := 26, slot := 4, constantValue := 0 }, { name := "negativeZeroFloatBits", type := .long, accessFlags := 26, slot := 5, constantValue := 0 }, { name := "negativeZeroDoubleBits", type := .long, accessFlags := 26, slot := 6, constantValue := 0 }, { name := "twoToTheDoubleScaleUp", type := .double, accessFlags := 8, slot := 7, constantValue := 0 }, { name := "twoToTheDoubleScaleDown", type := .double, accessFlags := 8, slot := 8, constantValue := 0 }, { name := "$assertionsDisabled", type := .boolean, accessFlags := 4120, slot := 9, constantValue := 0 }]
  methods := #[k2m0, k2m1, k2m2]
  instanceTypes := #[]
  staticTypes := #[.double, .double, .double, .double, .double, .long, .long, .double, .double, .boolean]
  resolved := Array.replicate 460 none
  statics := none }

def pool3 : Array CpInfo := pool [(2, .class_ 4), (1, u "java/lang/Object"), (0, u "<init>"), (0, u "()V"), (11, .class_ 20), (1, u "com/example/allotrope/allotrope/text/WholeNumber"), (48, u "digits"), (0, u "([CII)Z")] 19

def k3m0 : Method := { name := "<init>", desc := "()V", sig := { parameters := [], returnType := none }, accessFlags := 2, code := none }
def k3c1 : Code := { maxStack := 2, maxLocals := 5, code := prog_72_method_5_code, exceptionTable := #[], attributes := #[] }
def k3m1 : Method := { name := "digits", desc := "([CII)Z", sig := { parameters := [(.array .char), .int, .int], returnType := some .boolean }, accessFlags := 8, code := some k3c1 }
/-- com/example/allotrope/allotrope/text/WholeNumber -/
def k3 : Class := { plain "com/example/allotrope/allotrope/text/WholeNumber" (some 0) with
  accessFlags := 33
  interfaces := #[]
  cf := some (fileOf pool3 18 #[] #[{ accessFlags := 2, nameIndex := 5, descriptorIndex := 6, attributes := #[] }, { accessFlags := 8, nameIndex := 69, descriptorIndex := 70, attributes := #[] }] 33 2 #[] #[])
  fields := #[]
  methods := #[k3m0, k3m1]
  instanceTypes := #[]
  staticTypes := #[]
  resolved := Array.replicate 90 none
  statics := none }

def pool4 : Array CpInfo := pool [(1, u "java/lang/Cloneable"), (0, .class_ 1), (0, u "java/lang/Object"), (0, .class_ 3)] 3

/-- java/lang/Cloneable -/
def k4 : Class := { plain "java/lang/Cloneable" (some 0) with
  accessFlags := 1537
  interfaces := #[]
  cf := some (fileOf pool4 2 #[] #[] 1537 4 #[] #[])
  fields := #[]
  methods := #[]
  instanceTypes := #[]
  staticTypes := #[]
  resolved := Array.replicate 8 none
  statics := none }

def pool5 : Array CpInfo := pool [(1, u "java/io/Serializable"), (0, .class_ 1), (0, u "java/lang/Object"), (0, .class_ 3)] 3

/-- java/io/Serializable -/
def k5 : Class := { plain "java/io/Serializable" (some 0) with
  accessFlags := 1537
  interfaces := #[]
  cf := some (fileOf pool5 2 #[] #[] 1537 4 #[] #[])
  fields := #[]
  methods := #[]
  instanceTypes := #[]
  staticTypes := #[]
  resolved := Array.replicate 8 none
  statics := none }

/-- the primitive byte -/
def k6 : Class := { plain "byte" none with kind := .primitive 'B', accessFlags := 0x411 }
/-- [B -/
def k7 : Class := { plain "[B" (some 0) with kind := .array 6 .byte, interfaces := #[4, 5], accessFlags := 1041 }

/-- the primitive char -/
def k8 : Class := { plain "char" none with kind := .primitive 'C', accessFlags := 0x411 }
/-- [C -/
def k9 : Class := { plain "[C" (some 0) with kind := .array 8 .char, interfaces := #[4, 5], accessFlags := 1041 }

/-- the primitive int -/
def k10 : Class := { plain "int" none with kind := .primitive 'I', accessFlags := 0x411 }
/-- [I -/
def k11 : Class := { plain "[I" (some 0) with kind := .array 10 .int, interfaces := #[4, 5], accessFlags := 1041 }

def heap : Heap := #[]
def classes : Array Class := #[k0, k1, k2, k3, k4, k5, k6, k7, k8, k9, k10, k11]
def interned : List (Array UInt16 × Addr) := []
def slotsUsed : Nat := 0
def theMethod : MethodId := ⟨1, 4⟩
def args0 : Array Value := #[.int 5, .int 300, .int 70000, .int 4, .int 5, .int 6]
def aboutOver (below : List Frame) : State where
  vm := { classes := classes, interned := interned.toArray }
  heap := heap
  slotsUsed := slotsUsed
  threads := #[{ frames := .invoking theMethod args0 :: below }]
def below0 : List Frame := [.native { method := ⟨0, 0⟩, args := #[] }]
def about1 : State := aboutOver below0
def p0 : Program := .bare "" "" ""
def e0 : Env := launch0.env 0 0 0
theorem w_frames : about1.frames = Frame.invoking theMethod args0 :: below0 := rfl
set_option maxRecDepth 65536 in
theorem w_args : argsFit about1.vm theMethod args0 = true := by decide +kernel
set_option maxRecDepth 65536 in
theorem w_heap : heapFits about1 = true := by decide +kernel
set_option maxRecDepth 65536 in
theorem w_runnable : about1.curStatus? = some .runnable := by decide +kernel
set_option maxRecDepth 65536 in
theorem w_alone : about1.alone = true := by decide +kernel
set_option maxRecDepth 65536 in
theorem w_named : about1.methodNamed? x = some theMethod := by decide +kernel
set_option maxRecDepth 65536 in
theorem w_hears : about1.hears theMethod below0 = true := by decide +kernel
set_option maxRecDepth 65536 in
theorem w_ripe : about1.ripe theMethod args0 below0 = true := by decide +kernel
theorem w_running : about1.status = .running := rfl
set_option maxRecDepth 65536 in
theorem w_room : about1.hasRoom e0.platform room_1 = true :=
  launch0.hasRoom_least _ room_1 (by decide +kernel) (by decide +kernel) (by decide +kernel) (by decide +kernel) (by decide +kernel) (by decide +kernel)
theorem allAtoms_all (ts : List Jvm.Cond) (a : Array Jvm.Value) (st : Jvm.State) : (allAtoms ts).before a st = ts.all (fun c => c.before a st) := by
  induction ts with
  | nil => rfl
  | cons c t ih =>
    show (Jvm.Cond.and c (allAtoms t)).before a st = _
    rw [Jvm.Cond.before_and, ih, List.all_cons]
def words1 : List Jvm.Cond := Jvm.Cond.code x code maxLocals ret :: tables_1
/-- a 'code' word, met by the world's own term for the bytes: nothing is compared byte by byte -/
theorem code_word {y : MethodName} {bytes : ByteArray} {mx : Nat} {rt : Option FieldType} {a : Array Value} {s : State} {m : MethodId} {meth : Method} {c : Code} (h1 : s.methodNamed? y = some m) (h2 : s.vm.method? m = some meth) (h3 : meth.code = some c) (h4 : c.code = bytes)
    (h5 : (c.maxLocals == mx && c.exceptionTable.isEmpty && decide (c.maxStack ≤ mostOperands) && decide (meth.sig.returnType = rt) && !meth.locks && decide (parseMethodDescriptor y.desc = some meth.sig)) = true) : (Jvm.Cond.code y bytes mx rt).before a s = true := by
  simp only [Bool.and_eq_true, beq_iff_eq, Bool.not_eq_true', decide_eq_true_eq] at h5
  obtain ⟨⟨⟨⟨⟨g1, g2⟩, g3⟩, g4⟩, g5⟩, g6⟩ := h5
  simp [Cond.before, Cond.holds, Cond.value, h1, h2, h3, h4, g1, g2, g3, g4, g5, g6]
def isCode : Jvm.Cond → Bool
  | .code _ _ _ _ => true
  | _ => false
theorem all_split {L : List Jvm.Cond} {P : Jvm.Cond → Bool} (h1 : L.all (fun c => isCode c || P c) = true) (h2 : ∀ c ∈ L.filter isCode, P c = true) : L.all P = true := by
  refine List.all_eq_true.mpr fun c hc => ?_
  have h := List.all_eq_true.mp h1 c hc
  rcases Bool.eq_false_or_eq_true (isCode c) with hi | hi
  · exact h2 c (List.mem_filter.mpr ⟨hc, hi⟩)
  · simpa [hi] using h
set_option maxRecDepth 65536 in
theorem w_c0 : (Jvm.Cond.code x code maxLocals ret).before args0 about1 = true := code_word (m := ⟨1, 4⟩) (meth := k1m4) (c := k1c4) (by decide +kernel) rfl rfl rfl (by decide +kernel)
set_option maxRecDepth 65536 in
theorem w_c1 : (Jvm.Cond.code ({ cls := "com/example/allotrope/allotrope/text/WholeNumberDigitsPinLaw", name := "ch", desc := "(I)C" } : Jvm.MethodName) method_2_code (1 : Nat) (Option.some Jvm.ClassFile.FieldType.char)).before args0 about1 = true := code_word (m := ⟨1, 1⟩) (meth := k1m1) (c := k1c1) (by decide +kernel) rfl rfl rfl (by decide +kernel)
set_option maxRecDepth 65536 in
theorem w_c2 : (Jvm.Cond.code ({ cls := "java/lang/Math", name := "min", desc := "(II)I" } : Jvm.MethodName) jdk_29_method_69_code (2 : Nat) (Option.some Jvm.ClassFile.FieldType.int)).before args0 about1 = true := code_word (m := ⟨2, 2⟩) (meth := k2m2) (c := k2c2) (by decide +kernel) rfl rfl rfl (by decide +kernel)
set_option maxRecDepth 65536 in
theorem w_c3 : (Jvm.Cond.code ({ cls := "java/lang/Math", name := "max", desc := "(II)I" } : Jvm.MethodName) jdk_29_method_65_code (2 : Nat) (Option.some Jvm.ClassFile.FieldType.int)).before args0 about1 = true := code_word (m := ⟨2, 1⟩) (meth := k2m1) (c := k2c1) (by decide +kernel) rfl rfl rfl (by decide +kernel)
set_option maxRecDepth 65536 in
theorem w_c4 : (Jvm.Cond.code ({ cls := "com/example/allotrope/allotrope/text/WholeNumberDigitsPinLaw", name := "ok", desc := "([CIII)Z" } : Jvm.MethodName) method_4_code (4 : Nat) (Option.some Jvm.ClassFile.FieldType.boolean)).before args0 about1 = true := code_word (m := ⟨1, 3⟩) (meth := k1m3) (c := k1c3) (by decide +kernel) rfl rfl rfl (by decide +kernel)
set_option maxRecDepth 65536 in
theorem w_c5 : (Jvm.Cond.code ({ cls := "com/example/allotrope/allotrope/text/WholeNumberDigitsPinLaw", name := "isDigit", desc := "(C)Z" } : Jvm.MethodName) method_3_code (1 : Nat) (Option.some Jvm.ClassFile.FieldType.boolean)).before args0 about1 = true := code_word (m := ⟨1, 2⟩) (meth := k1m2) (c := k1c2) (by decide +kernel) rfl rfl rfl (by decide +kernel)
set_option maxRecDepth 65536 in
theorem w_c6 : (Jvm.Cond.code ({ cls := "com/example/allotrope/allotrope/text/WholeNumber", name := "digits", desc := "([CII)Z" } : Jvm.MethodName) prog_72_method_5_code (5 : Nat) (Option.some Jvm.ClassFile.FieldType.boolean)).before args0 about1 = true := code_word (m := ⟨3, 1⟩) (meth := k3m1) (c := k3c1) (by decide +kernel) rfl rfl rfl (by decide +kernel)
def codes1 : List Jvm.Cond := [Jvm.Cond.code x code maxLocals ret, Jvm.Cond.code ({ cls := "com/example/allotrope/allotrope/text/WholeNumberDigitsPinLaw", name := "ch", desc := "(I)C" } : Jvm.MethodName) method_2_code (1 : Nat) (Option.some Jvm.ClassFile.FieldType.char), Jvm.Cond.code ({ cls := "java/lang/Math", name := "min", desc := "(II)I" } : Jvm.MethodName) jdk_29_method_69_code (2 : Nat) (Option.some Jvm.ClassFile.FieldType.int), Jvm.Cond.code ({ cls := "java/lang/Math", name := "max", desc := "(II)I" } : Jvm.MethodName) jdk_29_method_65_code (2 : Nat) (Option.some Jvm.ClassFile.FieldType.int), Jvm.Cond.code ({ cls := "com/example/allotrope/allotrope/text/WholeNumberDigitsPinLaw", name := "ok", desc := "([CIII)Z" } : Jvm.MethodName) method_4_code (4 : Nat) (Option.some Jvm.ClassFile.FieldType.boolean), Jvm.Cond.code ({ cls := "com/example/allotrope/allotrope/text/WholeNumberDigitsPinLaw", name := "isDigit", desc := "(C)Z" } : Jvm.MethodName) method_3_code (1 : Nat) (Option.some Jvm.ClassFile.FieldType.boolean), Jvm.Cond.code ({ cls := "com/example/allotrope/allotrope/text/WholeNumber", name := "digits", desc := "([CII)Z" } : Jvm.MethodName) prog_72_method_5_code (5 : Nat) (Option.some Jvm.ClassFile.FieldType.boolean)]
set_option maxRecDepth 65536 in
theorem codes_eq : words1.filter isCode = codes1 := rfl
theorem w_codes : ∀ c ∈ words1.filter isCode, c.before args0 about1 = true := by
  rw [codes_eq]
  intro c hc
  simp only [codes1, List.mem_cons, List.not_mem_nil, or_false] at hc
  rcases hc with rfl | rfl | rfl | rfl | rfl | rfl | rfl
  · exact w_c0
  · exact w_c1
  · exact w_c2
  · exact w_c3
  · exact w_c4
  · exact w_c5
  · exact w_c6
set_option maxRecDepth 65536 in
theorem w_t1 : (words1.take 24).all (fun c => isCode c || c.before args0 about1) = true := by decide +kernel
set_option maxRecDepth 65536 in
theorem w_t2 : (words1.drop 24).all (fun c => isCode c || c.before args0 about1) = true := by decide +kernel
theorem w_tables : (allAtoms (Jvm.Cond.code x code maxLocals ret :: tables_1)).before args0 about1 = true := by
  rw [allAtoms_all]
  show words1.all (fun c => c.before args0 about1) = true
  refine all_split ?_ w_codes
  rw [← List.take_append_drop 24 words1, List.all_append, w_t1, w_t2]
  rfl
set_option maxRecDepth 65536 in
theorem w_case : (Jvm.Cond.and given_1 narrow_1).before args0 about1 = true := by decide +kernel
theorem w_applies : (headSpec (Jvm.Cond.code x code maxLocals ret :: tables_1) room_1).applies x e0.platform about1 = true :=
  (Spec.applies_iff w_frames).mpr ⟨w_running, w_runnable, w_alone, w_named, w_hears, w_ripe, w_room, w_tables⟩
theorem atStart : AtStart classFile x code maxLocals ret World_1 tables_1 room_1 Calls_1 rest_1 Pre_1 launch0 p0 e0 about1 theMethod args0 below0 :=
  ⟨lists_1, trivial, launch0.admits_env _ _ _, launch0.least_env, fairChoices_fair.cas, fairChoices_fair.clock, w_frames, w_args, w_heap, w_applies, trivial, trivial, w_case⟩
end start1
theorem witness_1 : WitnessClaimed_1 := ⟨start1.p0, start1.e0, start1.about1, start1.theMethod, start1.args0, start1.below0, start1.atStart⟩
end Jvm.Pilot.@@N@@
