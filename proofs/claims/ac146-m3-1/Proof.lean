import JvmDerived
import JvmDerived.Pilot.@@N@@Statement
import JvmDerived.Pilot.@@N@@Code
set_option linter.unusedVariables false
set_option linter.unusedSimpArgs false
namespace Jvm.Pilot.@@N@@
open Jvm Jvm.ClassFile Sem Op Lib Jvm.Free Jvm.Stand Jvm.LawKit Jvm.RoadKit Bundle Jvm.Pilot.@@N@@.Jvm.D
/-- the run from U comes to a return whose value, heap and written places Q takes; it has made at most kc cells of ks slots; String constants may have been resolved on the way -/
def own_Go (p : Program) (e : Env) (below : List Frame) (s : State) (Q : Option Value → Heap → List Loc → Prop) (kc ks : Nat) (U : State) : Prop :=
  ∃ t o, Steps p.tables e below U t ∧ t.status = .running ∧ Ended t below o ∧ ∃ v L, o = .returned v ∧ Q v t.heap L ∧ ReturnedEndW s o t L kc ks
section OwnKit
variable {p : Program} {l : Launch} {e : Env} {R : Room} {s : State} {vm0 : Vm} {m : MethodId} {args : Array Value} {below : List Frame} {meth : Method} {c : Code} {T : State} {locs : List Loc} {cells slots kc ks : Nat} {Z : State} {a0 : Array Value} {h : Heap} {Q : Option Value → Heap → List Loc → Prop}
theorem own_since {vm : Vm} {k k' : Nat} (hS : s.Since vm k) (q : k ≤ k') : s.Since vm k' := ⟨hS.1, fun j p hj hp => ⟨(hS.2 j p hj hp).1, Nat.lt_of_lt_of_le (hS.2 j p hj hp).2 q⟩⟩
theorem own_go {U U' : State} (f : ∀ t, Steps p.tables e below U' t → Steps p.tables e below U t) (g : own_Go p e below s Q kc ks U') : own_Go p e below s Q kc ks U := by
  obtain ⟨t, o, a, r⟩ := g
  exact ⟨t, o, f t a, r⟩
theorem own_sameMono {L : List Loc} {k n : Nat} {t : State} (hq : s.sameButNew t L k n) (hc : k ≤ kc) (hs : n ≤ ks) : s.sameButNew t L kc ks := hq.mono hc hs
theorem own_end (X : Stand p l e R (s.setVm vm0) m args below meth c T locs cells slots) (hS : s.Since vm0 h.size) (hlk : meth.locks = false) (eT : T.heap = h) {v : Option Value} (hv : meth.sig.returnType = none → v = none) (hc : cells ≤ kc) (hs : slots ≤ ks) (hq : Q v h locs) {U : State}
    (hst : ∀ fs, (∀ (f : JFrame) (acts : List Action), f.method = m → f.locked = none → f.entered = [] → (doReturn e (T.setTop f) acts v).1 = T.setFrames fs) → Steps p.tables e below U (T.setFrames fs)) : own_Go p e below s Q kc ks U := by
  obtain ⟨fs, hr, hrun, hended, h1, h2, h3, h4⟩ := X.leaveW hS (by rw [eT]; exact Nat.le_refl _) (v := v) hv hlk
  refine ⟨_, _, hst fs hr, hrun, hended, v, locs, rfl, ?_, h1, h2, h3, own_sameMono h4 hc hs⟩
  show Q v T.heap locs
  rw [eT]; exact hq
theorem own_retN (X : Stand p l e R (s.setVm vm0) m args below meth c T locs cells slots) (hS : s.Since vm0 h.size) (hx : p.tables.exec = Jvm.exec) (hlk : meth.locks = false) (eT : T.heap = h) {pc : Nat} {Ls : Array Slot} {z : Int32} {t : FieldType} {rest : List Value} (hret : meth.sig.returnType = some t) (ht : t = .boolean ∨ t = .byte ∨ t = .char ∨ t = .short)
    (hd : decode c.code pc = .ok (.ireturn, 1)) (hc : cells ≤ kc) (hs : slots ≤ ks) (hq : Q (some (.int (nar t z))) h locs) : own_Go p e below s Q kc ks (T.setTop (mkF m pc Ls (.int z :: rest))) :=
  own_end X hS hlk eT (fun q => by rw [hret] at q; cases q) hc hs hq fun fs hr => retN X hx hret ht hd hr
theorem own_retI (X : Stand p l e R (s.setVm vm0) m args below meth c T locs cells slots) (hS : s.Since vm0 h.size) (hx : p.tables.exec = Jvm.exec) (hlk : meth.locks = false) (eT : T.heap = h) {pc : Nat} {Ls : Array Slot} {z : Int32} {rest : List Value} (hret : meth.sig.returnType = some .int)
    (hd : decode c.code pc = .ok (.ireturn, 1)) (hc : cells ≤ kc) (hs : slots ≤ ks) (hq : Q (some (.int z)) h locs) : own_Go p e below s Q kc ks (T.setTop (mkF m pc Ls (.int z :: rest))) :=
  own_end X hS hlk eT (fun q => by rw [hret] at q; cases q) hc hs hq fun fs hr => retOut X hx hret rfl (Or.inl ⟨rfl, Or.inl rfl, z, rfl⟩) hd hr
theorem own_retJ (X : Stand p l e R (s.setVm vm0) m args below meth c T locs cells slots) (hS : s.Since vm0 h.size) (hx : p.tables.exec = Jvm.exec) (hlk : meth.locks = false) (eT : T.heap = h) {pc : Nat} {Ls : Array Slot} {z : Int64} {rest : List Value} (hret : meth.sig.returnType = some .long)
    (hd : decode c.code pc = .ok (.lreturn, 1)) (hc : cells ≤ kc) (hs : slots ≤ ks) (hq : Q (some (.long z)) h locs) : own_Go p e below s Q kc ks (T.setTop (mkF m pc Ls (.long z :: rest))) :=
  own_end X hS hlk eT (fun q => by rw [hret] at q; cases q) hc hs hq fun fs hr => retOut X hx hret rfl (Or.inr (Or.inl ⟨rfl, rfl, z, rfl⟩)) hd hr
theorem own_retA (X : Stand p l e R (s.setVm vm0) m args below meth c T locs cells slots) (hS : s.Since vm0 h.size) (hx : p.tables.exec = Jvm.exec) (hlk : meth.locks = false) (eT : T.heap = h) {pc : Nat} {Ls : Array Slot} {v : Value} {t : FieldType} {rest : List Value} (hret : meth.sig.returnType = some t) (ht : t.isReference = true) (hv : v.isRef = true)
    (hd : decode c.code pc = .ok (.areturn, 1)) (hc : cells ≤ kc) (hs : slots ≤ ks) (hq : Q (some v) h locs) : own_Go p e below s Q kc ks (T.setTop (mkF m pc Ls (v :: rest))) :=
  own_end X hS hlk eT (fun q => by rw [hret] at q; cases q) hc hs hq fun fs hr => retOut X hx hret (by cases t <;> first | (cases ht; done) | (rcases ref_cases hv with rfl | ⟨_, rfl⟩ <;> rfl)) (Or.inr (Or.inr (Or.inr (Or.inr ⟨rfl, ht, hv⟩)))) hd hr
theorem own_retV (X : Stand p l e R (s.setVm vm0) m args below meth c T locs cells slots) (hS : s.Since vm0 h.size) (hx : p.tables.exec = Jvm.exec) (hlk : meth.locks = false) (eT : T.heap = h) {pc : Nat} {Ls : Array Slot} (hret : meth.sig.returnType = none)
    (hd : decode c.code pc = .ok (.return_, 1)) (hc : cells ≤ kc) (hs : slots ≤ ks) (hq : Q none h locs) : own_Go p e below s Q kc ks (T.setTop (mkF m pc Ls [])) :=
  own_end X hS hlk eT (fun _ => rfl) hc hs hq fun fs hr => X.returnOut hx hret hd hr
theorem own_met {y : MethodName} {bytes : ByteArray} {maxL : Nat} {ret : Option FieldType} {ws : List Jvm.Cond} {rm : Room} {as' : Array Value} (kc ks : Nat) (hpl : plainFor y = true)
    (body : ∀ (p : Program) (e : Env) (s : State) (vm0 : Vm) (m : MethodId) (below : List Frame) (meth : Method) (c : Code) (T : State), Stand p l e rm (s.setVm vm0) m as' below meth c T [] 0 0 → s.Since vm0 h.size → p.tables.exec = Jvm.exec → c.code = bytes → c.maxLocals = maxL → meth.sig.returnType = ret → meth.locks = false → Z.Warmed39 (s.setVm vm0).vm → (s.setVm vm0).vm.findClass y.cls = some m.cls → meth.name = y.name → T.heap = h →
      own_Go p e below s Q kc ks (T.setTop (entryFrame m as' maxL))) :
    MetFree l y (head1 (Jvm.Cond.code y bytes maxL ret :: ws) rm) (fun a U => a = as' ∧ Z.Warmed39 U.vm ∧ U.heap = h) (fun _ _ _ _ _ => True) (fun _ U o U' => ∃ v L, o = .returned v ∧ Q v U'.heap L ∧ ReturnedEndW U o U' L kc ks) := by
  refine MetFree.of_bodySF hpl hisR ?_
  intro p e s m args below meth c s₁ Bd hml hP hK
  obtain ⟨rfl, hZ, hh⟩ := hP
  obtain ⟨t, o, h1, h2, h3, h4⟩ := body p e s s.vm m below meth c s₁ (Stand.of_body Bd) ((State.WarmedH.refl s).since _) Bd.exec Bd.bytes hml Bd.returns Bd.notSynchronized hZ (findClass_of_methodNamed Bd.named) (name_of_methodNamed Bd.named Bd.method).1 (by rw [← hh, Bd.state]; rfl)
  exact ⟨t, o, h1, h2, h3, h4⟩
abbrev own_Met (l : Launch) (Z : State) (h : Heap) (y : MethodName) (bytes : ByteArray) (maxL : Nat) (ret : Option FieldType) (rm : Room) (as' : Array Value) (Q : Option Value → Heap → List Loc → Prop) : Prop :=
  MetFree l y (head1 [Jvm.Cond.code y bytes maxL ret] rm) (fun a U => a = as' ∧ Z.Warmed39 U.vm ∧ U.heap = h) (fun _ _ _ _ _ => True) (fun _ U o U' => ∃ v L, o = .returned v ∧ Q v U'.heap L ∧ ReturnedEndW U o U' L rm.cells rm.slots)
theorem own_callS {y : MethodName} {bytes : ByteArray} {maxL : Nat} {ret : Option FieldType} {rm : Room} {as' : Array Value} {own : String} {index : Nat} (X : Stand p l e R (s.setVm vm0) m args below meth c T locs cells slots) (hS : s.Since vm0 h.size) (hx : p.tables.exec = Jvm.exec) (hZ : Z.Warmed39 (s.setVm vm0).vm) (hown : (s.setVm vm0).vm.findClass own = some m.cls)
    (w1 : (Jvm.Cond.methodLink own index y).before a0 Z = true) (w2 : (Jvm.Cond.static y).before a0 Z = true) (w3 : (Jvm.Cond.initialized y.cls).before a0 Z = true) (w4 : (Jvm.Cond.code y bytes maxL ret).before a0 Z = true) (hM : own_Met l Z h y bytes maxL ret rm as' Q) (W : Nat) (nc ns : Nat) (hnc : rm.cells = nc) (hns : rm.slots = ns)
    (hy : y.cls ≠ "java/lang/invoke/MethodHandle" ∧ y.cls ≠ "java/lang/invoke/VarHandle") (hf : rm.frames + 1 ≤ R.frames) (hl : W + (maxL + 11) + rm.locals ≤ R.locals) (hc : cells + nc ≤ R.cells) (hs : slots + ns ≤ R.slots) (eT : T.heap = h) {g : JFrame} (hg : g.method = m) (hsize : g.locals.size = c.maxLocals)
    (argsL rest : List Value) (hlen : ∀ sig, parseMethodDescriptor y.desc = some sig → argsL.length = sig.parameters.length) (hstack : g.stack = argsL.reverse ++ rest) (has : argsL.toArray = as') (hW : 2 * g.monitorRoom + (rest.map fun v => v.category).sum ≤ W) (hdg : decode c.code g.pc = .ok (.invokestatic index, 3)) :
    ∃ v T' L, Stand p l e R (s.setVm T'.vm) m args below meth c T' (locs ++ L) (cells + nc) (slots + ns) ∧ s.Since T'.vm T'.heap.size ∧ Z.Warmed39 (s.setVm T'.vm).vm ∧ (s.setVm T'.vm).vm.findClass own = some m.cls ∧ Q v T'.heap L ∧ ∀ target, Steps p.tables e below (T'.setTop { g with pc := g.pc + 3, stack := v.toList ++ rest }) target → Steps p.tables e below (T.setTop g) target := by
  subst hnc hns
  obtain ⟨v, _, ⟨T', L', k', n'⟩, -, X', hS', hgr, ⟨L, hQ, h1, h2, h3⟩, st⟩ := callSS X hx hown (mvT hZ w1) (mvT hZ w2) (mvT hZ w3) (mvT hZ w4) hy (backOfS (W := W) hM hZ w4 w3 hf hl) hg hsize hlen hstack hW hdg (fun _ _ => ⟨has, eT, hc, hs⟩)
  dsimp only [Pt.U, Pt.locs, Pt.cells, Pt.slots] at X' hS' hgr hQ h1 h2 h3 st
  subst h1 h2 h3
  have hS2 : s.Since T'.vm T'.heap.size := hS.trans hS' (by rw [← eT]; exact hgr)
  exact ⟨v, T', L, X', hS2, State.Warmed39.trans (t := s.setVm vm0) hZ hS'.1, by rw [show (s.setVm T'.vm).vm = T'.vm from rfl, hS'.1.alike.findClass]; exact hown, hQ, fun _ k => st.trans k⟩
theorem own_callI {y : MethodName} {bytes : ByteArray} {maxL : Nat} {rm : Room} {as' : Array Value} {own : String} {index : Nat} (X : Stand p l e R (s.setVm vm0) m args below meth c T locs cells slots) (hS : s.Since vm0 h.size) (hx : p.tables.exec = Jvm.exec) (hZ : Z.Warmed39 (s.setVm vm0).vm) (hown : (s.setVm vm0).vm.findClass own = some m.cls)
    (w1 : (Jvm.Cond.methodLink own index y).before a0 Z = true) (w2 : (Jvm.Cond.instanceMethod y).before a0 Z = true) (w3 : (Jvm.Cond.initialized y.cls).before a0 Z = true) (w4 : (Jvm.Cond.code y bytes maxL none).before a0 Z = true) (hM : own_Met l Z h y bytes maxL none rm as' Q) (W : Nat) (nc ns : Nat) (hnc : rm.cells = nc) (hns : rm.slots = ns) (hy1 : y.name = "<init>")
    (hy : y.cls ≠ "java/lang/invoke/MethodHandle" ∧ y.cls ≠ "java/lang/invoke/VarHandle") (hf : rm.frames + 1 ≤ R.frames) (hl : W + (maxL + 11) + rm.locals ≤ R.locals) (hc : cells + nc ≤ R.cells) (hs : slots + ns ≤ R.slots) (eT : T.heap = h) {g : JFrame} (hg : g.method = m) (hsize : g.locals.size = c.maxLocals)
    (a : Addr) (argsL rest : List Value) (hlen : ∀ sig, parseMethodDescriptor y.desc = some sig → argsL.length = sig.parameters.length) (hstack : g.stack = argsL.reverse ++ .ref a :: rest) (has : (Value.ref a :: argsL).toArray = as') (hW : 2 * g.monitorRoom + (rest.map fun v => v.category).sum ≤ W) (hdg : decode c.code g.pc = .ok (.invokespecial index, 3)) :
    ∃ v T' L, Stand p l e R (s.setVm T'.vm) m args below meth c T' (locs ++ L) (cells + nc) (slots + ns) ∧ s.Since T'.vm T'.heap.size ∧ Z.Warmed39 (s.setVm T'.vm).vm ∧ (s.setVm T'.vm).vm.findClass own = some m.cls ∧ Q v T'.heap L ∧ ∀ target, Steps p.tables e below (T'.setTop { g with pc := g.pc + 3, stack := v.toList ++ rest }) target → Steps p.tables e below (T.setTop g) target := by
  subst hnc hns
  obtain ⟨v, _, ⟨T', L', k', n'⟩, -, X', hS', hgr, ⟨L, hQ, h1, h2, h3⟩, st⟩ := X.specialBackS hx hy1 hown (mvT hZ w1) (mvT hZ w2) (mvT hZ w4) hy (backOfS (W := W) hM hZ w4 w3 hf hl) hg hsize (Steps.refl _) (a := a) (argsL := argsL) (rest := rest) hlen hstack hW hdg (fun _ _ => ⟨has, eT, hc, hs⟩)
  dsimp only [Pt.U, Pt.locs, Pt.cells, Pt.slots] at X' hS' hgr hQ h1 h2 h3 st
  subst h1 h2 h3
  have hS2 : s.Since T'.vm T'.heap.size := hS.trans hS' (by rw [← eT]; exact hgr)
  exact ⟨v, T', L, X', hS2, State.Warmed39.trans (t := s.setVm vm0) hZ hS'.1, by rw [show (s.setVm T'.vm).vm = T'.vm from rfl, hS'.1.alike.findClass]; exact hown, hQ, fun _ k => st.trans k⟩
theorem own_callV {y z : MethodName} {bytes : ByteArray} {maxL : Nat} {ret : Option FieldType} {rm : Room} {as' : Array Value} {own C : String} {index : Nat} (X : Stand p l e R (s.setVm vm0) m args below meth c T locs cells slots) (hS : s.Since vm0 h.size) (hx : p.tables.exec = Jvm.exec) (hZ : Z.Warmed39 (s.setVm vm0).vm) (hown : (s.setVm vm0).vm.findClass own = some m.cls)
    (w1 : (Jvm.Cond.methodLink own index y).before a0 Z = true) (wd : (Jvm.Cond.declares y).before a0 Z = true) (nf : NotFace (s.setVm vm0) y) (wsel : (Jvm.Cond.selects C y z).before a0 Z = true) (w2 : (Jvm.Cond.instanceMethod z).before a0 Z = true) (w3 : (Jvm.Cond.initialized z.cls).before a0 Z = true) (w4 : (Jvm.Cond.code z bytes maxL ret).before a0 Z = true) (hM : own_Met l Z h z bytes maxL ret rm as' Q) (W : Nat) (nc ns : Nat) (hnc : rm.cells = nc) (hns : rm.slots = ns)
    (hy : y.cls ≠ "java/lang/invoke/MethodHandle" ∧ y.cls ≠ "java/lang/invoke/VarHandle") (hf : rm.frames + 1 ≤ R.frames) (hl : W + (maxL + 11) + rm.locals ≤ R.locals) (hc : cells + nc ≤ R.cells) (hs : slots + ns ≤ R.slots) (eT : T.heap = h) {a : Addr} (E : Exa Z h a C) {g : JFrame} (hg : g.method = m) (hsize : g.locals.size = c.maxLocals)
    (argsL rest : List Value) (hlen : ∀ sig, parseMethodDescriptor y.desc = some sig → argsL.length = sig.parameters.length) (hstack : g.stack = argsL.reverse ++ .ref a :: rest) (has : (Value.ref a :: argsL).toArray = as') (hW : 2 * g.monitorRoom + (rest.map fun v => v.category).sum ≤ W) (hdg : decode c.code g.pc = .ok (.invokevirtual index, 3)) :
    ∃ v T' L, Stand p l e R (s.setVm T'.vm) m args below meth c T' (locs ++ L) (cells + nc) (slots + ns) ∧ s.Since T'.vm T'.heap.size ∧ Z.Warmed39 (s.setVm T'.vm).vm ∧ (s.setVm T'.vm).vm.findClass own = some m.cls ∧ Q v T'.heap L ∧ ∀ target, Steps p.tables e below (T'.setTop { g with pc := g.pc + 3, stack := v.toList ++ rest }) target → Steps p.tables e below (T.setTop g) target := by
  subst hnc hns
  obtain ⟨cq, kq, qa, qb, qc⟩ := isOf hZ eT E
  obtain ⟨v, _, ⟨T', L', k', n'⟩, -, X', hS', hgr, ⟨L, hQ, h1, h2, h3⟩, st⟩ := X.virtualBackS hx hown (mvT hZ w1) (mvT hZ wd) nf (mvT hZ wsel) (mvT hZ w2) hy (backOfS (W := W) hM hZ w4 w3 hf hl) qa qc hg hsize (Steps.refl _) (argsL := argsL) (rest := rest) hlen hstack hW hdg (fun _ _ => ⟨has, eT, hc, hs⟩)
  dsimp only [Pt.U, Pt.locs, Pt.cells, Pt.slots] at X' hS' hgr hQ h1 h2 h3 st
  subst h1 h2 h3
  have hS2 : s.Since T'.vm T'.heap.size := hS.trans hS' (by rw [← eT]; exact hgr)
  exact ⟨v, T', L, X', hS2, State.Warmed39.trans (t := s.setVm vm0) hZ hS'.1, by rw [show (s.setVm T'.vm).vm = T'.vm from rfl, hS'.1.alike.findClass]; exact hown, hQ, fun _ k => st.trans k⟩
theorem own_callP {y : MethodName} {bytes : ByteArray} {maxL : Nat} {ret : Option FieldType} {rm : Room} {as' : Array Value} {own C : String} {index : Nat} (X : Stand p l e R (s.setVm vm0) m args below meth c T locs cells slots) (hS : s.Since vm0 h.size) (hx : p.tables.exec = Jvm.exec) (hZ : Z.Warmed39 (s.setVm vm0).vm) (hown : (s.setVm vm0).vm.findClass own = some m.cls)
    (w1 : (Jvm.Cond.methodLink own index y).before a0 Z = true) (w2 : (Jvm.Cond.instanceMethod y).before a0 Z = true) (wsel : (Jvm.Cond.selects y.cls y y).before a0 Z = true) (wp : (Jvm.Cond.privateMethod y).before a0 Z = true) (w3 : (Jvm.Cond.initialized y.cls).before a0 Z = true) (w4 : (Jvm.Cond.code y bytes maxL ret).before a0 Z = true) (hM : own_Met l Z h y bytes maxL ret rm as' Q) (W : Nat) (nc ns : Nat) (hnc : rm.cells = nc) (hns : rm.slots = ns)
    (hy : y.cls ≠ "java/lang/invoke/MethodHandle" ∧ y.cls ≠ "java/lang/invoke/VarHandle") (hf : rm.frames + 1 ≤ R.frames) (hl : W + (maxL + 11) + rm.locals ≤ R.locals) (hc : cells + nc ≤ R.cells) (hs : slots + ns ≤ R.slots) (eT : T.heap = h) {a : Addr} (E : Exa Z h a C) {g : JFrame} (hg : g.method = m) (hsize : g.locals.size = c.maxLocals)
    (argsL rest : List Value) (hlen : ∀ sig, parseMethodDescriptor y.desc = some sig → argsL.length = sig.parameters.length) (hstack : g.stack = argsL.reverse ++ .ref a :: rest) (has : (Value.ref a :: argsL).toArray = as') (hW : 2 * g.monitorRoom + (rest.map fun v => v.category).sum ≤ W) (hdg : decode c.code g.pc = .ok (.invokevirtual index, 3)) :
    ∃ v T' L, Stand p l e R (s.setVm T'.vm) m args below meth c T' (locs ++ L) (cells + nc) (slots + ns) ∧ s.Since T'.vm T'.heap.size ∧ Z.Warmed39 (s.setVm T'.vm).vm ∧ (s.setVm T'.vm).vm.findClass own = some m.cls ∧ Q v T'.heap L ∧ ∀ target, Steps p.tables e below (T'.setTop { g with pc := g.pc + 3, stack := v.toList ++ rest }) target → Steps p.tables e below (T.setTop g) target := by
  subst hnc hns
  obtain ⟨cq, q1, q2⟩ := E.cell
  obtain ⟨v, _, ⟨T', L', k', n'⟩, -, X', hS', hgr, ⟨L, hQ, h1, h2, h3⟩, st⟩ := X.privateBackS hx hown (mvT hZ w1) (mvT hZ w2) (mvT hZ wsel) (Cond.privateMethod_at (mvP hZ wp (args := #[]))) (mvT hZ w4) hy (backOfS (W := W) hM hZ w4 w3 hf hl) hg hsize (Steps.refl _) (a := a) (by rw [eT]; exact q1) q2 (argsL := argsL) (rest := rest) hlen hstack hW hdg (fun _ _ => ⟨has, eT, hc, hs⟩)
  dsimp only [Pt.U, Pt.locs, Pt.cells, Pt.slots] at X' hS' hgr hQ h1 h2 h3 st
  subst h1 h2 h3
  have hS2 : s.Since T'.vm T'.heap.size := hS.trans hS' (by rw [← eT]; exact hgr)
  exact ⟨v, T', L, X', hS2, State.Warmed39.trans (t := s.setVm vm0) hZ hS'.1, by rw [show (s.setVm T'.vm).vm = T'.vm from rfl, hS'.1.alike.findClass]; exact hown, hQ, fun _ k => st.trans k⟩
theorem own_callF {xi y : MethodName} {bytes : ByteArray} {maxL : Nat} {ret : Option FieldType} {rm : Room} {as' : Array Value} {own C : String} {index count : Nat} (X : Stand p l e R (s.setVm vm0) m args below meth c T locs cells slots) (hS : s.Since vm0 h.size) (hx : p.tables.exec = Jvm.exec) (hZ : Z.Warmed39 (s.setVm vm0).vm) (hown : (s.setVm vm0).vm.findClass own = some m.cls)
    (w1 : (Jvm.Cond.methodLink own index xi).before a0 Z = true) (wd : (Jvm.Cond.declares xi).before a0 Z = true) (wfa : (Jvm.Cond.interfaceMethod xi.cls xi.cls xi.name xi.desc).before a0 Z = true) (wsel : (Jvm.Cond.selects C xi y).before a0 Z = true) (w2 : (Jvm.Cond.instanceMethod y).before a0 Z = true) (wp : (Jvm.Cond.publicMethod y).before a0 Z = true) (wu : (Jvm.Cond.unhidden C xi.name xi.desc).before a0 Z = true) (wk : (Jvm.Cond.castable C xi.cls).before a0 Z = true) (w3 : (Jvm.Cond.initialized y.cls).before a0 Z = true) (w4 : (Jvm.Cond.code y bytes maxL ret).before a0 Z = true) (hfk : ((Jvm.Cond.interfaceMethod xi.cls xi.cls xi.name xi.desc).onTables && (Jvm.Cond.interfaceMethod xi.cls xi.cls xi.name xi.desc).keepsFace) = true) (hM : own_Met l Z h y bytes maxL ret rm as' Q) (W : Nat) (nc ns : Nat) (hnc : rm.cells = nc) (hns : rm.slots = ns)
    (hy : xi.cls ≠ "java/lang/invoke/MethodHandle" ∧ xi.cls ≠ "java/lang/invoke/VarHandle") (hf : rm.frames + 1 ≤ R.frames) (hl : W + (maxL + 11) + rm.locals ≤ R.locals) (hc : cells + nc ≤ R.cells) (hs : slots + ns ≤ R.slots) (eT : T.heap = h) {a : Addr} (E : Exa Z h a C) {g : JFrame} (hg : g.method = m) (hsize : g.locals.size = c.maxLocals)
    (argsL rest : List Value) (hlen : ∀ sig, parseMethodDescriptor xi.desc = some sig → argsL.length = sig.parameters.length) (hstack : g.stack = argsL.reverse ++ .ref a :: rest) (has : (Value.ref a :: argsL).toArray = as') (hW : 2 * g.monitorRoom + (rest.map fun v => v.category).sum ≤ W) (hdg : decode c.code g.pc = .ok (.invokeinterface index count, 5)) :
    ∃ v T' L, Stand p l e R (s.setVm T'.vm) m args below meth c T' (locs ++ L) (cells + nc) (slots + ns) ∧ s.Since T'.vm T'.heap.size ∧ Z.Warmed39 (s.setVm T'.vm).vm ∧ (s.setVm T'.vm).vm.findClass own = some m.cls ∧ Q v T'.heap L ∧ ∀ target, Steps p.tables e below (T'.setTop { g with pc := g.pc + 5, stack := v.toList ++ rest }) target → Steps p.tables e below (T.setTop g) target := by
  subst hnc hns
  obtain ⟨cq, kq, qa, qb, qc⟩ := isOf hZ eT E
  obtain ⟨v, _, ⟨T', L', k', n'⟩, -, X', hS', hgr, ⟨L, hQ, h1, h2, h3⟩, st⟩ := X.interfaceBackS hx hown (mvT hZ w1) (mvT hZ wd) (mvT hZ wfa hfk) (mvT hZ wsel) (mvT hZ w2) (mvT hZ wp) (mvT hZ wu) (mvT hZ wk) hy (backOfS (W := W) hM hZ w4 w3 hf hl) qa qb qc hg hsize (Steps.refl _) (argsL := argsL) (rest := rest) hlen hstack hW hdg (fun _ _ => ⟨has, eT, hc, hs⟩)
  dsimp only [Pt.U, Pt.locs, Pt.cells, Pt.slots] at X' hS' hgr hQ h1 h2 h3 st
  subst h1 h2 h3
  have hS2 : s.Since T'.vm T'.heap.size := hS.trans hS' (by rw [← eT]; exact hgr)
  exact ⟨v, T', L, X', hS2, State.Warmed39.trans (t := s.setVm vm0) hZ hS'.1, by rw [show (s.setVm T'.vm).vm = T'.vm from rfl, hS'.1.alike.findClass]; exact hown, hQ, fun _ k => st.trans k⟩
theorem own_callU {y z : MethodName} {bytes : ByteArray} {maxL : Nat} {ret : Option FieldType} {rm : Room} {as' : Array Value} {own owner C : String} {index : Nat} (X : Stand p l e R (s.setVm vm0) m args below meth c T locs cells slots) (hS : s.Since vm0 h.size) (hx : p.tables.exec = Jvm.exec) (hZ : Z.Warmed39 (s.setVm vm0).vm) (hown : (s.setVm vm0).vm.findClass own = some m.cls)
    (w1 : (Jvm.Cond.methodLink own index y).before a0 Z = true) (wsm : (Jvm.Cond.sameMethod y.cls owner y.name y.desc).before a0 Z = true) (wd : (Jvm.Cond.declares ⟨owner, y.name, y.desc⟩).before a0 Z = true) (wsel : (Jvm.Cond.selects C y z).before a0 Z = true) (w2 : (Jvm.Cond.instanceMethod z).before a0 Z = true) (w3 : (Jvm.Cond.initialized z.cls).before a0 Z = true) (w4 : (Jvm.Cond.code z bytes maxL ret).before a0 Z = true) (hM : own_Met l Z h z bytes maxL ret rm as' Q) (W : Nat) (nc ns : Nat) (hnc : rm.cells = nc) (hns : rm.slots = ns)
    (howner : owner ≠ "java/lang/invoke/MethodHandle" ∧ owner ≠ "java/lang/invoke/VarHandle") (hf : rm.frames + 1 ≤ R.frames) (hl : W + (maxL + 11) + rm.locals ≤ R.locals) (hc : cells + nc ≤ R.cells) (hs : slots + ns ≤ R.slots) (eT : T.heap = h) {a : Addr} (E : Exa Z h a C) {g : JFrame} (hg : g.method = m) (hsize : g.locals.size = c.maxLocals)
    (argsL rest : List Value) (hlen : ∀ sig, parseMethodDescriptor y.desc = some sig → argsL.length = sig.parameters.length) (hstack : g.stack = argsL.reverse ++ .ref a :: rest) (has : (Value.ref a :: argsL).toArray = as') (hW : 2 * g.monitorRoom + (rest.map fun v => v.category).sum ≤ W) (hdg : decode c.code g.pc = .ok (.invokevirtual index, 3)) :
    ∃ v T' L, Stand p l e R (s.setVm T'.vm) m args below meth c T' (locs ++ L) (cells + nc) (slots + ns) ∧ s.Since T'.vm T'.heap.size ∧ Z.Warmed39 (s.setVm T'.vm).vm ∧ (s.setVm T'.vm).vm.findClass own = some m.cls ∧ Q v T'.heap L ∧ ∀ target, Steps p.tables e below (T'.setTop { g with pc := g.pc + 3, stack := v.toList ++ rest }) target → Steps p.tables e below (T.setTop g) target := by
  subst hnc hns
  obtain ⟨cq, kq, qa, qb, qc⟩ := isOf hZ eT E
  obtain ⟨v, _, ⟨T', L', k', n'⟩, -, X', hS', hgr, ⟨L, hQ, h1, h2, h3⟩, st⟩ := X.virtualBackUpS hx hown (mvT hZ w1) (mvT hZ wsm) (mvT hZ wd) howner (mvT hZ wsel) (mvT hZ w2) (backOfS (W := W) hM hZ w4 w3 hf hl) qa qc hg hsize (Steps.refl _) (argsL := argsL) (rest := rest) hlen hstack hW hdg (fun _ _ => ⟨has, eT, hc, hs⟩)
  dsimp only [Pt.U, Pt.locs, Pt.cells, Pt.slots] at X' hS' hgr hQ h1 h2 h3 st
  subst h1 h2 h3
  have hS2 : s.Since T'.vm T'.heap.size := hS.trans hS' (by rw [← eT]; exact hgr)
  exact ⟨v, T', L, X', hS2, State.Warmed39.trans (t := s.setVm vm0) hZ hS'.1, by rw [show (s.setVm T'.vm).vm = T'.vm from rfl, hS'.1.alike.findClass]; exact hown, hQ, fun _ k => st.trans k⟩
/-- the start's heap stands in h unchanged -/
theorem own_oldExt {h' : Heap} (O : Ext Z.heap h) (E : Ext h h') : Ext Z.heap h' := ⟨Nat.le_trans O.1 E.1, fun x c q => E.2 x c (O.2 x c q)⟩
theorem own_oldKeep {h' : Heap} {ws : List Addr} (O : Ext Z.heap h) (K : Keep h h' ws) (q : ∀ x ∈ ws, Z.heap.size ≤ x) : Ext Z.heap h' :=
  ⟨Nat.le_trans O.1 K.1, fun x c r => K.2.1 x c (O.2 x c r) fun z => absurd (Array.getElem?_eq_some_iff.mp r).1 (Nat.not_lt.mpr (q x z))⟩
theorem own_oldWr {h' : Heap} {a : Addr} {sl : Nat} {v : Value} (O : Ext Z.heap h) (W : Wr h h' a sl v) (q : Z.heap.size ≤ a) : Ext Z.heap h' := own_oldKeep O (Keep.of_wr W) (allS q all0)
theorem own_keepTrans {h0 h' : Heap} {ws : List Addr} (K : Keep h0 h ws) (K' : Keep h h' []) : Keep h0 h' ws := K.trans K' fun x q => nomatch q
theorem own_insKeep {h' : Heap} {ws : List Addr} {a : Addr} {C : String} {b : Bool} (F : Ins Z h a C b) (K : Keep h h' ws) : Ins Z h' a C b := by
  obtain ⟨cell, cT, h1, h2, h3⟩ := F
  obtain ⟨c', q1, q2, q3, -⟩ := K.2.2 a cell h1
  exact ⟨c', cT, q1, h2, by rw [q2, q3]; exact h3⟩
theorem own_cat1 {v : Value} (r : v.isRef = true) : v.category = 1 := by cases v <;> simp [Value.isRef, Value.category] at r ⊢
theorem own_fitsRef {v : Value} (t : FieldType) (r : v.isRef = true) (ht : t.isReference = true) : fits t v = true := by
  cases t <;> first | (cases ht; done) | (rcases ref_cases r with rfl | ⟨_, rfl⟩ <;> rfl)
theorem own_narRef {v : Value} (t : FieldType) (r : v.isRef = true) (ht : t.isReference = true) : narrow t v = v := by
  cases t <;> first | (cases ht; done) | (rcases ref_cases r with rfl | ⟨_, rfl⟩ <;> rfl)
theorem own_keepSub {h0 : Heap} {ws ws' : List Addr} (K : Keep h0 h ws) (q : ∀ x ∈ ws, x ∈ ws') : Keep h0 h ws' := ⟨K.1, fun x c r z => K.2.1 x c r fun u => z (q x u), K.2.2⟩
theorem own_neTy {a b : Addr} {k k' : ClassId} {ty ty' : FieldType} {z z' : Int32} {vs vs' : List Value} {d d' : Value} (F : Arv Z h a k ty z vs d) (G : Arv Z h b k' ty' z' vs' d') (hn : ty ≠ ty') : a ≠ b := by
  rintro rfl
  obtain ⟨c, A, -⟩ := F
  obtain ⟨c', A', -⟩ := G
  cases A.1.symm.trans A'.1
  obtain ⟨-, k1, q1, cm1, r1⟩ := A.2.1
  obtain ⟨-, k2, q2, cm2, r2⟩ := A'.2.1
  cases q1.symm.trans q2
  rw [r1] at r2
  cases r2
  exact hn rfl
theorem own_catR (a : Addr) : (Value.ref a).category = 1 := rfl
theorem own_catN : Value.null.category = 1 := rfl
theorem own_catI (a : Int32) : (Value.int a).category = 1 := rfl
theorem own_catJ (a : Int64) : (Value.long a).category = 2 := rfl
end OwnKit
theorem own_pd_0 : parseMethodDescriptor "()V" = some ⟨[], none⟩ := by decide +kernel
theorem own_pd_1 : parseMethodDescriptor "(II)I" = some ⟨[.int, .int], some .int⟩ := by decide +kernel
theorem own_pd_2 : parseMethodDescriptor "(I)[Ljava/lang/Object;" = some ⟨[.int], some (.array (.object "java/lang/Object"))⟩ := by decide +kernel
theorem own_pd_3 : parseMethodDescriptor "()[Ljava/lang/Object;" = some ⟨[], some (.array (.object "java/lang/Object"))⟩ := by decide +kernel
theorem own_pd_4 : parseMethodDescriptor "(Ljava/lang/Object;[Ljava/lang/Object;I)V" = some ⟨[(.object "java/lang/Object"), (.array (.object "java/lang/Object")), .int], none⟩ := by decide +kernel
theorem own_pd_5 : parseMethodDescriptor "(IILjava/util/function/BiFunction;)I" = some ⟨[.int, .int, (.object "java/util/function/BiFunction")], some .int⟩ := by decide +kernel
theorem own_pd_6 : parseMethodDescriptor "(I)Ljava/lang/Object;" = some ⟨[.int], some (.object "java/lang/Object")⟩ := by decide +kernel
theorem own_pd_7 : parseMethodDescriptor "()I" = some ⟨[], some .int⟩ := by decide +kernel
theorem own_pd_8 : parseMethodDescriptor "(Ljava/lang/String;Ljava/util/List;)V" = some ⟨[(.object "java/lang/String"), (.object "java/util/List")], none⟩ := by decide +kernel
theorem own_pd_9 : parseMethodDescriptor "(Ljava/lang/Object;)Z" = some ⟨[(.object "java/lang/Object")], some .boolean⟩ := by decide +kernel
theorem own_pd_10 : parseMethodDescriptor "(Ljava/lang/String;Ljava/lang/String;Ljava/lang/String;Ljava/util/List;Ljava/util/List;Ljava/util/List;)V" = some ⟨[(.object "java/lang/String"), (.object "java/lang/String"), (.object "java/lang/String"), (.object "java/util/List"), (.object "java/util/List"), (.object "java/util/List")], none⟩ := by decide +kernel
theorem own_pd_11 : parseMethodDescriptor "(Lcom/example/slotsholmen/slotsholmen/schema/Section;)Ljava/util/List;" = some ⟨[(.object "com/example/slotsholmen/slotsholmen/schema/Section")], some (.object "java/util/List")⟩ := by decide +kernel
theorem own_pn_0 : plainName "java/util/AbstractCollection" = true := by first | (simp [plainName, overriddenIn]; done) | decide +kernel
theorem own_pn_1 : plainName "java/util/AbstractList" = true := by first | (simp [plainName, overriddenIn]; done) | decide +kernel
theorem own_pn_2 : plainName "java/util/ArrayList" = true := by first | (simp [plainName, overriddenIn]; done) | decide +kernel
theorem own_pn_3 : plainName "jdk/internal/util/Preconditions" = true := by first | (simp [plainName, overriddenIn]; done) | decide +kernel
theorem own_pn_4 : plainName "java/util/Objects" = true := by first | (simp [plainName, overriddenIn]; done) | decide +kernel
theorem own_pn_5 : plainName "java/lang/Record" = true := by first | (simp [plainName, overriddenIn]; done) | decide +kernel
theorem own_pn_6 : plainName "com/example/slotsholmen/slotsholmen/schema/Group" = true := by first | (simp [plainName, overriddenIn]; done) | decide +kernel
theorem own_pn_7 : plainName "com/example/slotsholmen/slotsholmen/schema/ObjectClass" = true := by first | (simp [plainName, overriddenIn]; done) | decide +kernel
theorem own_pn_8 : plainName "java/lang/Enum" = true := by first | (simp [plainName, overriddenIn]; done) | decide +kernel
theorem own_pn_9 : plainName "com/example/slotsholmen/slotsholmen/schema/ObjectClassGroupsPinLaw" = true := by first | (simp [plainName, overriddenIn]; done) | decide +kernel
theorem own_wS {Z : State} {a0 : Array Value} (hw : ∀ d ∈ tables_1, d.before a0 Z = true) : ∀ a ∈ Bundle.stringAtoms, a.before a0 Z = true := by
  intro d hd
  simp only [Bundle.stringAtoms, List.mem_cons, List.not_mem_nil, or_false] at hd
  rcases hd with rfl | rfl | rfl | rfl | rfl | rfl | rfl
  · exact (hw _ (List.mem_of_getElem? (i := 5) rfl))
  · exact (hw _ (List.mem_of_getElem? (i := 6) rfl))
  · exact (hw _ (List.mem_of_getElem? (i := 7) rfl))
  · exact (hw _ (List.mem_of_getElem? (i := 8) rfl))
  · exact (hw _ (List.mem_of_getElem? (i := 9) rfl))
  · exact (hw _ (List.mem_of_getElem? (i := 10) rfl))
  · exact (hw _ (List.mem_of_getElem? (i := 11) rfl))
theorem own_lenOf {args : Array Value} {s : State} {t : Term} {a : Addr} {c : Cell} {k : Int32} (et : t.eval args s none [] s = some (.ref a)) (A : s.arrayAt? a = some c) (h : (Jvm.Cond.eq (Term.length t) (Term.int k)).value args s none s [] = some true) : c.slots.size < 2 ^ 31 ∧ c.slots.size.toInt32 = k := by
  by_cases q : c.slots.size < 2 ^ 31
  · refine ⟨q, ?_⟩
    have e := len_f (o := none) (first := s) (idx := []) et A q
    exact gotT (Cond.eq_ints e (Term.int_eval k)) h
  · exfalso
    simp [Cond.value, Term.eval, et, A, q] at h
theorem own_subIdx {args : Array Value} {s : State} {j : Int32} (hj : ¬ j < 0) : (Term.sub (.index 0) (.int 128)).eval args s none [j.toNatClampNeg] s = some (.int (j - 128)) := by
  simp [Term.eval, (back32 hj).1]
theorem own_ordFld {args : Array Value} {s : State} {t : Term} {w : Addr} {C f : String} {k : Int32} (n3 : (Jvm.Cond.eq (Term.field t C f "I") (Term.int k)).value args s none s [] = some true)
    (e1 : t.eval args s none [] s = some (.ref w)) : s.fieldOf? w C f "I" = some (.int k) := (fld_at e1).symm.trans (eqv_i (Term.int_eval k) n3)
theorem own_elemI {args : Array Value} {s : State} {t : Term} {a : Addr} {c : Cell} {j k : Int32} (et : t.eval args s none [] s = some (.ref a)) (A : s.arrayAt? a = some c) (hj : ¬ j < 0) (h : (Jvm.Cond.eq (Term.elem t (Term.int j)) (Term.int k)).value args s none s [] = some true) : c.slots[j.toNatClampNeg]? = some (.int k) :=
  (elem_f et (Term.int_eval j) A hj).symm.trans (eqv_i (Term.int_eval k) h)
theorem d3_0 : decode jdk_22_method_1_code 0 = .ok (.aload_n 0, 1) := by decide +kernel
theorem d3_1 : decode jdk_22_method_1_code 1 = .ok (.invokespecial 1, 3) := by decide +kernel
theorem d3_4 : decode jdk_22_method_1_code 4 = .ok (.return_, 1) := by decide +kernel
def Q_alcinit (Z : State) (wd : Addr) (kd : ClassId) (ws0 : Addr) (ws1 : Addr) (ws2 : Addr) (wm : Addr) (km : ClassId) (a1 : Addr) (h0 : Heap) (v : Option Value) (h : Heap) (L : List Loc) : Prop := (v = none ∧ Fr Z.heap.size L ∧ h = h0)
theorem ef_alcinit (m : MethodId) (x0 : Addr) : entryFrame m #[(.ref x0)] 1 = mkF m 0 #[.val (.ref x0)] [] := by first | (simp [entryFrame, mkF, argsToLocals, Value.category]; done) | rfl
set_option maxRecDepth 65536 in
set_option maxHeartbeats 40000000 in
theorem rm_alcinit (l : Launch) (Z : State) (a0 : Array Value) (hw : ∀ d ∈ tables_1, d.before a0 Z = true) {wd : Addr} {kd : ClassId} {ws0 : Addr} {ws1 : Addr} {ws2 : Addr} {wm : Addr} {km : ClassId} (oDE : Sta Z Z.heap "java/util/ArrayList" "DEFAULTCAPACITY_EMPTY_ELEMENTDATA" "[Ljava/lang/Object;" (.ref wd)) (oDV : Arv Z Z.heap wd kd (.object "java/lang/Object") (0 : Int32) [] .null) (oS0 : Sta Z Z.heap "com/example/slotsholmen/slotsholmen/schema/Section" "ATTRIBUTES" "Lcom/example/slotsholmen/slotsholmen/schema/Section;" (.ref ws0)) (oS1 : Sta Z Z.heap "com/example/slotsholmen/slotsholmen/schema/Section" "STATES" "Lcom/example/slotsholmen/slotsholmen/schema/Section;" (.ref ws1)) (oS2 : Sta Z Z.heap "com/example/slotsholmen/slotsholmen/schema/Section" "RELATIONS" "Lcom/example/slotsholmen/slotsholmen/schema/Section;" (.ref ws2)) (oSE0 : Exa Z Z.heap ws0 "com/example/slotsholmen/slotsholmen/schema/Section") (oSE1 : Exa Z Z.heap ws1 "com/example/slotsholmen/slotsholmen/schema/Section") (oSE2 : Exa Z Z.heap ws2 "com/example/slotsholmen/slotsholmen/schema/Section") (oSF0 : Fld Z Z.heap ws0 "java/lang/Enum" "ordinal" "I" (.int (0 : Int32))) (oSF1 : Fld Z Z.heap ws1 "java/lang/Enum" "ordinal" "I" (.int (1 : Int32))) (oSF2 : Fld Z Z.heap ws2 "java/lang/Enum" "ordinal" "I" (.int (2 : Int32))) (oSM : Sta Z Z.heap "com/example/slotsholmen/slotsholmen/schema/ObjectClass$1" "$SwitchMap$com$example$slotsholmen$slotsholmen$schema$Section" "[I" (.ref wm)) (oSV : Arv Z Z.heap wm km .int (3 : Int32) [(.int (1 : Int32)), (.int (2 : Int32)), (.int (3 : Int32))] (.int (0 : Int32))) (ws : List Jvm.Cond) (a1 : Addr) (h0 : Heap) (O0 : Ext Z.heap h0) :
    MetFree l (⟨"java/util/AbstractCollection", "<init>", "()V"⟩ : MethodName) (head1 (Jvm.Cond.code (⟨"java/util/AbstractCollection", "<init>", "()V"⟩ : MethodName) jdk_22_method_1_code 1 none :: ws) ({ frames := 1, cells := 0, slots := 0, locals := 12 } : Room)) (fun a U => a = #[(.ref a1)] ∧ Z.Warmed39 U.vm ∧ U.heap = h0) (fun _ _ _ _ _ => True) (fun _ U o U' => ∃ v L, o = .returned v ∧ (Q_alcinit Z wd kd ws0 ws1 ws2 wm km a1 h0) v U'.heap L ∧ ReturnedEndW U o U' L ({ frames := 1, cells := 0, slots := 0, locals := 12 } : Room).cells ({ frames := 1, cells := 0, slots := 0, locals := 12 } : Room).slots) := by
  refine own_met (Q := (Q_alcinit Z wd kd ws0 ws1 ws2 wm km a1 h0)) _ _ (plainFor_of_name own_pn_0) ?_
  intro p e s vm0 m below meth c T X0 hS hx hby hml hret hlk hZ hown hnm e0
  replace hown : (s.setVm vm0).vm.findClass "java/util/AbstractCollection" = some m.cls := hown
  replace hnm : meth.name = "<init>" := hnm
  have hml : c.maxLocals = 1 := hml
  have N0 := Fr.nil Z.heap.size
  have K0 := Keep.refl h0 []
  refine own_go (fun _ k => castTop (ef_alcinit m a1) k) ?_
  show own_Go p e below s _ _ _ (T.setTop (mkF m 0 #[.val (.ref a1)] []))
  refine own_go (fun _ k => XS.aloadN X0.here hx rfl (hb hby d3_0) rfl rfl k) ?_
  show own_Go p e below s _ _ _ (T.setTop (mkF m 1 #[.val (.ref a1)] [(.ref a1)]))
  obtain ⟨T1, X1, e1, st1⟩ := initO X0 hx hZ hown (hw _ (List.mem_of_getElem? (i := 30) rfl)) (hw _ (List.mem_of_getElem? (i := 31) rfl)) (hw _ (List.mem_of_getElem? (i := 32) rfl)) e0 (g := (mkF m 1 #[.val (.ref a1)] [(.ref a1)])) rfl (by rw [hml]; rfl) rfl (hb hby d3_1) (by decide) (W := 0) (by show 2 * 0 + _ ≤ _; exact Nat.le_of_eq rfl) (by decide)
  refine own_go st1 ?_
  show own_Go p e below s _ _ _ (T1.setTop (mkF m 4 #[.val (.ref a1)] []))
  refine own_retV X1 hS hx hlk e1 hret (hb hby d3_4) (by show _ ≤ 0; omega) (by show _ ≤ 0; omega) ?_
  exact ⟨rfl, N0, rfl⟩
theorem d2_0 : decode jdk_39_method_1_code 0 = .ok (.aload_n 0, 1) := by decide +kernel
theorem d2_1 : decode jdk_39_method_1_code 1 = .ok (.invokespecial 1, 3) := by decide +kernel
theorem d2_4 : decode jdk_39_method_1_code 4 = .ok (.aload_n 0, 1) := by decide +kernel
theorem d2_5 : decode jdk_39_method_1_code 5 = .ok (.iconst 0, 1) := by decide +kernel
theorem d2_6 : decode jdk_39_method_1_code 6 = .ok (.putfield 7, 3) := by decide +kernel
theorem d2_9 : decode jdk_39_method_1_code 9 = .ok (.return_, 1) := by decide +kernel
def Q_aliinit (Z : State) (wd : Addr) (kd : ClassId) (ws0 : Addr) (ws1 : Addr) (ws2 : Addr) (wm : Addr) (km : ClassId) (a1 : Addr) (h0 : Heap) (v : Option Value) (h : Heap) (L : List Loc) : Prop := (v = none ∧ Fr Z.heap.size L ∧ Keep h0 h [a1] ∧ Exa Z h a1 "java/util/ArrayList" ∧ Fld Z h a1 "java/util/ArrayList" "size" "I" (.int (0 : Int32)) ∧ Fld Z h a1 "java/util/ArrayList" "elementData" "[Ljava/lang/Object;" .null ∧ Fld Z h a1 "java/util/AbstractList" "modCount" "I" (.int (0 : Int32)))
theorem ef_aliinit (m : MethodId) (x0 : Addr) : entryFrame m #[(.ref x0)] 1 = mkF m 0 #[.val (.ref x0)] [] := by first | (simp [entryFrame, mkF, argsToLocals, Value.category]; done) | rfl
set_option maxRecDepth 65536 in
set_option maxHeartbeats 40000000 in
theorem rm_aliinit (l : Launch) (Z : State) (a0 : Array Value) (hw : ∀ d ∈ tables_1, d.before a0 Z = true) {wd : Addr} {kd : ClassId} {ws0 : Addr} {ws1 : Addr} {ws2 : Addr} {wm : Addr} {km : ClassId} (oDE : Sta Z Z.heap "java/util/ArrayList" "DEFAULTCAPACITY_EMPTY_ELEMENTDATA" "[Ljava/lang/Object;" (.ref wd)) (oDV : Arv Z Z.heap wd kd (.object "java/lang/Object") (0 : Int32) [] .null) (oS0 : Sta Z Z.heap "com/example/slotsholmen/slotsholmen/schema/Section" "ATTRIBUTES" "Lcom/example/slotsholmen/slotsholmen/schema/Section;" (.ref ws0)) (oS1 : Sta Z Z.heap "com/example/slotsholmen/slotsholmen/schema/Section" "STATES" "Lcom/example/slotsholmen/slotsholmen/schema/Section;" (.ref ws1)) (oS2 : Sta Z Z.heap "com/example/slotsholmen/slotsholmen/schema/Section" "RELATIONS" "Lcom/example/slotsholmen/slotsholmen/schema/Section;" (.ref ws2)) (oSE0 : Exa Z Z.heap ws0 "com/example/slotsholmen/slotsholmen/schema/Section") (oSE1 : Exa Z Z.heap ws1 "com/example/slotsholmen/slotsholmen/schema/Section") (oSE2 : Exa Z Z.heap ws2 "com/example/slotsholmen/slotsholmen/schema/Section") (oSF0 : Fld Z Z.heap ws0 "java/lang/Enum" "ordinal" "I" (.int (0 : Int32))) (oSF1 : Fld Z Z.heap ws1 "java/lang/Enum" "ordinal" "I" (.int (1 : Int32))) (oSF2 : Fld Z Z.heap ws2 "java/lang/Enum" "ordinal" "I" (.int (2 : Int32))) (oSM : Sta Z Z.heap "com/example/slotsholmen/slotsholmen/schema/ObjectClass$1" "$SwitchMap$com$example$slotsholmen$slotsholmen$schema$Section" "[I" (.ref wm)) (oSV : Arv Z Z.heap wm km .int (3 : Int32) [(.int (1 : Int32)), (.int (2 : Int32)), (.int (3 : Int32))] (.int (0 : Int32))) (ws : List Jvm.Cond) (a1 : Addr) (h0 : Heap) (O0 : Ext Z.heap h0) (f_E_a1 : Exa Z h0 a1 "java/util/ArrayList") (f_F_a1_size : Fld Z h0 a1 "java/util/ArrayList" "size" "I" (.int (0 : Int32))) (f_F_a1_elementData : Fld Z h0 a1 "java/util/ArrayList" "elementData" "[Ljava/lang/Object;" .null) (f_F_a1_modCount : Fld Z h0 a1 "java/util/AbstractList" "modCount" "I" (.int (0 : Int32))) (big_a1 : Z.heap.size ≤ a1) :
    MetFree l (⟨"java/util/AbstractList", "<init>", "()V"⟩ : MethodName) (head1 (Jvm.Cond.code (⟨"java/util/AbstractList", "<init>", "()V"⟩ : MethodName) jdk_39_method_1_code 1 none :: ws) ({ frames := 2, cells := 0, slots := 0, locals := 24 } : Room)) (fun a U => a = #[(.ref a1)] ∧ Z.Warmed39 U.vm ∧ U.heap = h0) (fun _ _ _ _ _ => True) (fun _ U o U' => ∃ v L, o = .returned v ∧ (Q_aliinit Z wd kd ws0 ws1 ws2 wm km a1 h0) v U'.heap L ∧ ReturnedEndW U o U' L ({ frames := 2, cells := 0, slots := 0, locals := 24 } : Room).cells ({ frames := 2, cells := 0, slots := 0, locals := 24 } : Room).slots) := by
  refine own_met (Q := (Q_aliinit Z wd kd ws0 ws1 ws2 wm km a1 h0)) _ _ (plainFor_of_name own_pn_1) ?_
  intro p e s vm0 m below meth c T X0 hS hx hby hml hret hlk hZ hown hnm e0
  replace hown : (s.setVm vm0).vm.findClass "java/util/AbstractList" = some m.cls := hown
  replace hnm : meth.name = "<init>" := hnm
  have hml : c.maxLocals = 1 := hml
  have N0 := Fr.nil Z.heap.size
  have K0 := Keep.refl h0 [a1]
  refine own_go (fun _ k => castTop (ef_aliinit m a1) k) ?_
  show own_Go p e below s _ _ _ (T.setTop (mkF m 0 #[.val (.ref a1)] []))
  refine own_go (fun _ k => XS.aloadN X0.here hx rfl (hb hby d2_0) rfl rfl k) ?_
  show own_Go p e below s _ _ _ (T.setTop (mkF m 1 #[.val (.ref a1)] [(.ref a1)]))
  obtain ⟨v1, T1, L1, X1, hSn, hZn, hownn, hQ1, st1⟩ := own_callI (y := (⟨"java/util/AbstractCollection", "<init>", "()V"⟩ : MethodName)) X0 hS hx hZ hown (hw _ (List.mem_of_getElem? (i := 24) rfl)) (hw _ (List.mem_of_getElem? (i := 25) rfl)) (hw _ (List.mem_of_getElem? (i := 28) rfl)) (hw _ (List.mem_of_getElem? (i := 29) rfl)) (rm_alcinit l Z a0 hw oDE oDV oS0 oS1 oS2 oSE0 oSE1 oSE2 oSF0 oSF1 oSF2 oSM oSV [] a1 h0 O0) 0 0 0 rfl rfl rfl (by decide) (by decide) (by decide) (by show _ ≤ 0; omega) (by show _ ≤ 0; omega) e0 (g := (mkF m 1 #[.val (.ref a1)] [(.ref a1)])) rfl (by rw [hml]; rfl) a1 [] [] (lenOf own_pd_0 rfl) rfl rfl (by show 2 * 0 + _ ≤ _; exact Nat.le_of_eq rfl) (hb hby d2_1)
  replace hS := hSn
  replace hZ := hZn
  replace hown := hownn
  clear hSn hZn hownn
  obtain ⟨rfl, Nc3, Kc2⟩ := hQ1
  refine own_go st1 ?_
  have N4 := Fr.app N0 Nc3
  rw [Kc2] at hS
  show own_Go p e below s _ _ _ (T1.setTop (mkF m 4 #[.val (.ref a1)] []))
  refine own_go (fun _ k => XS.aloadN X1.here hx rfl (hb hby d2_4) rfl rfl k) ?_
  show own_Go p e below s _ _ _ (T1.setTop (mkF m 5 #[.val (.ref a1)] [(.ref a1)]))
  refine own_go (fun _ k => XS.iconst X1.here hx rfl (hb hby d2_5) k) ?_
  show own_Go p e below s _ _ _ (T1.setTop (mkF m 6 #[.val (.ref a1)] [(.int (0 : Int32)), (.ref a1)]))
  obtain ⟨T5, h5, X5, e5, W5, st5⟩ := putF X1 hx hZ hown (host := "") (Or.inl (hw _ (List.mem_of_getElem? (i := 33) rfl))) Via.refl Kc2 f_F_a1_modCount f_E_a1 (Or.inl (hw _ (List.mem_of_getElem? (i := 34) rfl))) (hw _ (List.mem_of_getElem? (i := 13) rfl)) (ty := .int) (by decide) rfl rfl (g := (mkF m 6 #[.val (.ref a1)] [(.int (0 : Int32)), (.ref a1)])) rfl rfl (hb hby d2_6)
  refine own_go st5 ?_
  have N6 := Fr.snoc X5 N4 big_a1
  have f7 : Exa Z h5 a1 "java/util/ArrayList" := f_E_a1.wr W5
  have f8 : Fld Z h5 a1 "java/util/ArrayList" "size" "I" (.int (0 : Int32)) := f_F_a1_size.other W5 (Or.inr (slot_ne (Or.inl (hw _ (List.mem_of_getElem? (i := 61) rfl))) (Or.inl (hw _ (List.mem_of_getElem? (i := 34) rfl))) (by decide) (t := .int) (t' := .int) (by decide) (by decide)))
  have f9 : Fld Z h5 a1 "java/util/ArrayList" "elementData" "[Ljava/lang/Object;" .null := f_F_a1_elementData.other W5 (Or.inr (slot_ne (Or.inl (hw _ (List.mem_of_getElem? (i := 37) rfl))) (Or.inl (hw _ (List.mem_of_getElem? (i := 34) rfl))) (by decide) (t := (.array (.object "java/lang/Object"))) (t' := .int) (by decide) (by decide)))
  have f10 : Fld Z h5 a1 "java/util/AbstractList" "modCount" "I" (.int (0 : Int32)) := f_F_a1_modCount.same W5
  have O11 := own_oldWr O0 W5 big_a1
  replace hS := own_since hS (Nat.le_of_eq W5.size.symm)
  have K12 : Keep h0 h5 [a1] := K0.wr W5 (Or.inl (List.mem_of_getElem? (i := 0) rfl))
  show own_Go p e below s _ _ _ (T5.setTop (mkF m 9 #[.val (.ref a1)] []))
  refine own_retV X5 hS hx hlk e5 hret (hb hby d2_9) (by show _ ≤ 0; omega) (by show _ ≤ 0; omega) ?_
  exact ⟨rfl, N6, K12, f7, f8, f9, f10⟩
theorem d1_0 : decode jdk_38_method_2_code 0 = .ok (.aload_n 0, 1) := by decide +kernel
theorem d1_1 : decode jdk_38_method_2_code 1 = .ok (.invokespecial 1, 3) := by decide +kernel
theorem d1_4 : decode jdk_38_method_2_code 4 = .ok (.aload_n 0, 1) := by decide +kernel
theorem d1_5 : decode jdk_38_method_2_code 5 = .ok (.getstatic 39, 3) := by decide +kernel
theorem d1_8 : decode jdk_38_method_2_code 8 = .ok (.putfield 9, 3) := by decide +kernel
theorem d1_11 : decode jdk_38_method_2_code 11 = .ok (.return_, 1) := by decide +kernel
def Q_alinit (Z : State) (wd : Addr) (kd : ClassId) (ws0 : Addr) (ws1 : Addr) (ws2 : Addr) (wm : Addr) (km : ClassId) (a1 : Addr) (h0 : Heap) (v : Option Value) (h : Heap) (L : List Loc) : Prop := (v = none ∧ Fr Z.heap.size L ∧ Keep h0 h [a1] ∧ Exa Z h a1 "java/util/ArrayList" ∧ Fld Z h a1 "java/util/ArrayList" "size" "I" (.int (0 : Int32)) ∧ Fld Z h a1 "java/util/ArrayList" "elementData" "[Ljava/lang/Object;" (.ref wd) ∧ Fld Z h a1 "java/util/AbstractList" "modCount" "I" (.int (0 : Int32)))
theorem ef_alinit (m : MethodId) (x0 : Addr) : entryFrame m #[(.ref x0)] 1 = mkF m 0 #[.val (.ref x0)] [] := by first | (simp [entryFrame, mkF, argsToLocals, Value.category]; done) | rfl
set_option maxRecDepth 65536 in
set_option maxHeartbeats 40000000 in
theorem rm_alinit (l : Launch) (Z : State) (a0 : Array Value) (hw : ∀ d ∈ tables_1, d.before a0 Z = true) {wd : Addr} {kd : ClassId} {ws0 : Addr} {ws1 : Addr} {ws2 : Addr} {wm : Addr} {km : ClassId} (oDE : Sta Z Z.heap "java/util/ArrayList" "DEFAULTCAPACITY_EMPTY_ELEMENTDATA" "[Ljava/lang/Object;" (.ref wd)) (oDV : Arv Z Z.heap wd kd (.object "java/lang/Object") (0 : Int32) [] .null) (oS0 : Sta Z Z.heap "com/example/slotsholmen/slotsholmen/schema/Section" "ATTRIBUTES" "Lcom/example/slotsholmen/slotsholmen/schema/Section;" (.ref ws0)) (oS1 : Sta Z Z.heap "com/example/slotsholmen/slotsholmen/schema/Section" "STATES" "Lcom/example/slotsholmen/slotsholmen/schema/Section;" (.ref ws1)) (oS2 : Sta Z Z.heap "com/example/slotsholmen/slotsholmen/schema/Section" "RELATIONS" "Lcom/example/slotsholmen/slotsholmen/schema/Section;" (.ref ws2)) (oSE0 : Exa Z Z.heap ws0 "com/example/slotsholmen/slotsholmen/schema/Section") (oSE1 : Exa Z Z.heap ws1 "com/example/slotsholmen/slotsholmen/schema/Section") (oSE2 : Exa Z Z.heap ws2 "com/example/slotsholmen/slotsholmen/schema/Section") (oSF0 : Fld Z Z.heap ws0 "java/lang/Enum" "ordinal" "I" (.int (0 : Int32))) (oSF1 : Fld Z Z.heap ws1 "java/lang/Enum" "ordinal" "I" (.int (1 : Int32))) (oSF2 : Fld Z Z.heap ws2 "java/lang/Enum" "ordinal" "I" (.int (2 : Int32))) (oSM : Sta Z Z.heap "com/example/slotsholmen/slotsholmen/schema/ObjectClass$1" "$SwitchMap$com$example$slotsholmen$slotsholmen$schema$Section" "[I" (.ref wm)) (oSV : Arv Z Z.heap wm km .int (3 : Int32) [(.int (1 : Int32)), (.int (2 : Int32)), (.int (3 : Int32))] (.int (0 : Int32))) (ws : List Jvm.Cond) (a1 : Addr) (h0 : Heap) (O0 : Ext Z.heap h0) (f_E_a1 : Exa Z h0 a1 "java/util/ArrayList") (f_F_a1_size : Fld Z h0 a1 "java/util/ArrayList" "size" "I" (.int (0 : Int32))) (f_F_a1_elementData : Fld Z h0 a1 "java/util/ArrayList" "elementData" "[Ljava/lang/Object;" .null) (f_F_a1_modCount : Fld Z h0 a1 "java/util/AbstractList" "modCount" "I" (.int (0 : Int32))) (big_a1 : Z.heap.size ≤ a1) :
    MetFree l (⟨"java/util/ArrayList", "<init>", "()V"⟩ : MethodName) (head1 (Jvm.Cond.code (⟨"java/util/ArrayList", "<init>", "()V"⟩ : MethodName) jdk_38_method_2_code 1 none :: ws) ({ frames := 3, cells := 0, slots := 0, locals := 36 } : Room)) (fun a U => a = #[(.ref a1)] ∧ Z.Warmed39 U.vm ∧ U.heap = h0) (fun _ _ _ _ _ => True) (fun _ U o U' => ∃ v L, o = .returned v ∧ (Q_alinit Z wd kd ws0 ws1 ws2 wm km a1 h0) v U'.heap L ∧ ReturnedEndW U o U' L ({ frames := 3, cells := 0, slots := 0, locals := 36 } : Room).cells ({ frames := 3, cells := 0, slots := 0, locals := 36 } : Room).slots) := by
  refine own_met (Q := (Q_alinit Z wd kd ws0 ws1 ws2 wm km a1 h0)) _ _ (plainFor_of_name own_pn_2) ?_
  intro p e s vm0 m below meth c T X0 hS hx hby hml hret hlk hZ hown hnm e0
  replace hown : (s.setVm vm0).vm.findClass "java/util/ArrayList" = some m.cls := hown
  replace hnm : meth.name = "<init>" := hnm
  have hml : c.maxLocals = 1 := hml
  have N0 := Fr.nil Z.heap.size
  have K0 := Keep.refl h0 [a1]
  refine own_go (fun _ k => castTop (ef_alinit m a1) k) ?_
  show own_Go p e below s _ _ _ (T.setTop (mkF m 0 #[.val (.ref a1)] []))
  refine own_go (fun _ k => XS.aloadN X0.here hx rfl (hb hby d1_0) rfl rfl k) ?_
  show own_Go p e below s _ _ _ (T.setTop (mkF m 1 #[.val (.ref a1)] [(.ref a1)]))
  obtain ⟨v1, T1, L1, X1, hSn, hZn, hownn, hQ1, st1⟩ := own_callI (y := (⟨"java/util/AbstractList", "<init>", "()V"⟩ : MethodName)) X0 hS hx hZ hown (hw _ (List.mem_of_getElem? (i := 18) rfl)) (hw _ (List.mem_of_getElem? (i := 19) rfl)) (hw _ (List.mem_of_getElem? (i := 22) rfl)) (hw _ (List.mem_of_getElem? (i := 23) rfl)) (rm_aliinit l Z a0 hw oDE oDV oS0 oS1 oS2 oSE0 oSE1 oSE2 oSF0 oSF1 oSF2 oSM oSV [] a1 h0 O0 f_E_a1 f_F_a1_size f_F_a1_elementData f_F_a1_modCount big_a1) 0 0 0 rfl rfl rfl (by decide) (by decide) (by decide) (by show _ ≤ 0; omega) (by show _ ≤ 0; omega) e0 (g := (mkF m 1 #[.val (.ref a1)] [(.ref a1)])) rfl (by rw [hml]; rfl) a1 [] [] (lenOf own_pd_0 rfl) rfl rfl (by show 2 * 0 + _ ≤ _; exact Nat.le_of_eq rfl) (hb hby d1_1)
  replace hS := hSn
  replace hZ := hZn
  replace hown := hownn
  clear hSn hZn hownn
  obtain ⟨rfl, Nc7, Kc6, f2, f3, f4, f5⟩ := hQ1
  refine own_go st1 ?_
  have N8 := Fr.app N0 Nc7
  have f9 : Exa Z T1.heap a1 "java/util/ArrayList" := f_E_a1.keep Kc6
  have O13 := own_oldKeep O0 Kc6 (allS big_a1 all0)
  have K14 : Keep h0 T1.heap [a1] := K0.trans Kc6 (allS (Or.inl (List.mem_of_getElem? (i := 0) rfl)) all0)
  show own_Go p e below s _ _ _ (T1.setTop (mkF m 4 #[.val (.ref a1)] []))
  refine own_go (fun _ k => XS.aloadN X1.here hx rfl (hb hby d1_4) rfl rfl k) ?_
  show own_Go p e below s _ _ _ (T1.setTop (mkF m 5 #[.val (.ref a1)] [(.ref a1)]))
  obtain ⟨T15, X15, e15, st15⟩ := getS2 X1 hx hZ hown (host := "") (Or.inl (hw _ (List.mem_of_getElem? (i := 35) rfl))) Via.refl (rfl : T1.heap = T1.heap) (oDE.ext O13) (g := (mkF m 5 #[.val (.ref a1)] [(.ref a1)])) rfl (hb hby d1_5)
  refine own_go st15 ?_
  show own_Go p e below s _ _ _ (T15.setTop (mkF m 8 #[.val (.ref a1)] [(.ref wd), (.ref a1)]))
  obtain ⟨T16, h16, X16, e16, W16, st16⟩ := putF X15 hx hZ hown (host := "") (Or.inl (hw _ (List.mem_of_getElem? (i := 36) rfl))) Via.refl e15 f4 f2 (Or.inl (hw _ (List.mem_of_getElem? (i := 37) rfl))) (hw _ (List.mem_of_getElem? (i := 13) rfl)) (ty := (.array (.object "java/lang/Object"))) (by decide) rfl rfl (g := (mkF m 8 #[.val (.ref a1)] [(.ref wd), (.ref a1)])) rfl rfl (hb hby d1_8)
  refine own_go st16 ?_
  have N17 := Fr.snoc X16 N8 big_a1
  have f18 : Exa Z h16 a1 "java/util/ArrayList" := f2.wr W16
  have f19 : Fld Z h16 a1 "java/util/ArrayList" "size" "I" (.int (0 : Int32)) := f3.other W16 (Or.inr (slot_ne (Or.inl (hw _ (List.mem_of_getElem? (i := 61) rfl))) (Or.inl (hw _ (List.mem_of_getElem? (i := 37) rfl))) (by decide) (t := .int) (t' := (.array (.object "java/lang/Object"))) (by decide) (by decide)))
  have f20 : Fld Z h16 a1 "java/util/ArrayList" "elementData" "[Ljava/lang/Object;" (.ref wd) := f4.same W16
  have f21 : Fld Z h16 a1 "java/util/AbstractList" "modCount" "I" (.int (0 : Int32)) := f5.other W16 (Or.inr (slot_ne (Or.inl (hw _ (List.mem_of_getElem? (i := 34) rfl))) (Or.inl (hw _ (List.mem_of_getElem? (i := 37) rfl))) (by decide) (t := .int) (t' := (.array (.object "java/lang/Object"))) (by decide) (by decide)))
  have O22 := own_oldWr O13 W16 big_a1
  replace hS := own_since hS (Nat.le_of_eq W16.size.symm)
  have K23 : Keep h0 h16 [a1] := K14.wr W16 (Or.inl (List.mem_of_getElem? (i := 0) rfl))
  show own_Go p e below s _ _ _ (T16.setTop (mkF m 11 #[.val (.ref a1)] []))
  refine own_retV X16 hS hx hlk e16 hret (hb hby d1_11) (by show _ ≤ 0; omega) (by show _ ≤ 0; omega) ?_
  exact ⟨rfl, N17, K23, f18, f19, f20, f21⟩
theorem d11_0 : decode jdk_29_method_65_code 0 = .ok (.iload_n 0, 1) := by decide +kernel
theorem d11_1 : decode jdk_29_method_65_code 1 = .ok (.iload_n 1, 1) := by decide +kernel
theorem d11_2 : decode jdk_29_method_65_code 2 = .ok (.if_icmp .lt 7, 3) := by decide +kernel
theorem d11_5 : decode jdk_29_method_65_code 5 = .ok (.iload_n 0, 1) := by decide +kernel
theorem d11_6 : decode jdk_29_method_65_code 6 = .ok (.goto 4, 3) := by decide +kernel
theorem d11_9 : decode jdk_29_method_65_code 9 = .ok (.iload_n 1, 1) := by decide +kernel
theorem d11_10 : decode jdk_29_method_65_code 10 = .ok (.ireturn, 1) := by decide +kernel
def Q_maxi (Z : State) (wd : Addr) (kd : ClassId) (ws0 : Addr) (ws1 : Addr) (ws2 : Addr) (wm : Addr) (km : ClassId) (p1 : Int32) (p2 : Int32) (h0 : Heap) (v : Option Value) (h : Heap) (L : List Loc) : Prop := (v = some (.int p2) ∧ Fr Z.heap.size L ∧ p1 < p2 ∧ h = h0) ∨ (v = some (.int p1) ∧ Fr Z.heap.size L ∧ ¬ (p1 < p2) ∧ h = h0)
theorem ef_maxi (m : MethodId) (x0 : Int32) (x1 : Int32) : entryFrame m #[(.int x0), (.int x1)] 2 = mkF m 0 #[.val (.int x0), .val (.int x1)] [] := by first | (simp [entryFrame, mkF, argsToLocals, Value.category]; done) | rfl
set_option maxRecDepth 65536 in
set_option maxHeartbeats 40000000 in
theorem rm_maxi (l : Launch) (Z : State) (a0 : Array Value) (hw : ∀ d ∈ tables_1, d.before a0 Z = true) {wd : Addr} {kd : ClassId} {ws0 : Addr} {ws1 : Addr} {ws2 : Addr} {wm : Addr} {km : ClassId} (oDE : Sta Z Z.heap "java/util/ArrayList" "DEFAULTCAPACITY_EMPTY_ELEMENTDATA" "[Ljava/lang/Object;" (.ref wd)) (oDV : Arv Z Z.heap wd kd (.object "java/lang/Object") (0 : Int32) [] .null) (oS0 : Sta Z Z.heap "com/example/slotsholmen/slotsholmen/schema/Section" "ATTRIBUTES" "Lcom/example/slotsholmen/slotsholmen/schema/Section;" (.ref ws0)) (oS1 : Sta Z Z.heap "com/example/slotsholmen/slotsholmen/schema/Section" "STATES" "Lcom/example/slotsholmen/slotsholmen/schema/Section;" (.ref ws1)) (oS2 : Sta Z Z.heap "com/example/slotsholmen/slotsholmen/schema/Section" "RELATIONS" "Lcom/example/slotsholmen/slotsholmen/schema/Section;" (.ref ws2)) (oSE0 : Exa Z Z.heap ws0 "com/example/slotsholmen/slotsholmen/schema/Section") (oSE1 : Exa Z Z.heap ws1 "com/example/slotsholmen/slotsholmen/schema/Section") (oSE2 : Exa Z Z.heap ws2 "com/example/slotsholmen/slotsholmen/schema/Section") (oSF0 : Fld Z Z.heap ws0 "java/lang/Enum" "ordinal" "I" (.int (0 : Int32))) (oSF1 : Fld Z Z.heap ws1 "java/lang/Enum" "ordinal" "I" (.int (1 : Int32))) (oSF2 : Fld Z Z.heap ws2 "java/lang/Enum" "ordinal" "I" (.int (2 : Int32))) (oSM : Sta Z Z.heap "com/example/slotsholmen/slotsholmen/schema/ObjectClass$1" "$SwitchMap$com$example$slotsholmen$slotsholmen$schema$Section" "[I" (.ref wm)) (oSV : Arv Z Z.heap wm km .int (3 : Int32) [(.int (1 : Int32)), (.int (2 : Int32)), (.int (3 : Int32))] (.int (0 : Int32))) (ws : List Jvm.Cond) (p1 : Int32) (p2 : Int32) (h0 : Heap) (O0 : Ext Z.heap h0) :
    MetFree l (⟨"java/lang/Math", "max", "(II)I"⟩ : MethodName) (head1 (Jvm.Cond.code (⟨"java/lang/Math", "max", "(II)I"⟩ : MethodName) jdk_29_method_65_code 2 (some .int) :: ws) ({ frames := 0, cells := 0, slots := 0, locals := 0 } : Room)) (fun a U => a = #[(.int p1), (.int p2)] ∧ Z.Warmed39 U.vm ∧ U.heap = h0) (fun _ _ _ _ _ => True) (fun _ U o U' => ∃ v L, o = .returned v ∧ (Q_maxi Z wd kd ws0 ws1 ws2 wm km p1 p2 h0) v U'.heap L ∧ ReturnedEndW U o U' L ({ frames := 0, cells := 0, slots := 0, locals := 0 } : Room).cells ({ frames := 0, cells := 0, slots := 0, locals := 0 } : Room).slots) := by
  refine own_met (Q := (Q_maxi Z wd kd ws0 ws1 ws2 wm km p1 p2 h0)) _ _ (Jvm.Free.JP.mathPlain rfl (by decide +kernel)) ?_
  intro p e s vm0 m below meth c T X0 hS hx hby hml hret hlk hZ hown hnm e0
  replace hown : (s.setVm vm0).vm.findClass "java/lang/Math" = some m.cls := hown
  replace hnm : meth.name = "max" := hnm
  have hml : c.maxLocals = 2 := hml
  have N0 := Fr.nil Z.heap.size
  have K0 := Keep.refl h0 []
  refine own_go (fun _ k => castTop (ef_maxi m p1 p2) k) ?_
  show own_Go p e below s _ _ _ (T.setTop (mkF m 0 #[.val (.int p1), .val (.int p2)] []))
  refine own_go (fun _ k => XS.iloadN X0.here hx rfl (hb hby d11_0) rfl k) ?_
  show own_Go p e below s _ _ _ (T.setTop (mkF m 1 #[.val (.int p1), .val (.int p2)] [(.int p1)]))
  refine own_go (fun _ k => XS.iloadN X0.here hx rfl (hb hby d11_1) rfl k) ?_
  show own_Go p e below s _ _ _ (T.setTop (mkF m 2 #[.val (.int p1), .val (.int p2)] [(.int p2), (.int p1)]))
  by_cases hc1 : p1 < p2
  · refine own_go (fun _ k => XS.icmpYes X0.here hx rfl (pc0 := 2) (pc' := 9) rfl (hb hby d11_2) rfl (tlt hc1).1 (by decide) (by decide) k) ?_
    show own_Go p e below s _ _ _ (T.setTop (mkF m 9 #[.val (.int p1), .val (.int p2)] []))
    refine own_go (fun _ k => XS.iloadN X0.here hx rfl (hb hby d11_9) rfl k) ?_
    show own_Go p e below s _ _ _ (T.setTop (mkF m 10 #[.val (.int p1), .val (.int p2)] [(.int p2)]))
    refine own_retI X0 hS hx hlk e0 hret (hb hby d11_10) (by show _ ≤ 0; omega) (by show _ ≤ 0; omega) ?_
    exact Or.inl ⟨rfl, N0, hc1, rfl⟩
  · refine own_go (fun _ k => XS.icmpNo X0.here hx rfl (hb hby d11_2) rfl (flt hc1).1 k) ?_
    show own_Go p e below s _ _ _ (T.setTop (mkF m 5 #[.val (.int p1), .val (.int p2)] []))
    refine own_go (fun _ k => XS.iloadN X0.here hx rfl (hb hby d11_5) rfl k) ?_
    show own_Go p e below s _ _ _ (T.setTop (mkF m 6 #[.val (.int p1), .val (.int p2)] [(.int p1)]))
    refine own_go (fun _ k => XS.goto X0.here hx rfl (pc0 := 6) (pc' := 10) rfl (hb hby d11_6) (by decide) (by decide) k) ?_
    show own_Go p e below s _ _ _ (T.setTop (mkF m 10 #[.val (.int p1), .val (.int p2)] [(.int p1)]))
    refine own_retI X0 hS hx hlk e0 hret (hb hby d11_10) (by show _ ≤ 0; omega) (by show _ ≤ 0; omega) ?_
    exact Or.inr (⟨rfl, N0, hc1, rfl⟩)
theorem d10_0 : decode jdk_38_method_6_code 0 = .ok (.aload_n 0, 1) := by decide +kernel
theorem d10_1 : decode jdk_38_method_6_code 1 = .ok (.getfield 9, 3) := by decide +kernel
theorem d10_4 : decode jdk_38_method_6_code 4 = .ok (.arraylength, 1) := by decide +kernel
theorem d10_5 : decode jdk_38_method_6_code 5 = .ok (.istore_n 2, 1) := by decide +kernel
theorem d10_6 : decode jdk_38_method_6_code 6 = .ok (.iload_n 2, 1) := by decide +kernel
theorem d10_7 : decode jdk_38_method_6_code 7 = .ok (.ifCond .gt 13, 3) := by decide +kernel
theorem d10_10 : decode jdk_38_method_6_code 10 = .ok (.aload_n 0, 1) := by decide +kernel
theorem d10_11 : decode jdk_38_method_6_code 11 = .ok (.getfield 9, 3) := by decide +kernel
theorem d10_14 : decode jdk_38_method_6_code 14 = .ok (.getstatic 39, 3) := by decide +kernel
theorem d10_17 : decode jdk_38_method_6_code 17 = .ok (.if_acmp .eq 28, 3) := by decide +kernel
theorem d10_45 : decode jdk_38_method_6_code 45 = .ok (.aload_n 0, 1) := by decide +kernel
theorem d10_46 : decode jdk_38_method_6_code 46 = .ok (.bipush 10, 2) := by decide +kernel
theorem d10_48 : decode jdk_38_method_6_code 48 = .ok (.iload_n 1, 1) := by decide +kernel
theorem d10_49 : decode jdk_38_method_6_code 49 = .ok (.invokestatic 79, 3) := by decide +kernel
theorem d10_52 : decode jdk_38_method_6_code 52 = .ok (.anewarray 7, 3) := by decide +kernel
theorem d10_55 : decode jdk_38_method_6_code 55 = .ok (.dup_x1, 1) := by decide +kernel
theorem d10_56 : decode jdk_38_method_6_code 56 = .ok (.putfield 9, 3) := by decide +kernel
theorem d10_59 : decode jdk_38_method_6_code 59 = .ok (.areturn, 1) := by decide +kernel
def Q_growI (Z : State) (wd : Addr) (kd : ClassId) (ws0 : Addr) (ws1 : Addr) (ws2 : Addr) (wm : Addr) (km : ClassId) (a1 : Addr) (mc : Int32) (h0 : Heap) (v : Option Value) (h : Heap) (L : List Loc) : Prop := (∃ b : Addr, ∃ k : ClassId, v = some (.ref b) ∧ Fr Z.heap.size L ∧ Keep h0 h [a1] ∧ h0.size ≤ b ∧ Exa Z h a1 "java/util/ArrayList" ∧ Fld Z h a1 "java/util/ArrayList" "size" "I" (.int (0 : Int32)) ∧ Fld Z h a1 "java/util/ArrayList" "elementData" "[Ljava/lang/Object;" (.ref b) ∧ Fld Z h a1 "java/util/AbstractList" "modCount" "I" (.int mc) ∧ Arv Z h b k (.object "java/lang/Object") (10 : Int32) [.null, .null, .null, .null, .null, .null, .null, .null, .null, .null] .null ∧ Ovr Z k "java/lang/Object")
theorem ef_growI (m : MethodId) (x0 : Addr) : entryFrame m #[(.ref x0), (.int (1 : Int32))] 4 = mkF m 0 #[.val (.ref x0), .val (.int (1 : Int32)), .unset, .unset] [] := by first | (simp [entryFrame, mkF, argsToLocals, Value.category]; done) | rfl
set_option maxRecDepth 65536 in
set_option maxHeartbeats 40000000 in
theorem rm_growI (l : Launch) (Z : State) (a0 : Array Value) (hw : ∀ d ∈ tables_1, d.before a0 Z = true) {wd : Addr} {kd : ClassId} {ws0 : Addr} {ws1 : Addr} {ws2 : Addr} {wm : Addr} {km : ClassId} (oDE : Sta Z Z.heap "java/util/ArrayList" "DEFAULTCAPACITY_EMPTY_ELEMENTDATA" "[Ljava/lang/Object;" (.ref wd)) (oDV : Arv Z Z.heap wd kd (.object "java/lang/Object") (0 : Int32) [] .null) (oS0 : Sta Z Z.heap "com/example/slotsholmen/slotsholmen/schema/Section" "ATTRIBUTES" "Lcom/example/slotsholmen/slotsholmen/schema/Section;" (.ref ws0)) (oS1 : Sta Z Z.heap "com/example/slotsholmen/slotsholmen/schema/Section" "STATES" "Lcom/example/slotsholmen/slotsholmen/schema/Section;" (.ref ws1)) (oS2 : Sta Z Z.heap "com/example/slotsholmen/slotsholmen/schema/Section" "RELATIONS" "Lcom/example/slotsholmen/slotsholmen/schema/Section;" (.ref ws2)) (oSE0 : Exa Z Z.heap ws0 "com/example/slotsholmen/slotsholmen/schema/Section") (oSE1 : Exa Z Z.heap ws1 "com/example/slotsholmen/slotsholmen/schema/Section") (oSE2 : Exa Z Z.heap ws2 "com/example/slotsholmen/slotsholmen/schema/Section") (oSF0 : Fld Z Z.heap ws0 "java/lang/Enum" "ordinal" "I" (.int (0 : Int32))) (oSF1 : Fld Z Z.heap ws1 "java/lang/Enum" "ordinal" "I" (.int (1 : Int32))) (oSF2 : Fld Z Z.heap ws2 "java/lang/Enum" "ordinal" "I" (.int (2 : Int32))) (oSM : Sta Z Z.heap "com/example/slotsholmen/slotsholmen/schema/ObjectClass$1" "$SwitchMap$com$example$slotsholmen$slotsholmen$schema$Section" "[I" (.ref wm)) (oSV : Arv Z Z.heap wm km .int (3 : Int32) [(.int (1 : Int32)), (.int (2 : Int32)), (.int (3 : Int32))] (.int (0 : Int32))) (ws : List Jvm.Cond) (a1 : Addr) (mc : Int32) (h0 : Heap) (O0 : Ext Z.heap h0) (f_E_a1 : Exa Z h0 a1 "java/util/ArrayList") (f_F_a1_size : Fld Z h0 a1 "java/util/ArrayList" "size" "I" (.int (0 : Int32))) (f_F_a1_elementData : Fld Z h0 a1 "java/util/ArrayList" "elementData" "[Ljava/lang/Object;" (.ref wd)) (f_F_a1_modCount : Fld Z h0 a1 "java/util/AbstractList" "modCount" "I" (.int mc)) (big_a1 : Z.heap.size ≤ a1) :
    MetFree l (⟨"java/util/ArrayList", "grow", "(I)[Ljava/lang/Object;"⟩ : MethodName) (head1 (Jvm.Cond.code (⟨"java/util/ArrayList", "grow", "(I)[Ljava/lang/Object;"⟩ : MethodName) jdk_38_method_6_code 4 (some (.array (.object "java/lang/Object"))) :: ws) ({ frames := 1, cells := 1, slots := 10, locals := 14 } : Room)) (fun a U => a = #[(.ref a1), (.int (1 : Int32))] ∧ Z.Warmed39 U.vm ∧ U.heap = h0) (fun _ _ _ _ _ => True) (fun _ U o U' => ∃ v L, o = .returned v ∧ (Q_growI Z wd kd ws0 ws1 ws2 wm km a1 mc h0) v U'.heap L ∧ ReturnedEndW U o U' L ({ frames := 1, cells := 1, slots := 10, locals := 14 } : Room).cells ({ frames := 1, cells := 1, slots := 10, locals := 14 } : Room).slots) := by
  refine own_met (Q := (Q_growI Z wd kd ws0 ws1 ws2 wm km a1 mc h0)) _ _ (plainFor_of_name own_pn_2) ?_
  intro p e s vm0 m below meth c T X0 hS hx hby hml hret hlk hZ hown hnm e0
  replace hown : (s.setVm vm0).vm.findClass "java/util/ArrayList" = some m.cls := hown
  replace hnm : meth.name = "grow" := hnm
  have hml : c.maxLocals = 4 := hml
  have N0 := Fr.nil Z.heap.size
  have K0 := Keep.refl h0 [a1]
  refine own_go (fun _ k => castTop (ef_growI m a1) k) ?_
  show own_Go p e below s _ _ _ (T.setTop (mkF m 0 #[.val (.ref a1), .val (.int (1 : Int32)), .unset, .unset] []))
  refine own_go (fun _ k => XS.aloadN X0.here hx rfl (hb hby d10_0) rfl rfl k) ?_
  show own_Go p e below s _ _ _ (T.setTop (mkF m 1 #[.val (.ref a1), .val (.int (1 : Int32)), .unset, .unset] [(.ref a1)]))
  obtain ⟨T1, X1, e1, st1⟩ := getF X0 hx hZ hown (host := "") (Or.inl (hw _ (List.mem_of_getElem? (i := 36) rfl))) Via.refl e0 f_F_a1_elementData (g := (mkF m 1 #[.val (.ref a1), .val (.int (1 : Int32)), .unset, .unset] [(.ref a1)])) rfl rfl (hb hby d10_1)
  refine own_go st1 ?_
  show own_Go p e below s _ _ _ (T1.setTop (mkF m 4 #[.val (.ref a1), .val (.int (1 : Int32)), .unset, .unset] [(.ref wd)]))
  obtain ⟨cl2, Ar2, -, S2, M2, -, -⟩ := id (oDV.ext O0)
  refine own_go (X1.arraylength hx (by rw [e1]; exact Ar2.1) (State.isArrayOf_alike hZ.alike Ar2.2.1) (g := (mkF m 4 #[.val (.ref a1), .val (.int (1 : Int32)), .unset, .unset] [(.ref wd)])) rfl rfl (hb hby d10_4)) ?_
  rw [len_of S2 M2]
  show own_Go p e below s _ _ _ (T1.setTop (mkF m 5 #[.val (.ref a1), .val (.int (1 : Int32)), .unset, .unset] [(.int (0 : Int32))]))
  refine own_go (fun _ k => XS.istoreN X1.here hx rfl (hb hby d10_5) rfl (l' := #[.val (.ref a1), .val (.int (1 : Int32)), .val (.int (0 : Int32)), .unset]) rfl k) ?_
  show own_Go p e below s _ _ _ (T1.setTop (mkF m 6 #[.val (.ref a1), .val (.int (1 : Int32)), .val (.int (0 : Int32)), .unset] []))
  refine own_go (fun _ k => XS.iloadN X1.here hx rfl (hb hby d10_6) rfl k) ?_
  show own_Go p e below s _ _ _ (T1.setTop (mkF m 7 #[.val (.ref a1), .val (.int (1 : Int32)), .val (.int (0 : Int32)), .unset] [(.int (0 : Int32))]))
  refine own_go (fun _ k => XS.ifNo X1.here hx rfl (hb hby d10_7) rfl ((if0 _ _).trans (flt (by decide : ¬ ((0 : Int32) < (0 : Int32)))).2.2.1) k) ?_
  show own_Go p e below s _ _ _ (T1.setTop (mkF m 10 #[.val (.ref a1), .val (.int (1 : Int32)), .val (.int (0 : Int32)), .unset] []))
  refine own_go (fun _ k => XS.aloadN X1.here hx rfl (hb hby d10_10) rfl rfl k) ?_
  show own_Go p e below s _ _ _ (T1.setTop (mkF m 11 #[.val (.ref a1), .val (.int (1 : Int32)), .val (.int (0 : Int32)), .unset] [(.ref a1)]))
  obtain ⟨T3, X3, e3, st3⟩ := getF X1 hx hZ hown (host := "") (Or.inl (hw _ (List.mem_of_getElem? (i := 36) rfl))) Via.refl e1 f_F_a1_elementData (g := (mkF m 11 #[.val (.ref a1), .val (.int (1 : Int32)), .val (.int (0 : Int32)), .unset] [(.ref a1)])) rfl rfl (hb hby d10_11)
  refine own_go st3 ?_
  show own_Go p e below s _ _ _ (T3.setTop (mkF m 14 #[.val (.ref a1), .val (.int (1 : Int32)), .val (.int (0 : Int32)), .unset] [(.ref wd)]))
  obtain ⟨T4, X4, e4, st4⟩ := getS2 X3 hx hZ hown (host := "") (Or.inl (hw _ (List.mem_of_getElem? (i := 35) rfl))) Via.refl e3 (oDE.ext O0) (g := (mkF m 14 #[.val (.ref a1), .val (.int (1 : Int32)), .val (.int (0 : Int32)), .unset] [(.ref wd)])) rfl (hb hby d10_14)
  refine own_go st4 ?_
  show own_Go p e below s _ _ _ (T4.setTop (mkF m 17 #[.val (.ref a1), .val (.int (1 : Int32)), .val (.int (0 : Int32)), .unset] [(.ref wd), (.ref wd)]))
  refine own_go (fun _ k => Jvm.RoadKit.acmp (g := (mkF m 17 #[.val (.ref a1), .val (.int (1 : Int32)), .val (.int (0 : Int32)), .unset] [(.ref wd), (.ref wd)])) X4 hx rfl rfl rfl (pc0 := 17) (pc' := 45) (same := true) rfl (hb hby d10_17) rfl (decide_eq_true rfl) (by decide) (by decide) k) ?_
  show own_Go p e below s _ _ _ (T4.setTop (mkF m 45 #[.val (.ref a1), .val (.int (1 : Int32)), .val (.int (0 : Int32)), .unset] []))
  refine own_go (fun _ k => XS.aloadN X4.here hx rfl (hb hby d10_45) rfl rfl k) ?_
  show own_Go p e below s _ _ _ (T4.setTop (mkF m 46 #[.val (.ref a1), .val (.int (1 : Int32)), .val (.int (0 : Int32)), .unset] [(.ref a1)]))
  refine own_go (fun _ k => XS.bipush X4.here hx rfl (hb hby d10_46) k) ?_
  show own_Go p e below s _ _ _ (T4.setTop (mkF m 48 #[.val (.ref a1), .val (.int (1 : Int32)), .val (.int (0 : Int32)), .unset] [(.int (10 : Int32)), (.ref a1)]))
  refine own_go (fun _ k => XS.iloadN X4.here hx rfl (hb hby d10_48) rfl k) ?_
  show own_Go p e below s _ _ _ (T4.setTop (mkF m 49 #[.val (.ref a1), .val (.int (1 : Int32)), .val (.int (0 : Int32)), .unset] [(.int (1 : Int32)), (.int (10 : Int32)), (.ref a1)]))
  obtain ⟨v5, T5, L5, X5, hSn, hZn, hownn, hQ5, st5⟩ := own_callS (y := (⟨"java/lang/Math", "max", "(II)I"⟩ : MethodName)) X4 hS hx hZ hown (hw _ (List.mem_of_getElem? (i := 77) rfl)) (hw _ (List.mem_of_getElem? (i := 78) rfl)) (hw _ (List.mem_of_getElem? (i := 79) rfl)) (hw _ (List.mem_of_getElem? (i := 80) rfl)) (rm_maxi l Z a0 hw oDE oDV oS0 oS1 oS2 oSE0 oSE1 oSE2 oSF0 oSF1 oSF2 oSM oSV [] (10 : Int32) (1 : Int32) h0 O0) 1 0 0 rfl rfl (by decide) (by decide) (by decide) (by show _ ≤ 1; omega) (by show _ ≤ 10; omega) e4 (g := (mkF m 49 #[.val (.ref a1), .val (.int (1 : Int32)), .val (.int (0 : Int32)), .unset] [(.int (1 : Int32)), (.int (10 : Int32)), (.ref a1)])) rfl (by rw [hml]; rfl) [(.int (10 : Int32)), (.int (1 : Int32))] [(.ref a1)] (lenOf own_pd_1 rfl) rfl rfl (by show 2 * 0 + _ ≤ _; exact Nat.le_of_eq rfl) (hb hby d10_49)
  replace hS := hSn
  replace hZ := hZn
  replace hown := hownn
  clear hSn hZn hownn
  rcases hQ5 with hQ5 | hQ5
  · obtain ⟨rfl, Nc8, hp6, Kc7⟩ := hQ5
    refine own_go st5 ?_
    have N9 := Fr.app N0 Nc8
    exact absurd hp6 (by decide : ¬ ((10 : Int32) < (1 : Int32)))
  · obtain ⟨rfl, Nc12, hp10, Kc11⟩ := hQ5
    refine own_go st5 ?_
    have N13 := Fr.app N0 Nc12
    rw [Kc11] at hS
    show own_Go p e below s _ _ _ (T5.setTop (mkF m 52 #[.val (.ref a1), .val (.int (1 : Int32)), .val (.int (0 : Int32)), .unset] [(.int (10 : Int32)), (.ref a1)]))
    obtain ⟨T14, h14, k14, X14, e14, E14, A14, O14, st14⟩ := newR X5 hx hZ hown (hw _ (List.mem_of_getElem? (i := 81) rfl)) (hw _ (List.mem_of_getElem? (i := 82) rfl)) Kc11 (g := (mkF m 52 #[.val (.ref a1), .val (.int (1 : Int32)), .val (.int (0 : Int32)), .unset] [(.int (10 : Int32)), (.ref a1)])) rfl (hb hby d10_52) rfl (by decide) (cap := 10) (by decide) (by decide) (by show _ ≤ 1; omega) (by show _ ≤ 10; omega)
    obtain ⟨b14, g14⟩ : ∃ z, z = h0.size := ⟨_, rfl⟩
    rw [← g14] at A14 st14
    refine own_go st14 ?_
    have ge14 := Nat.le_of_eq g14.symm
    have ne15 : a1 ≠ b14 := Nat.ne_of_lt (Nat.lt_of_lt_of_le f_E_a1.lt ge14)
    have big16 : Z.heap.size ≤ b14 := Nat.le_trans O0.1 ge14
    have sz17 : h0.size ≤ b14 := Nat.le_trans K0.1 ge14
    have f18 : Exa Z h14 a1 "java/util/ArrayList" := f_E_a1.ext E14
    have f19 : Fld Z h14 a1 "java/util/ArrayList" "size" "I" (.int (0 : Int32)) := f_F_a1_size.ext E14
    have f20 : Fld Z h14 a1 "java/util/ArrayList" "elementData" "[Ljava/lang/Object;" (.ref wd) := f_F_a1_elementData.ext E14
    have f21 : Fld Z h14 a1 "java/util/AbstractList" "modCount" "I" (.int mc) := f_F_a1_modCount.ext E14
    have O22 := own_oldExt O0 E14
    replace hS := own_since hS E14.1
    have K23 := K0.ext E14
    have f24 : Arv Z h14 b14 k14 (.object "java/lang/Object") (10 : Int32) [.null, .null, .null, .null, .null, .null, .null, .null, .null, .null] .null := (Arv.new A14 (by decide)).pad (pad_rep [] .null 10)
    show own_Go p e below s _ _ _ (T14.setTop (mkF m 55 #[.val (.ref a1), .val (.int (1 : Int32)), .val (.int (0 : Int32)), .unset] [(.ref b14), (.ref a1)]))
    refine own_go (fun _ k => XS.dupX1 X14.here hx rfl (hb hby d10_55) rfl rfl rfl k) ?_
    show own_Go p e below s _ _ _ (T14.setTop (mkF m 56 #[.val (.ref a1), .val (.int (1 : Int32)), .val (.int (0 : Int32)), .unset] [(.ref b14), (.ref a1), (.ref b14)]))
    obtain ⟨T25, h25, X25, e25, W25, st25⟩ := putF X14 hx hZ hown (host := "") (Or.inl (hw _ (List.mem_of_getElem? (i := 36) rfl))) Via.refl e14 f20 f18 (Or.inl (hw _ (List.mem_of_getElem? (i := 37) rfl))) (hw _ (List.mem_of_getElem? (i := 13) rfl)) (ty := (.array (.object "java/lang/Object"))) (by decide) rfl rfl (g := (mkF m 56 #[.val (.ref a1), .val (.int (1 : Int32)), .val (.int (0 : Int32)), .unset] [(.ref b14), (.ref a1), (.ref b14)])) rfl rfl (hb hby d10_56)
    refine own_go st25 ?_
    have N26 := Fr.snoc X25 N13 big_a1
    have f27 : Exa Z h25 a1 "java/util/ArrayList" := f18.wr W25
    have f28 : Fld Z h25 a1 "java/util/ArrayList" "size" "I" (.int (0 : Int32)) := f19.other W25 (Or.inr (slot_ne (Or.inl (hw _ (List.mem_of_getElem? (i := 61) rfl))) (Or.inl (hw _ (List.mem_of_getElem? (i := 37) rfl))) (by decide) (t := .int) (t' := (.array (.object "java/lang/Object"))) (by decide) (by decide)))
    have f29 : Fld Z h25 a1 "java/util/ArrayList" "elementData" "[Ljava/lang/Object;" (.ref b14) := f20.same W25
    have f30 : Fld Z h25 a1 "java/util/AbstractList" "modCount" "I" (.int mc) := f21.other W25 (Or.inr (slot_ne (Or.inl (hw _ (List.mem_of_getElem? (i := 34) rfl))) (Or.inl (hw _ (List.mem_of_getElem? (i := 37) rfl))) (by decide) (t := .int) (t' := (.array (.object "java/lang/Object"))) (by decide) (by decide)))
    have f31 : Arv Z h25 b14 k14 (.object "java/lang/Object") (10 : Int32) [.null, .null, .null, .null, .null, .null, .null, .null, .null, .null] .null := f24.other W25 (Ne.symm ne15)
    have f32 : Ovr Z k14 "java/lang/Object" := O14
    have O33 := own_oldWr O22 W25 big_a1
    replace hS := own_since hS (Nat.le_of_eq W25.size.symm)
    have K34 : Keep h0 h25 [a1] := K23.wr W25 (Or.inl (List.mem_of_getElem? (i := 0) rfl))
    show own_Go p e below s _ _ _ (T25.setTop (mkF m 59 #[.val (.ref a1), .val (.int (1 : Int32)), .val (.int (0 : Int32)), .unset] [(.ref b14)]))
    refine own_retA X25 hS hx hlk e25 hret rfl rfl (hb hby d10_59) (by show _ ≤ 1; omega) (by show _ ≤ 10; omega) ?_
    exact ⟨b14, k14, rfl, N26, K34, sz17, f27, f28, f29, f30, f31, f32⟩
theorem d9_0 : decode jdk_38_method_7_code 0 = .ok (.aload_n 0, 1) := by decide +kernel
theorem d9_1 : decode jdk_38_method_7_code 1 = .ok (.aload_n 0, 1) := by decide +kernel
theorem d9_2 : decode jdk_38_method_7_code 2 = .ok (.getfield 48, 3) := by decide +kernel
theorem d9_5 : decode jdk_38_method_7_code 5 = .ok (.iconst 1, 1) := by decide +kernel
theorem d9_6 : decode jdk_38_method_7_code 6 = .ok (.iadd, 1) := by decide +kernel
theorem d9_7 : decode jdk_38_method_7_code 7 = .ok (.invokevirtual 69, 3) := by decide +kernel
theorem d9_10 : decode jdk_38_method_7_code 10 = .ok (.areturn, 1) := by decide +kernel
def Q_grow0 (Z : State) (wd : Addr) (kd : ClassId) (ws0 : Addr) (ws1 : Addr) (ws2 : Addr) (wm : Addr) (km : ClassId) (a1 : Addr) (mc : Int32) (h0 : Heap) (v : Option Value) (h : Heap) (L : List Loc) : Prop := (∃ b : Addr, ∃ k : ClassId, v = some (.ref b) ∧ Fr Z.heap.size L ∧ Keep h0 h [a1] ∧ h0.size ≤ b ∧ Exa Z h a1 "java/util/ArrayList" ∧ Fld Z h a1 "java/util/ArrayList" "size" "I" (.int (0 : Int32)) ∧ Fld Z h a1 "java/util/ArrayList" "elementData" "[Ljava/lang/Object;" (.ref b) ∧ Fld Z h a1 "java/util/AbstractList" "modCount" "I" (.int mc) ∧ Arv Z h b k (.object "java/lang/Object") (10 : Int32) [.null, .null, .null, .null, .null, .null, .null, .null, .null, .null] .null ∧ Ovr Z k "java/lang/Object")
theorem ef_grow0 (m : MethodId) (x0 : Addr) : entryFrame m #[(.ref x0)] 1 = mkF m 0 #[.val (.ref x0)] [] := by first | (simp [entryFrame, mkF, argsToLocals, Value.category]; done) | rfl
set_option maxRecDepth 65536 in
set_option maxHeartbeats 40000000 in
theorem rm_grow0 (l : Launch) (Z : State) (a0 : Array Value) (hw : ∀ d ∈ tables_1, d.before a0 Z = true) {wd : Addr} {kd : ClassId} {ws0 : Addr} {ws1 : Addr} {ws2 : Addr} {wm : Addr} {km : ClassId} (oDE : Sta Z Z.heap "java/util/ArrayList" "DEFAULTCAPACITY_EMPTY_ELEMENTDATA" "[Ljava/lang/Object;" (.ref wd)) (oDV : Arv Z Z.heap wd kd (.object "java/lang/Object") (0 : Int32) [] .null) (oS0 : Sta Z Z.heap "com/example/slotsholmen/slotsholmen/schema/Section" "ATTRIBUTES" "Lcom/example/slotsholmen/slotsholmen/schema/Section;" (.ref ws0)) (oS1 : Sta Z Z.heap "com/example/slotsholmen/slotsholmen/schema/Section" "STATES" "Lcom/example/slotsholmen/slotsholmen/schema/Section;" (.ref ws1)) (oS2 : Sta Z Z.heap "com/example/slotsholmen/slotsholmen/schema/Section" "RELATIONS" "Lcom/example/slotsholmen/slotsholmen/schema/Section;" (.ref ws2)) (oSE0 : Exa Z Z.heap ws0 "com/example/slotsholmen/slotsholmen/schema/Section") (oSE1 : Exa Z Z.heap ws1 "com/example/slotsholmen/slotsholmen/schema/Section") (oSE2 : Exa Z Z.heap ws2 "com/example/slotsholmen/slotsholmen/schema/Section") (oSF0 : Fld Z Z.heap ws0 "java/lang/Enum" "ordinal" "I" (.int (0 : Int32))) (oSF1 : Fld Z Z.heap ws1 "java/lang/Enum" "ordinal" "I" (.int (1 : Int32))) (oSF2 : Fld Z Z.heap ws2 "java/lang/Enum" "ordinal" "I" (.int (2 : Int32))) (oSM : Sta Z Z.heap "com/example/slotsholmen/slotsholmen/schema/ObjectClass$1" "$SwitchMap$com$example$slotsholmen$slotsholmen$schema$Section" "[I" (.ref wm)) (oSV : Arv Z Z.heap wm km .int (3 : Int32) [(.int (1 : Int32)), (.int (2 : Int32)), (.int (3 : Int32))] (.int (0 : Int32))) (ws : List Jvm.Cond) (a1 : Addr) (mc : Int32) (h0 : Heap) (O0 : Ext Z.heap h0) (f_E_a1 : Exa Z h0 a1 "java/util/ArrayList") (f_F_a1_size : Fld Z h0 a1 "java/util/ArrayList" "size" "I" (.int (0 : Int32))) (f_F_a1_elementData : Fld Z h0 a1 "java/util/ArrayList" "elementData" "[Ljava/lang/Object;" (.ref wd)) (f_F_a1_modCount : Fld Z h0 a1 "java/util/AbstractList" "modCount" "I" (.int mc)) (big_a1 : Z.heap.size ≤ a1) :
    MetFree l (⟨"java/util/ArrayList", "grow", "()[Ljava/lang/Object;"⟩ : MethodName) (head1 (Jvm.Cond.code (⟨"java/util/ArrayList", "grow", "()[Ljava/lang/Object;"⟩ : MethodName) jdk_38_method_7_code 1 (some (.array (.object "java/lang/Object"))) :: ws) ({ frames := 2, cells := 1, slots := 10, locals := 29 } : Room)) (fun a U => a = #[(.ref a1)] ∧ Z.Warmed39 U.vm ∧ U.heap = h0) (fun _ _ _ _ _ => True) (fun _ U o U' => ∃ v L, o = .returned v ∧ (Q_grow0 Z wd kd ws0 ws1 ws2 wm km a1 mc h0) v U'.heap L ∧ ReturnedEndW U o U' L ({ frames := 2, cells := 1, slots := 10, locals := 29 } : Room).cells ({ frames := 2, cells := 1, slots := 10, locals := 29 } : Room).slots) := by
  refine own_met (Q := (Q_grow0 Z wd kd ws0 ws1 ws2 wm km a1 mc h0)) _ _ (plainFor_of_name own_pn_2) ?_
  intro p e s vm0 m below meth c T X0 hS hx hby hml hret hlk hZ hown hnm e0
  replace hown : (s.setVm vm0).vm.findClass "java/util/ArrayList" = some m.cls := hown
  replace hnm : meth.name = "grow" := hnm
  have hml : c.maxLocals = 1 := hml
  have N0 := Fr.nil Z.heap.size
  have K0 := Keep.refl h0 [a1]
  refine own_go (fun _ k => castTop (ef_grow0 m a1) k) ?_
  show own_Go p e below s _ _ _ (T.setTop (mkF m 0 #[.val (.ref a1)] []))
  refine own_go (fun _ k => XS.aloadN X0.here hx rfl (hb hby d9_0) rfl rfl k) ?_
  show own_Go p e below s _ _ _ (T.setTop (mkF m 1 #[.val (.ref a1)] [(.ref a1)]))
  refine own_go (fun _ k => XS.aloadN X0.here hx rfl (hb hby d9_1) rfl rfl k) ?_
  show own_Go p e below s _ _ _ (T.setTop (mkF m 2 #[.val (.ref a1)] [(.ref a1), (.ref a1)]))
  obtain ⟨T1, X1, e1, st1⟩ := getF X0 hx hZ hown (host := "") (Or.inl (hw _ (List.mem_of_getElem? (i := 60) rfl))) Via.refl e0 f_F_a1_size (g := (mkF m 2 #[.val (.ref a1)] [(.ref a1), (.ref a1)])) rfl rfl (hb hby d9_2)
  refine own_go st1 ?_
  show own_Go p e below s _ _ _ (T1.setTop (mkF m 5 #[.val (.ref a1)] [(.int (0 : Int32)), (.ref a1)]))
  refine own_go (fun _ k => XS.iconst X1.here hx rfl (hb hby d9_5) k) ?_
  show own_Go p e below s _ _ _ (T1.setTop (mkF m 6 #[.val (.ref a1)] [(.int (1 : Int32)), (.int (0 : Int32)), (.ref a1)]))
  refine own_go (fun _ k => XS.iadd X1.here hx rfl (hb hby d9_6) rfl k) ?_
  show own_Go p e below s _ _ _ (T1.setTop (mkF m 7 #[.val (.ref a1)] [(.int (1 : Int32)), (.ref a1)]))
  obtain ⟨v2, T2, L2, X2, hSn, hZn, hownn, hQ2, st2⟩ := own_callP (y := (⟨"java/util/ArrayList", "grow", "(I)[Ljava/lang/Object;"⟩ : MethodName)) X1 hS hx hZ hown (hw _ (List.mem_of_getElem? (i := 72) rfl)) (hw _ (List.mem_of_getElem? (i := 73) rfl)) (hw _ (List.mem_of_getElem? (i := 75) rfl)) (hw _ (List.mem_of_getElem? (i := 74) rfl)) (hw _ (List.mem_of_getElem? (i := 14) rfl)) (hw _ (List.mem_of_getElem? (i := 76) rfl)) (rm_growI l Z a0 hw oDE oDV oS0 oS1 oS2 oSE0 oSE1 oSE2 oSF0 oSF1 oSF2 oSM oSV [] a1 mc h0 O0 f_E_a1 f_F_a1_size f_F_a1_elementData f_F_a1_modCount big_a1) 0 1 10 rfl rfl (by decide) (by decide) (by decide) (by show _ ≤ 1; omega) (by show _ ≤ 10; omega) e1 f_E_a1 (g := (mkF m 7 #[.val (.ref a1)] [(.int (1 : Int32)), (.ref a1)])) rfl (by rw [hml]; rfl) [(.int (1 : Int32))] [] (lenOf own_pd_2 rfl) rfl rfl (by show 2 * 0 + _ ≤ _; exact Nat.le_of_eq rfl) (hb hby d9_7)
  replace hS := hSn
  replace hZ := hZn
  replace hown := hownn
  clear hSn hZn hownn
  obtain ⟨w3, w4, rfl, Nc13, Kc12, hb5, f6, f7, f8, f9, f10, f11⟩ := hQ2
  refine own_go st2 ?_
  have N14 := Fr.app N0 Nc13
  have ne15 : a1 ≠ w3 := Nat.ne_of_lt (Nat.lt_of_lt_of_le f_E_a1.lt hb5)
  have big16 : Z.heap.size ≤ w3 := Nat.le_trans O0.1 hb5
  have sz17 : h0.size ≤ w3 := Nat.le_trans K0.1 hb5
  have f18 : Exa Z T2.heap a1 "java/util/ArrayList" := f_E_a1.keep Kc12
  have O22 := own_oldKeep O0 Kc12 (allS big_a1 all0)
  have K23 : Keep h0 T2.heap [a1] := K0.trans Kc12 (allS (Or.inl (List.mem_of_getElem? (i := 0) rfl)) all0)
  show own_Go p e below s _ _ _ (T2.setTop (mkF m 10 #[.val (.ref a1)] [(.ref w3)]))
  refine own_retA X2 hS hx hlk (rfl : T2.heap = T2.heap) hret rfl rfl (hb hby d9_10) (by show _ ≤ 1; omega) (by show _ ≤ 10; omega) ?_
  exact ⟨w3, w4, rfl, N14, K23, sz17, f6, f7, f8, f9, f10, f11⟩
theorem d8_0 : decode jdk_38_method_24_code 0 = .ok (.iload_n 3, 1) := by decide +kernel
theorem d8_1 : decode jdk_38_method_24_code 1 = .ok (.aload_n 2, 1) := by decide +kernel
theorem d8_2 : decode jdk_38_method_24_code 2 = .ok (.arraylength, 1) := by decide +kernel
theorem d8_3 : decode jdk_38_method_24_code 3 = .ok (.if_icmp .ne 8, 3) := by decide +kernel
theorem d8_6 : decode jdk_38_method_24_code 6 = .ok (.aload_n 0, 1) := by decide +kernel
theorem d8_7 : decode jdk_38_method_24_code 7 = .ok (.invokevirtual 129, 3) := by decide +kernel
theorem d8_10 : decode jdk_38_method_24_code 10 = .ok (.astore_n 2, 1) := by decide +kernel
theorem d8_11 : decode jdk_38_method_24_code 11 = .ok (.aload_n 2, 1) := by decide +kernel
theorem d8_12 : decode jdk_38_method_24_code 12 = .ok (.iload_n 3, 1) := by decide +kernel
theorem d8_13 : decode jdk_38_method_24_code 13 = .ok (.aload_n 1, 1) := by decide +kernel
theorem d8_14 : decode jdk_38_method_24_code 14 = .ok (.aastore, 1) := by decide +kernel
theorem d8_15 : decode jdk_38_method_24_code 15 = .ok (.aload_n 0, 1) := by decide +kernel
theorem d8_16 : decode jdk_38_method_24_code 16 = .ok (.iload_n 3, 1) := by decide +kernel
theorem d8_17 : decode jdk_38_method_24_code 17 = .ok (.iconst 1, 1) := by decide +kernel
theorem d8_18 : decode jdk_38_method_24_code 18 = .ok (.iadd, 1) := by decide +kernel
theorem d8_19 : decode jdk_38_method_24_code 19 = .ok (.putfield 48, 3) := by decide +kernel
theorem d8_22 : decode jdk_38_method_24_code 22 = .ok (.return_, 1) := by decide +kernel
def Q_add3_0 (Z : State) (wd : Addr) (kd : ClassId) (ws0 : Addr) (ws1 : Addr) (ws2 : Addr) (wm : Addr) (km : ClassId) (a1 : Addr) (a2 : Addr) (mc : Int32) (h0 : Heap) (v : Option Value) (h : Heap) (L : List Loc) : Prop := (∃ b : Addr, ∃ k : ClassId, v = none ∧ Fr Z.heap.size L ∧ Keep h0 h [a1] ∧ h0.size ≤ b ∧ Exa Z h a1 "java/util/ArrayList" ∧ Fld Z h a1 "java/util/ArrayList" "size" "I" (.int (1 : Int32)) ∧ Fld Z h a1 "java/util/ArrayList" "elementData" "[Ljava/lang/Object;" (.ref b) ∧ Fld Z h a1 "java/util/AbstractList" "modCount" "I" (.int mc) ∧ Arv Z h b k (.object "java/lang/Object") (10 : Int32) [(.ref a2), .null, .null, .null, .null, .null, .null, .null, .null, .null] .null ∧ Ovr Z k "java/lang/Object")
theorem ef_add3_0 (m : MethodId) (x0 : Addr) (x1 : Addr) (x2 : Addr) : entryFrame m #[(.ref x0), (.ref x1), (.ref x2), (.int (0 : Int32))] 4 = mkF m 0 #[.val (.ref x0), .val (.ref x1), .val (.ref x2), .val (.int (0 : Int32))] [] := by first | (simp [entryFrame, mkF, argsToLocals, Value.category]; done) | rfl
set_option maxRecDepth 65536 in
set_option maxHeartbeats 40000000 in
theorem rm_add3_0 (l : Launch) (Z : State) (a0 : Array Value) (hw : ∀ d ∈ tables_1, d.before a0 Z = true) {wd : Addr} {kd : ClassId} {ws0 : Addr} {ws1 : Addr} {ws2 : Addr} {wm : Addr} {km : ClassId} (oDE : Sta Z Z.heap "java/util/ArrayList" "DEFAULTCAPACITY_EMPTY_ELEMENTDATA" "[Ljava/lang/Object;" (.ref wd)) (oDV : Arv Z Z.heap wd kd (.object "java/lang/Object") (0 : Int32) [] .null) (oS0 : Sta Z Z.heap "com/example/slotsholmen/slotsholmen/schema/Section" "ATTRIBUTES" "Lcom/example/slotsholmen/slotsholmen/schema/Section;" (.ref ws0)) (oS1 : Sta Z Z.heap "com/example/slotsholmen/slotsholmen/schema/Section" "STATES" "Lcom/example/slotsholmen/slotsholmen/schema/Section;" (.ref ws1)) (oS2 : Sta Z Z.heap "com/example/slotsholmen/slotsholmen/schema/Section" "RELATIONS" "Lcom/example/slotsholmen/slotsholmen/schema/Section;" (.ref ws2)) (oSE0 : Exa Z Z.heap ws0 "com/example/slotsholmen/slotsholmen/schema/Section") (oSE1 : Exa Z Z.heap ws1 "com/example/slotsholmen/slotsholmen/schema/Section") (oSE2 : Exa Z Z.heap ws2 "com/example/slotsholmen/slotsholmen/schema/Section") (oSF0 : Fld Z Z.heap ws0 "java/lang/Enum" "ordinal" "I" (.int (0 : Int32))) (oSF1 : Fld Z Z.heap ws1 "java/lang/Enum" "ordinal" "I" (.int (1 : Int32))) (oSF2 : Fld Z Z.heap ws2 "java/lang/Enum" "ordinal" "I" (.int (2 : Int32))) (oSM : Sta Z Z.heap "com/example/slotsholmen/slotsholmen/schema/ObjectClass$1" "$SwitchMap$com$example$slotsholmen$slotsholmen$schema$Section" "[I" (.ref wm)) (oSV : Arv Z Z.heap wm km .int (3 : Int32) [(.int (1 : Int32)), (.int (2 : Int32)), (.int (3 : Int32))] (.int (0 : Int32))) (ws : List Jvm.Cond) (a1 : Addr) (a2 : Addr) (mc : Int32) (h0 : Heap) (O0 : Ext Z.heap h0) (f_E_a1 : Exa Z h0 a1 "java/util/ArrayList") (f_F_a1_size : Fld Z h0 a1 "java/util/ArrayList" "size" "I" (.int (0 : Int32))) (f_F_a1_elementData : Fld Z h0 a1 "java/util/ArrayList" "elementData" "[Ljava/lang/Object;" (.ref wd)) (f_F_a1_modCount : Fld Z h0 a1 "java/util/AbstractList" "modCount" "I" (.int mc)) (f_I_a2_java_lang_Object : Ins Z h0 a2 "java/lang/Object" true) (big_a1 : Z.heap.size ≤ a1) :
    MetFree l (⟨"java/util/ArrayList", "add", "(Ljava/lang/Object;[Ljava/lang/Object;I)V"⟩ : MethodName) (head1 (Jvm.Cond.code (⟨"java/util/ArrayList", "add", "(Ljava/lang/Object;[Ljava/lang/Object;I)V"⟩ : MethodName) jdk_38_method_24_code 4 none :: ws) ({ frames := 3, cells := 1, slots := 10, locals := 41 } : Room)) (fun a U => a = #[(.ref a1), (.ref a2), (.ref wd), (.int (0 : Int32))] ∧ Z.Warmed39 U.vm ∧ U.heap = h0) (fun _ _ _ _ _ => True) (fun _ U o U' => ∃ v L, o = .returned v ∧ (Q_add3_0 Z wd kd ws0 ws1 ws2 wm km a1 a2 mc h0) v U'.heap L ∧ ReturnedEndW U o U' L ({ frames := 3, cells := 1, slots := 10, locals := 41 } : Room).cells ({ frames := 3, cells := 1, slots := 10, locals := 41 } : Room).slots) := by
  refine own_met (Q := (Q_add3_0 Z wd kd ws0 ws1 ws2 wm km a1 a2 mc h0)) _ _ (plainFor_of_name own_pn_2) ?_
  intro p e s vm0 m below meth c T X0 hS hx hby hml hret hlk hZ hown hnm e0
  replace hown : (s.setVm vm0).vm.findClass "java/util/ArrayList" = some m.cls := hown
  replace hnm : meth.name = "add" := hnm
  have hml : c.maxLocals = 4 := hml
  have N0 := Fr.nil Z.heap.size
  have K0 := Keep.refl h0 [a1]
  refine own_go (fun _ k => castTop (ef_add3_0 m a1 a2 wd) k) ?_
  show own_Go p e below s _ _ _ (T.setTop (mkF m 0 #[.val (.ref a1), .val (.ref a2), .val (.ref wd), .val (.int (0 : Int32))] []))
  refine own_go (fun _ k => XS.iloadN X0.here hx rfl (hb hby d8_0) rfl k) ?_
  show own_Go p e below s _ _ _ (T.setTop (mkF m 1 #[.val (.ref a1), .val (.ref a2), .val (.ref wd), .val (.int (0 : Int32))] [(.int (0 : Int32))]))
  refine own_go (fun _ k => XS.aloadN X0.here hx rfl (hb hby d8_1) rfl rfl k) ?_
  show own_Go p e below s _ _ _ (T.setTop (mkF m 2 #[.val (.ref a1), .val (.ref a2), .val (.ref wd), .val (.int (0 : Int32))] [(.ref wd), (.int (0 : Int32))]))
  obtain ⟨cl1, Ar1, -, S1, M1, -, -⟩ := id (oDV.ext O0)
  refine own_go (X0.arraylength hx (by rw [e0]; exact Ar1.1) (State.isArrayOf_alike hZ.alike Ar1.2.1) (g := (mkF m 2 #[.val (.ref a1), .val (.ref a2), .val (.ref wd), .val (.int (0 : Int32))] [(.ref wd), (.int (0 : Int32))])) rfl rfl (hb hby d8_2)) ?_
  rw [len_of S1 M1]
  show own_Go p e below s _ _ _ (T.setTop (mkF m 3 #[.val (.ref a1), .val (.ref a2), .val (.ref wd), .val (.int (0 : Int32))] [(.int (0 : Int32)), (.int (0 : Int32))]))
  refine own_go (fun _ k => XS.icmpNo X0.here hx rfl (hb hby d8_3) rfl (teq (by decide : (0 : Int32) = (0 : Int32))).2 k) ?_
  show own_Go p e below s _ _ _ (T.setTop (mkF m 6 #[.val (.ref a1), .val (.ref a2), .val (.ref wd), .val (.int (0 : Int32))] []))
  refine own_go (fun _ k => XS.aloadN X0.here hx rfl (hb hby d8_6) rfl rfl k) ?_
  show own_Go p e below s _ _ _ (T.setTop (mkF m 7 #[.val (.ref a1), .val (.ref a2), .val (.ref wd), .val (.int (0 : Int32))] [(.ref a1)]))
  obtain ⟨v2, T2, L2, X2, hSn, hZn, hownn, hQ2, st2⟩ := own_callP (y := (⟨"java/util/ArrayList", "grow", "()[Ljava/lang/Object;"⟩ : MethodName)) X0 hS hx hZ hown (hw _ (List.mem_of_getElem? (i := 67) rfl)) (hw _ (List.mem_of_getElem? (i := 68) rfl)) (hw _ (List.mem_of_getElem? (i := 70) rfl)) (hw _ (List.mem_of_getElem? (i := 69) rfl)) (hw _ (List.mem_of_getElem? (i := 14) rfl)) (hw _ (List.mem_of_getElem? (i := 71) rfl)) (rm_grow0 l Z a0 hw oDE oDV oS0 oS1 oS2 oSE0 oSE1 oSE2 oSF0 oSF1 oSF2 oSM oSV [] a1 mc h0 O0 f_E_a1 f_F_a1_size f_F_a1_elementData f_F_a1_modCount big_a1) 0 1 10 rfl rfl (by decide) (by decide) (by decide) (by show _ ≤ 1; omega) (by show _ ≤ 10; omega) e0 f_E_a1 (g := (mkF m 7 #[.val (.ref a1), .val (.ref a2), .val (.ref wd), .val (.int (0 : Int32))] [(.ref a1)])) rfl (by rw [hml]; rfl) [] [] (lenOf own_pd_3 rfl) rfl rfl (by show 2 * 0 + _ ≤ _; exact Nat.le_of_eq rfl) (hb hby d8_7)
  replace hS := hSn
  replace hZ := hZn
  replace hown := hownn
  clear hSn hZn hownn
  obtain ⟨w3, w4, rfl, Nc13, Kc12, hb5, f6, f7, f8, f9, f10, f11⟩ := hQ2
  refine own_go st2 ?_
  have N14 := Fr.app N0 Nc13
  have ne15 : a1 ≠ w3 := Nat.ne_of_lt (Nat.lt_of_lt_of_le f_E_a1.lt hb5)
  have big16 : Z.heap.size ≤ w3 := Nat.le_trans O0.1 hb5
  have sz17 : h0.size ≤ w3 := Nat.le_trans K0.1 hb5
  have f18 : Exa Z T2.heap a1 "java/util/ArrayList" := f_E_a1.keep Kc12
  have f22 : Ins Z T2.heap a2 "java/lang/Object" true := own_insKeep f_I_a2_java_lang_Object Kc12
  have O23 := own_oldKeep O0 Kc12 (allS big_a1 all0)
  have K24 : Keep h0 T2.heap [a1] := K0.trans Kc12 (allS (Or.inl (List.mem_of_getElem? (i := 0) rfl)) all0)
  show own_Go p e below s _ _ _ (T2.setTop (mkF m 10 #[.val (.ref a1), .val (.ref a2), .val (.ref wd), .val (.int (0 : Int32))] [(.ref w3)]))
  refine own_go (fun _ k => XS.astoreN X2.here hx rfl (hb hby d8_10) rfl rfl (l' := #[.val (.ref a1), .val (.ref a2), .val (.ref w3), .val (.int (0 : Int32))]) rfl k) ?_
  show own_Go p e below s _ _ _ (T2.setTop (mkF m 11 #[.val (.ref a1), .val (.ref a2), .val (.ref w3), .val (.int (0 : Int32))] []))
  refine own_go (fun _ k => XS.aloadN X2.here hx rfl (hb hby d8_11) rfl rfl k) ?_
  show own_Go p e below s _ _ _ (T2.setTop (mkF m 12 #[.val (.ref a1), .val (.ref a2), .val (.ref w3), .val (.int (0 : Int32))] [(.ref w3)]))
  refine own_go (fun _ k => XS.iloadN X2.here hx rfl (hb hby d8_12) rfl k) ?_
  show own_Go p e below s _ _ _ (T2.setTop (mkF m 13 #[.val (.ref a1), .val (.ref a2), .val (.ref w3), .val (.int (0 : Int32))] [(.int (0 : Int32)), (.ref w3)]))
  refine own_go (fun _ k => XS.aloadN X2.here hx rfl (hb hby d8_13) rfl rfl k) ?_
  show own_Go p e below s _ _ _ (T2.setTop (mkF m 14 #[.val (.ref a1), .val (.ref a2), .val (.ref w3), .val (.int (0 : Int32))] [(.ref a2), (.int (0 : Int32)), (.ref w3)]))
  obtain ⟨cl25, Ar25, q25, S25, M25, P25, G25⟩ := f10
  have hin25 : ¬ ((0 : Int32) < 0 ∨ cl25.slots.size ≤ ((0 : Int32)).toNatClampNeg) := inb_of S25 ⟨by decide, by decide⟩
  obtain ⟨T26, h26, X26, e26, W26, st26⟩ := stR X2 hx hZ (rfl : T2.heap = T2.heap) Ar25 (j := (0 : Int32)) hin25 rfl (Sto.ofV Ar25 q25 f11 f22) (g := (mkF m 14 #[.val (.ref a1), .val (.ref a2), .val (.ref w3), .val (.int (0 : Int32))] [(.ref a2), (.int (0 : Int32)), (.ref w3)])) rfl rfl (hb hby d8_14)
  refine own_go st26 ?_
  have f27 : Arv Z h26 w3 w4 (.object "java/lang/Object") (10 : Int32) [(.ref a2), .null, .null, .null, .null, .null, .null, .null, .null, .null] .null := Arv.set Ar25 q25 S25 M25 P25 G25 rfl W26 0 rfl (Nat.le_of_ble_eq_true rfl)
  have N28 := Fr.snoc X26 N14 big16
  have f29 : Exa Z h26 a1 "java/util/ArrayList" := f6.wr W26
  have f30 : Ins Z h26 a2 "java/lang/Object" true := f22.wr W26
  have f31 : Fld Z h26 a1 "java/util/ArrayList" "size" "I" (.int (0 : Int32)) := f7.other W26 (Or.inl ne15)
  have f32 : Fld Z h26 a1 "java/util/ArrayList" "elementData" "[Ljava/lang/Object;" (.ref w3) := f8.other W26 (Or.inl ne15)
  have f33 : Fld Z h26 a1 "java/util/AbstractList" "modCount" "I" (.int mc) := f9.other W26 (Or.inl ne15)
  have f35 : Ovr Z w4 "java/lang/Object" := f11
  have O36 := own_oldWr O23 W26 big16
  replace hS := own_since hS (Nat.le_of_eq W26.size.symm)
  have K37 : Keep h0 h26 [a1] := K24.wr W26 (Or.inr sz17)
  show own_Go p e below s _ _ _ (T26.setTop (mkF m 15 #[.val (.ref a1), .val (.ref a2), .val (.ref w3), .val (.int (0 : Int32))] []))
  refine own_go (fun _ k => XS.aloadN X26.here hx rfl (hb hby d8_15) rfl rfl k) ?_
  show own_Go p e below s _ _ _ (T26.setTop (mkF m 16 #[.val (.ref a1), .val (.ref a2), .val (.ref w3), .val (.int (0 : Int32))] [(.ref a1)]))
  refine own_go (fun _ k => XS.iloadN X26.here hx rfl (hb hby d8_16) rfl k) ?_
  show own_Go p e below s _ _ _ (T26.setTop (mkF m 17 #[.val (.ref a1), .val (.ref a2), .val (.ref w3), .val (.int (0 : Int32))] [(.int (0 : Int32)), (.ref a1)]))
  refine own_go (fun _ k => XS.iconst X26.here hx rfl (hb hby d8_17) k) ?_
  show own_Go p e below s _ _ _ (T26.setTop (mkF m 18 #[.val (.ref a1), .val (.ref a2), .val (.ref w3), .val (.int (0 : Int32))] [(.int (1 : Int32)), (.int (0 : Int32)), (.ref a1)]))
  refine own_go (fun _ k => XS.iadd X26.here hx rfl (hb hby d8_18) rfl k) ?_
  show own_Go p e below s _ _ _ (T26.setTop (mkF m 19 #[.val (.ref a1), .val (.ref a2), .val (.ref w3), .val (.int (0 : Int32))] [(.int (1 : Int32)), (.ref a1)]))
  obtain ⟨T38, h38, X38, e38, W38, st38⟩ := putF X26 hx hZ hown (host := "") (Or.inl (hw _ (List.mem_of_getElem? (i := 60) rfl))) Via.refl e26 f31 f29 (Or.inl (hw _ (List.mem_of_getElem? (i := 61) rfl))) (hw _ (List.mem_of_getElem? (i := 13) rfl)) (ty := .int) (by decide) rfl rfl (g := (mkF m 19 #[.val (.ref a1), .val (.ref a2), .val (.ref w3), .val (.int (0 : Int32))] [(.int (1 : Int32)), (.ref a1)])) rfl rfl (hb hby d8_19)
  refine own_go st38 ?_
  have N39 := Fr.snoc X38 N28 big_a1
  have f40 : Exa Z h38 a1 "java/util/ArrayList" := f29.wr W38
  have f41 : Ins Z h38 a2 "java/lang/Object" true := f30.wr W38
  have f42 : Fld Z h38 a1 "java/util/ArrayList" "size" "I" (.int (1 : Int32)) := f31.same W38
  have f43 : Fld Z h38 a1 "java/util/ArrayList" "elementData" "[Ljava/lang/Object;" (.ref w3) := f32.other W38 (Or.inr (slot_ne (Or.inl (hw _ (List.mem_of_getElem? (i := 37) rfl))) (Or.inl (hw _ (List.mem_of_getElem? (i := 61) rfl))) (by decide) (t := (.array (.object "java/lang/Object"))) (t' := .int) (by decide) (by decide)))
  have f44 : Fld Z h38 a1 "java/util/AbstractList" "modCount" "I" (.int mc) := f33.other W38 (Or.inr (slot_ne (Or.inl (hw _ (List.mem_of_getElem? (i := 34) rfl))) (Or.inl (hw _ (List.mem_of_getElem? (i := 61) rfl))) (by decide) (t := .int) (t' := .int) (by decide) (by decide)))
  have f45 : Ovr Z w4 "java/lang/Object" := f35
  have f46 : Arv Z h38 w3 w4 (.object "java/lang/Object") (10 : Int32) [(.ref a2), .null, .null, .null, .null, .null, .null, .null, .null, .null] .null := f27.other W38 (Ne.symm ne15)
  have O47 := own_oldWr O36 W38 big_a1
  replace hS := own_since hS (Nat.le_of_eq W38.size.symm)
  have K48 : Keep h0 h38 [a1] := K37.wr W38 (Or.inl (List.mem_of_getElem? (i := 0) rfl))
  show own_Go p e below s _ _ _ (T38.setTop (mkF m 22 #[.val (.ref a1), .val (.ref a2), .val (.ref w3), .val (.int (0 : Int32))] []))
  refine own_retV X38 hS hx hlk e38 hret (hb hby d8_22) (by show _ ≤ 1; omega) (by show _ ≤ 10; omega) ?_
  exact ⟨w3, w4, rfl, N39, K48, sz17, f40, f42, f43, f44, f46, f45⟩
theorem d7_0 : decode jdk_38_method_25_code 0 = .ok (.aload_n 0, 1) := by decide +kernel
theorem d7_1 : decode jdk_38_method_25_code 1 = .ok (.dup, 1) := by decide +kernel
theorem d7_2 : decode jdk_38_method_25_code 2 = .ok (.getfield 63, 3) := by decide +kernel
theorem d7_5 : decode jdk_38_method_25_code 5 = .ok (.iconst 1, 1) := by decide +kernel
theorem d7_6 : decode jdk_38_method_25_code 6 = .ok (.iadd, 1) := by decide +kernel
theorem d7_7 : decode jdk_38_method_25_code 7 = .ok (.putfield 63, 3) := by decide +kernel
theorem d7_10 : decode jdk_38_method_25_code 10 = .ok (.aload_n 0, 1) := by decide +kernel
theorem d7_11 : decode jdk_38_method_25_code 11 = .ok (.aload_n 1, 1) := by decide +kernel
theorem d7_12 : decode jdk_38_method_25_code 12 = .ok (.aload_n 0, 1) := by decide +kernel
theorem d7_13 : decode jdk_38_method_25_code 13 = .ok (.getfield 9, 3) := by decide +kernel
theorem d7_16 : decode jdk_38_method_25_code 16 = .ok (.aload_n 0, 1) := by decide +kernel
theorem d7_17 : decode jdk_38_method_25_code 17 = .ok (.getfield 48, 3) := by decide +kernel
theorem d7_20 : decode jdk_38_method_25_code 20 = .ok (.invokevirtual 131, 3) := by decide +kernel
theorem d7_23 : decode jdk_38_method_25_code 23 = .ok (.iconst 1, 1) := by decide +kernel
theorem d7_24 : decode jdk_38_method_25_code 24 = .ok (.ireturn, 1) := by decide +kernel
def Q_add1_0 (Z : State) (wd : Addr) (kd : ClassId) (ws0 : Addr) (ws1 : Addr) (ws2 : Addr) (wm : Addr) (km : ClassId) (a1 : Addr) (a2 : Addr) (mc : Int32) (h0 : Heap) (v : Option Value) (h : Heap) (L : List Loc) : Prop := (∃ b : Addr, ∃ k : ClassId, v = some (.int (1 : Int32)) ∧ Fr Z.heap.size L ∧ Keep h0 h [a1] ∧ h0.size ≤ b ∧ Exa Z h a1 "java/util/ArrayList" ∧ Fld Z h a1 "java/util/ArrayList" "size" "I" (.int (1 : Int32)) ∧ Fld Z h a1 "java/util/ArrayList" "elementData" "[Ljava/lang/Object;" (.ref b) ∧ Fld Z h a1 "java/util/AbstractList" "modCount" "I" (.int (mc + (1 : Int32))) ∧ Arv Z h b k (.object "java/lang/Object") (10 : Int32) [(.ref a2), .null, .null, .null, .null, .null, .null, .null, .null, .null] .null ∧ Ovr Z k "java/lang/Object")
theorem ef_add1_0 (m : MethodId) (x0 : Addr) (x1 : Addr) : entryFrame m #[(.ref x0), (.ref x1)] 2 = mkF m 0 #[.val (.ref x0), .val (.ref x1)] [] := by first | (simp [entryFrame, mkF, argsToLocals, Value.category]; done) | rfl
set_option maxRecDepth 65536 in
set_option maxHeartbeats 40000000 in
theorem rm_add1_0 (l : Launch) (Z : State) (a0 : Array Value) (hw : ∀ d ∈ tables_1, d.before a0 Z = true) {wd : Addr} {kd : ClassId} {ws0 : Addr} {ws1 : Addr} {ws2 : Addr} {wm : Addr} {km : ClassId} (oDE : Sta Z Z.heap "java/util/ArrayList" "DEFAULTCAPACITY_EMPTY_ELEMENTDATA" "[Ljava/lang/Object;" (.ref wd)) (oDV : Arv Z Z.heap wd kd (.object "java/lang/Object") (0 : Int32) [] .null) (oS0 : Sta Z Z.heap "com/example/slotsholmen/slotsholmen/schema/Section" "ATTRIBUTES" "Lcom/example/slotsholmen/slotsholmen/schema/Section;" (.ref ws0)) (oS1 : Sta Z Z.heap "com/example/slotsholmen/slotsholmen/schema/Section" "STATES" "Lcom/example/slotsholmen/slotsholmen/schema/Section;" (.ref ws1)) (oS2 : Sta Z Z.heap "com/example/slotsholmen/slotsholmen/schema/Section" "RELATIONS" "Lcom/example/slotsholmen/slotsholmen/schema/Section;" (.ref ws2)) (oSE0 : Exa Z Z.heap ws0 "com/example/slotsholmen/slotsholmen/schema/Section") (oSE1 : Exa Z Z.heap ws1 "com/example/slotsholmen/slotsholmen/schema/Section") (oSE2 : Exa Z Z.heap ws2 "com/example/slotsholmen/slotsholmen/schema/Section") (oSF0 : Fld Z Z.heap ws0 "java/lang/Enum" "ordinal" "I" (.int (0 : Int32))) (oSF1 : Fld Z Z.heap ws1 "java/lang/Enum" "ordinal" "I" (.int (1 : Int32))) (oSF2 : Fld Z Z.heap ws2 "java/lang/Enum" "ordinal" "I" (.int (2 : Int32))) (oSM : Sta Z Z.heap "com/example/slotsholmen/slotsholmen/schema/ObjectClass$1" "$SwitchMap$com$example$slotsholmen$slotsholmen$schema$Section" "[I" (.ref wm)) (oSV : Arv Z Z.heap wm km .int (3 : Int32) [(.int (1 : Int32)), (.int (2 : Int32)), (.int (3 : Int32))] (.int (0 : Int32))) (ws : List Jvm.Cond) (a1 : Addr) (a2 : Addr) (mc : Int32) (h0 : Heap) (O0 : Ext Z.heap h0) (f_E_a1 : Exa Z h0 a1 "java/util/ArrayList") (f_F_a1_size : Fld Z h0 a1 "java/util/ArrayList" "size" "I" (.int (0 : Int32))) (f_F_a1_elementData : Fld Z h0 a1 "java/util/ArrayList" "elementData" "[Ljava/lang/Object;" (.ref wd)) (f_F_a1_modCount : Fld Z h0 a1 "java/util/AbstractList" "modCount" "I" (.int mc)) (f_I_a2_java_lang_Object : Ins Z h0 a2 "java/lang/Object" true) (big_a1 : Z.heap.size ≤ a1) :
    MetFree l (⟨"java/util/ArrayList", "add", "(Ljava/lang/Object;)Z"⟩ : MethodName) (head1 (Jvm.Cond.code (⟨"java/util/ArrayList", "add", "(Ljava/lang/Object;)Z"⟩ : MethodName) jdk_38_method_25_code 2 (some .boolean) :: ws) ({ frames := 4, cells := 1, slots := 10, locals := 56 } : Room)) (fun a U => a = #[(.ref a1), (.ref a2)] ∧ Z.Warmed39 U.vm ∧ U.heap = h0) (fun _ _ _ _ _ => True) (fun _ U o U' => ∃ v L, o = .returned v ∧ (Q_add1_0 Z wd kd ws0 ws1 ws2 wm km a1 a2 mc h0) v U'.heap L ∧ ReturnedEndW U o U' L ({ frames := 4, cells := 1, slots := 10, locals := 56 } : Room).cells ({ frames := 4, cells := 1, slots := 10, locals := 56 } : Room).slots) := by
  refine own_met (Q := (Q_add1_0 Z wd kd ws0 ws1 ws2 wm km a1 a2 mc h0)) _ _ (plainFor_of_name own_pn_2) ?_
  intro p e s vm0 m below meth c T X0 hS hx hby hml hret hlk hZ hown hnm e0
  replace hown : (s.setVm vm0).vm.findClass "java/util/ArrayList" = some m.cls := hown
  replace hnm : meth.name = "add" := hnm
  have hml : c.maxLocals = 2 := hml
  have N0 := Fr.nil Z.heap.size
  have K0 := Keep.refl h0 [a1]
  refine own_go (fun _ k => castTop (ef_add1_0 m a1 a2) k) ?_
  show own_Go p e below s _ _ _ (T.setTop (mkF m 0 #[.val (.ref a1), .val (.ref a2)] []))
  refine own_go (fun _ k => XS.aloadN X0.here hx rfl (hb hby d7_0) rfl rfl k) ?_
  show own_Go p e below s _ _ _ (T.setTop (mkF m 1 #[.val (.ref a1), .val (.ref a2)] [(.ref a1)]))
  refine own_go (fun _ k => XS.dup X0.here hx rfl (hb hby d7_1) rfl rfl k) ?_
  show own_Go p e below s _ _ _ (T.setTop (mkF m 2 #[.val (.ref a1), .val (.ref a2)] [(.ref a1), (.ref a1)]))
  obtain ⟨T1, X1, e1, st1⟩ := getF X0 hx hZ hown (host := "") (Or.inl (hw _ (List.mem_of_getElem? (i := 58) rfl))) (Via.of (hw _ (List.mem_of_getElem? (i := 59) rfl))) e0 f_F_a1_modCount (g := (mkF m 2 #[.val (.ref a1), .val (.ref a2)] [(.ref a1), (.ref a1)])) rfl rfl (hb hby d7_2)
  refine own_go st1 ?_
  show own_Go p e below s _ _ _ (T1.setTop (mkF m 5 #[.val (.ref a1), .val (.ref a2)] [(.int mc), (.ref a1)]))
  refine own_go (fun _ k => XS.iconst X1.here hx rfl (hb hby d7_5) k) ?_
  show own_Go p e below s _ _ _ (T1.setTop (mkF m 6 #[.val (.ref a1), .val (.ref a2)] [(.int (1 : Int32)), (.int mc), (.ref a1)]))
  refine own_go (fun _ k => XS.iadd X1.here hx rfl (hb hby d7_6) rfl k) ?_
  show own_Go p e below s _ _ _ (T1.setTop (mkF m 7 #[.val (.ref a1), .val (.ref a2)] [(.int (mc + (1 : Int32))), (.ref a1)]))
  obtain ⟨T2, h2, X2, e2, W2, st2⟩ := putF X1 hx hZ hown (host := "") (Or.inl (hw _ (List.mem_of_getElem? (i := 58) rfl))) (Via.of (hw _ (List.mem_of_getElem? (i := 59) rfl))) e1 f_F_a1_modCount f_E_a1 (Or.inl (hw _ (List.mem_of_getElem? (i := 34) rfl))) (hw _ (List.mem_of_getElem? (i := 13) rfl)) (ty := .int) (by decide) rfl rfl (g := (mkF m 7 #[.val (.ref a1), .val (.ref a2)] [(.int (mc + (1 : Int32))), (.ref a1)])) rfl rfl (hb hby d7_7)
  refine own_go st2 ?_
  have N3 := Fr.snoc X2 N0 big_a1
  have f4 : Exa Z h2 a1 "java/util/ArrayList" := f_E_a1.wr W2
  have f5 : Fld Z h2 a1 "java/util/ArrayList" "size" "I" (.int (0 : Int32)) := f_F_a1_size.other W2 (Or.inr (slot_ne (Or.inl (hw _ (List.mem_of_getElem? (i := 61) rfl))) (Or.inl (hw _ (List.mem_of_getElem? (i := 34) rfl))) (by decide) (t := .int) (t' := .int) (by decide) (by decide)))
  have f6 : Fld Z h2 a1 "java/util/ArrayList" "elementData" "[Ljava/lang/Object;" (.ref wd) := f_F_a1_elementData.other W2 (Or.inr (slot_ne (Or.inl (hw _ (List.mem_of_getElem? (i := 37) rfl))) (Or.inl (hw _ (List.mem_of_getElem? (i := 34) rfl))) (by decide) (t := (.array (.object "java/lang/Object"))) (t' := .int) (by decide) (by decide)))
  have f7 : Fld Z h2 a1 "java/util/AbstractList" "modCount" "I" (.int (mc + (1 : Int32))) := f_F_a1_modCount.same W2
  have f8 : Ins Z h2 a2 "java/lang/Object" true := f_I_a2_java_lang_Object.wr W2
  have O9 := own_oldWr O0 W2 big_a1
  replace hS := own_since hS (Nat.le_of_eq W2.size.symm)
  have K10 : Keep h0 h2 [a1] := K0.wr W2 (Or.inl (List.mem_of_getElem? (i := 0) rfl))
  show own_Go p e below s _ _ _ (T2.setTop (mkF m 10 #[.val (.ref a1), .val (.ref a2)] []))
  refine own_go (fun _ k => XS.aloadN X2.here hx rfl (hb hby d7_10) rfl rfl k) ?_
  show own_Go p e below s _ _ _ (T2.setTop (mkF m 11 #[.val (.ref a1), .val (.ref a2)] [(.ref a1)]))
  refine own_go (fun _ k => XS.aloadN X2.here hx rfl (hb hby d7_11) rfl rfl k) ?_
  show own_Go p e below s _ _ _ (T2.setTop (mkF m 12 #[.val (.ref a1), .val (.ref a2)] [(.ref a2), (.ref a1)]))
  refine own_go (fun _ k => XS.aloadN X2.here hx rfl (hb hby d7_12) rfl rfl k) ?_
  show own_Go p e below s _ _ _ (T2.setTop (mkF m 13 #[.val (.ref a1), .val (.ref a2)] [(.ref a1), (.ref a2), (.ref a1)]))
  obtain ⟨T11, X11, e11, st11⟩ := getF X2 hx hZ hown (host := "") (Or.inl (hw _ (List.mem_of_getElem? (i := 36) rfl))) Via.refl e2 f6 (g := (mkF m 13 #[.val (.ref a1), .val (.ref a2)] [(.ref a1), (.ref a2), (.ref a1)])) rfl rfl (hb hby d7_13)
  refine own_go st11 ?_
  show own_Go p e below s _ _ _ (T11.setTop (mkF m 16 #[.val (.ref a1), .val (.ref a2)] [(.ref wd), (.ref a2), (.ref a1)]))
  refine own_go (fun _ k => XS.aloadN X11.here hx rfl (hb hby d7_16) rfl rfl k) ?_
  show own_Go p e below s _ _ _ (T11.setTop (mkF m 17 #[.val (.ref a1), .val (.ref a2)] [(.ref a1), (.ref wd), (.ref a2), (.ref a1)]))
  obtain ⟨T12, X12, e12, st12⟩ := getF X11 hx hZ hown (host := "") (Or.inl (hw _ (List.mem_of_getElem? (i := 60) rfl))) Via.refl e11 f5 (g := (mkF m 17 #[.val (.ref a1), .val (.ref a2)] [(.ref a1), (.ref wd), (.ref a2), (.ref a1)])) rfl rfl (hb hby d7_17)
  refine own_go st12 ?_
  show own_Go p e below s _ _ _ (T12.setTop (mkF m 20 #[.val (.ref a1), .val (.ref a2)] [(.int (0 : Int32)), (.ref wd), (.ref a2), (.ref a1)]))
  obtain ⟨v13, T13, L13, X13, hSn, hZn, hownn, hQ13, st13⟩ := own_callP (y := (⟨"java/util/ArrayList", "add", "(Ljava/lang/Object;[Ljava/lang/Object;I)V"⟩ : MethodName)) X12 hS hx hZ hown (hw _ (List.mem_of_getElem? (i := 62) rfl)) (hw _ (List.mem_of_getElem? (i := 63) rfl)) (hw _ (List.mem_of_getElem? (i := 65) rfl)) (hw _ (List.mem_of_getElem? (i := 64) rfl)) (hw _ (List.mem_of_getElem? (i := 14) rfl)) (hw _ (List.mem_of_getElem? (i := 66) rfl)) (rm_add3_0 l Z a0 hw oDE oDV oS0 oS1 oS2 oSE0 oSE1 oSE2 oSF0 oSF1 oSF2 oSM oSV [] a1 a2 (mc + (1 : Int32)) h2 O9 f4 f5 f6 f7 f8 big_a1) 0 1 10 rfl rfl (by decide) (by decide) (by decide) (by show _ ≤ 1; omega) (by show _ ≤ 10; omega) e12 f4 (g := (mkF m 20 #[.val (.ref a1), .val (.ref a2)] [(.int (0 : Int32)), (.ref wd), (.ref a2), (.ref a1)])) rfl (by rw [hml]; rfl) [(.ref a2), (.ref wd), (.int (0 : Int32))] [] (lenOf own_pd_4 rfl) rfl rfl (by show 2 * 0 + _ ≤ _; exact Nat.le_of_eq rfl) (hb hby d7_20)
  replace hS := hSn
  replace hZ := hZn
  replace hown := hownn
  clear hSn hZn hownn
  obtain ⟨w14, w15, rfl, Nc24, Kc23, hb16, f17, f18, f19, f20, f21, f22⟩ := hQ13
  refine own_go st13 ?_
  have N25 := Fr.app N3 Nc24
  have ne26 : a1 ≠ w14 := Nat.ne_of_lt (Nat.lt_of_lt_of_le f4.lt hb16)
  have big27 : Z.heap.size ≤ w14 := Nat.le_trans O9.1 hb16
  have sz28 : h0.size ≤ w14 := Nat.le_trans K10.1 hb16
  have f29 : Exa Z T13.heap a1 "java/util/ArrayList" := f4.keep Kc23
  have f33 : Ins Z T13.heap a2 "java/lang/Object" true := own_insKeep f8 Kc23
  have O34 := own_oldKeep O9 Kc23 (allS big_a1 all0)
  have K35 : Keep h0 T13.heap [a1] := K10.trans Kc23 (allS (Or.inl (List.mem_of_getElem? (i := 0) rfl)) all0)
  show own_Go p e below s _ _ _ (T13.setTop (mkF m 23 #[.val (.ref a1), .val (.ref a2)] []))
  refine own_go (fun _ k => XS.iconst X13.here hx rfl (hb hby d7_23) k) ?_
  show own_Go p e below s _ _ _ (T13.setTop (mkF m 24 #[.val (.ref a1), .val (.ref a2)] [(.int (1 : Int32))]))
  refine own_retN X13 hS hx hlk (rfl : T13.heap = T13.heap) (t := .boolean) hret (by simp) (hb hby d7_24) (by show _ ≤ 1; omega) (by show _ ≤ 10; omega) ?_
  exact ⟨w14, w15, rfl, N25, K35, sz28, f17, f18, f19, f20, f21, f22⟩
theorem d15_0 : decode jdk_38_method_8_code 0 = .ok (.aload_n 0, 1) := by decide +kernel
theorem d15_1 : decode jdk_38_method_8_code 1 = .ok (.getfield 48, 3) := by decide +kernel
theorem d15_4 : decode jdk_38_method_8_code 4 = .ok (.ireturn, 1) := by decide +kernel
def Q_alsize (Z : State) (wd : Addr) (kd : ClassId) (ws0 : Addr) (ws1 : Addr) (ws2 : Addr) (wm : Addr) (km : ClassId) (a1 : Addr) (w : Int32) (h0 : Heap) (v : Option Value) (h : Heap) (L : List Loc) : Prop := (v = some (.int w) ∧ Fr Z.heap.size L ∧ h = h0)
theorem ef_alsize (m : MethodId) (x0 : Addr) : entryFrame m #[(.ref x0)] 1 = mkF m 0 #[.val (.ref x0)] [] := by first | (simp [entryFrame, mkF, argsToLocals, Value.category]; done) | rfl
set_option maxRecDepth 65536 in
set_option maxHeartbeats 40000000 in
theorem rm_alsize (l : Launch) (Z : State) (a0 : Array Value) (hw : ∀ d ∈ tables_1, d.before a0 Z = true) {wd : Addr} {kd : ClassId} {ws0 : Addr} {ws1 : Addr} {ws2 : Addr} {wm : Addr} {km : ClassId} (oDE : Sta Z Z.heap "java/util/ArrayList" "DEFAULTCAPACITY_EMPTY_ELEMENTDATA" "[Ljava/lang/Object;" (.ref wd)) (oDV : Arv Z Z.heap wd kd (.object "java/lang/Object") (0 : Int32) [] .null) (oS0 : Sta Z Z.heap "com/example/slotsholmen/slotsholmen/schema/Section" "ATTRIBUTES" "Lcom/example/slotsholmen/slotsholmen/schema/Section;" (.ref ws0)) (oS1 : Sta Z Z.heap "com/example/slotsholmen/slotsholmen/schema/Section" "STATES" "Lcom/example/slotsholmen/slotsholmen/schema/Section;" (.ref ws1)) (oS2 : Sta Z Z.heap "com/example/slotsholmen/slotsholmen/schema/Section" "RELATIONS" "Lcom/example/slotsholmen/slotsholmen/schema/Section;" (.ref ws2)) (oSE0 : Exa Z Z.heap ws0 "com/example/slotsholmen/slotsholmen/schema/Section") (oSE1 : Exa Z Z.heap ws1 "com/example/slotsholmen/slotsholmen/schema/Section") (oSE2 : Exa Z Z.heap ws2 "com/example/slotsholmen/slotsholmen/schema/Section") (oSF0 : Fld Z Z.heap ws0 "java/lang/Enum" "ordinal" "I" (.int (0 : Int32))) (oSF1 : Fld Z Z.heap ws1 "java/lang/Enum" "ordinal" "I" (.int (1 : Int32))) (oSF2 : Fld Z Z.heap ws2 "java/lang/Enum" "ordinal" "I" (.int (2 : Int32))) (oSM : Sta Z Z.heap "com/example/slotsholmen/slotsholmen/schema/ObjectClass$1" "$SwitchMap$com$example$slotsholmen$slotsholmen$schema$Section" "[I" (.ref wm)) (oSV : Arv Z Z.heap wm km .int (3 : Int32) [(.int (1 : Int32)), (.int (2 : Int32)), (.int (3 : Int32))] (.int (0 : Int32))) (ws : List Jvm.Cond) (a1 : Addr) (w : Int32) (h0 : Heap) (O0 : Ext Z.heap h0) (f_F_a1_size : Fld Z h0 a1 "java/util/ArrayList" "size" "I" (.int w)) :
    MetFree l (⟨"java/util/ArrayList", "size", "()I"⟩ : MethodName) (head1 (Jvm.Cond.code (⟨"java/util/ArrayList", "size", "()I"⟩ : MethodName) jdk_38_method_8_code 1 (some .int) :: ws) ({ frames := 0, cells := 0, slots := 0, locals := 0 } : Room)) (fun a U => a = #[(.ref a1)] ∧ Z.Warmed39 U.vm ∧ U.heap = h0) (fun _ _ _ _ _ => True) (fun _ U o U' => ∃ v L, o = .returned v ∧ (Q_alsize Z wd kd ws0 ws1 ws2 wm km a1 w h0) v U'.heap L ∧ ReturnedEndW U o U' L ({ frames := 0, cells := 0, slots := 0, locals := 0 } : Room).cells ({ frames := 0, cells := 0, slots := 0, locals := 0 } : Room).slots) := by
  refine own_met (Q := (Q_alsize Z wd kd ws0 ws1 ws2 wm km a1 w h0)) _ _ (plainFor_of_name own_pn_2) ?_
  intro p e s vm0 m below meth c T X0 hS hx hby hml hret hlk hZ hown hnm e0
  replace hown : (s.setVm vm0).vm.findClass "java/util/ArrayList" = some m.cls := hown
  replace hnm : meth.name = "size" := hnm
  have hml : c.maxLocals = 1 := hml
  have N0 := Fr.nil Z.heap.size
  have K0 := Keep.refl h0 []
  refine own_go (fun _ k => castTop (ef_alsize m a1) k) ?_
  show own_Go p e below s _ _ _ (T.setTop (mkF m 0 #[.val (.ref a1)] []))
  refine own_go (fun _ k => XS.aloadN X0.here hx rfl (hb hby d15_0) rfl rfl k) ?_
  show own_Go p e below s _ _ _ (T.setTop (mkF m 1 #[.val (.ref a1)] [(.ref a1)]))
  obtain ⟨T1, X1, e1, st1⟩ := getF X0 hx hZ hown (host := "") (Or.inl (hw _ (List.mem_of_getElem? (i := 60) rfl))) Via.refl e0 f_F_a1_size (g := (mkF m 1 #[.val (.ref a1)] [(.ref a1)])) rfl rfl (hb hby d15_1)
  refine own_go st1 ?_
  show own_Go p e below s _ _ _ (T1.setTop (mkF m 4 #[.val (.ref a1)] [(.int w)]))
  refine own_retI X1 hS hx hlk e1 hret (hb hby d15_4) (by show _ ≤ 0; omega) (by show _ ≤ 0; omega) ?_
  exact ⟨rfl, N0, rfl⟩
theorem d18_0 : decode jdk_41_method_11_code 0 = .ok (.iload_n 0, 1) := by decide +kernel
theorem d18_1 : decode jdk_41_method_11_code 1 = .ok (.ifCond .lt 8, 3) := by decide +kernel
theorem d18_4 : decode jdk_41_method_11_code 4 = .ok (.iload_n 0, 1) := by decide +kernel
theorem d18_5 : decode jdk_41_method_11_code 5 = .ok (.iload_n 1, 1) := by decide +kernel
theorem d18_6 : decode jdk_41_method_11_code 6 = .ok (.if_icmp .lt 10, 3) := by decide +kernel
theorem d18_16 : decode jdk_41_method_11_code 16 = .ok (.iload_n 0, 1) := by decide +kernel
theorem d18_17 : decode jdk_41_method_11_code 17 = .ok (.ireturn, 1) := by decide +kernel
def Q_pci (Z : State) (wd : Addr) (kd : ClassId) (ws0 : Addr) (ws1 : Addr) (ws2 : Addr) (wm : Addr) (km : ClassId) (p1 : Int32) (p2 : Int32) (h0 : Heap) (v : Option Value) (h : Heap) (L : List Loc) : Prop := (v = some (.int p1) ∧ Fr Z.heap.size L ∧ h = h0)
theorem ef_pci (m : MethodId) (x0 : Int32) (x1 : Int32) : entryFrame m #[(.int x0), (.int x1), .null] 3 = mkF m 0 #[.val (.int x0), .val (.int x1), .val .null] [] := by first | (simp [entryFrame, mkF, argsToLocals, Value.category]; done) | rfl
set_option maxRecDepth 65536 in
set_option maxHeartbeats 40000000 in
theorem rm_pci (l : Launch) (Z : State) (a0 : Array Value) (hw : ∀ d ∈ tables_1, d.before a0 Z = true) {wd : Addr} {kd : ClassId} {ws0 : Addr} {ws1 : Addr} {ws2 : Addr} {wm : Addr} {km : ClassId} (oDE : Sta Z Z.heap "java/util/ArrayList" "DEFAULTCAPACITY_EMPTY_ELEMENTDATA" "[Ljava/lang/Object;" (.ref wd)) (oDV : Arv Z Z.heap wd kd (.object "java/lang/Object") (0 : Int32) [] .null) (oS0 : Sta Z Z.heap "com/example/slotsholmen/slotsholmen/schema/Section" "ATTRIBUTES" "Lcom/example/slotsholmen/slotsholmen/schema/Section;" (.ref ws0)) (oS1 : Sta Z Z.heap "com/example/slotsholmen/slotsholmen/schema/Section" "STATES" "Lcom/example/slotsholmen/slotsholmen/schema/Section;" (.ref ws1)) (oS2 : Sta Z Z.heap "com/example/slotsholmen/slotsholmen/schema/Section" "RELATIONS" "Lcom/example/slotsholmen/slotsholmen/schema/Section;" (.ref ws2)) (oSE0 : Exa Z Z.heap ws0 "com/example/slotsholmen/slotsholmen/schema/Section") (oSE1 : Exa Z Z.heap ws1 "com/example/slotsholmen/slotsholmen/schema/Section") (oSE2 : Exa Z Z.heap ws2 "com/example/slotsholmen/slotsholmen/schema/Section") (oSF0 : Fld Z Z.heap ws0 "java/lang/Enum" "ordinal" "I" (.int (0 : Int32))) (oSF1 : Fld Z Z.heap ws1 "java/lang/Enum" "ordinal" "I" (.int (1 : Int32))) (oSF2 : Fld Z Z.heap ws2 "java/lang/Enum" "ordinal" "I" (.int (2 : Int32))) (oSM : Sta Z Z.heap "com/example/slotsholmen/slotsholmen/schema/ObjectClass$1" "$SwitchMap$com$example$slotsholmen$slotsholmen$schema$Section" "[I" (.ref wm)) (oSV : Arv Z Z.heap wm km .int (3 : Int32) [(.int (1 : Int32)), (.int (2 : Int32)), (.int (3 : Int32))] (.int (0 : Int32))) (ws : List Jvm.Cond) (p1 : Int32) (p2 : Int32) (h0 : Heap) (O0 : Ext Z.heap h0) (hp1 : ¬ (p1 < (0 : Int32))) (hp2 : p1 < p2) :
    MetFree l (⟨"jdk/internal/util/Preconditions", "checkIndex", "(IILjava/util/function/BiFunction;)I"⟩ : MethodName) (head1 (Jvm.Cond.code (⟨"jdk/internal/util/Preconditions", "checkIndex", "(IILjava/util/function/BiFunction;)I"⟩ : MethodName) jdk_41_method_11_code 3 (some .int) :: ws) ({ frames := 0, cells := 0, slots := 0, locals := 0 } : Room)) (fun a U => a = #[(.int p1), (.int p2), .null] ∧ Z.Warmed39 U.vm ∧ U.heap = h0) (fun _ _ _ _ _ => True) (fun _ U o U' => ∃ v L, o = .returned v ∧ (Q_pci Z wd kd ws0 ws1 ws2 wm km p1 p2 h0) v U'.heap L ∧ ReturnedEndW U o U' L ({ frames := 0, cells := 0, slots := 0, locals := 0 } : Room).cells ({ frames := 0, cells := 0, slots := 0, locals := 0 } : Room).slots) := by
  refine own_met (Q := (Q_pci Z wd kd ws0 ws1 ws2 wm km p1 p2 h0)) _ _ (plainFor_of_name own_pn_3) ?_
  intro p e s vm0 m below meth c T X0 hS hx hby hml hret hlk hZ hown hnm e0
  replace hown : (s.setVm vm0).vm.findClass "jdk/internal/util/Preconditions" = some m.cls := hown
  replace hnm : meth.name = "checkIndex" := hnm
  have hml : c.maxLocals = 3 := hml
  have N0 := Fr.nil Z.heap.size
  have K0 := Keep.refl h0 []
  refine own_go (fun _ k => castTop (ef_pci m p1 p2) k) ?_
  show own_Go p e below s _ _ _ (T.setTop (mkF m 0 #[.val (.int p1), .val (.int p2), .val .null] []))
  refine own_go (fun _ k => XS.iloadN X0.here hx rfl (hb hby d18_0) rfl k) ?_
  show own_Go p e below s _ _ _ (T.setTop (mkF m 1 #[.val (.int p1), .val (.int p2), .val .null] [(.int p1)]))
  refine own_go (fun _ k => XS.ifNo X0.here hx rfl (hb hby d18_1) rfl ((if0 _ _).trans (flt hp1).1) k) ?_
  show own_Go p e below s _ _ _ (T.setTop (mkF m 4 #[.val (.int p1), .val (.int p2), .val .null] []))
  refine own_go (fun _ k => XS.iloadN X0.here hx rfl (hb hby d18_4) rfl k) ?_
  show own_Go p e below s _ _ _ (T.setTop (mkF m 5 #[.val (.int p1), .val (.int p2), .val .null] [(.int p1)]))
  refine own_go (fun _ k => XS.iloadN X0.here hx rfl (hb hby d18_5) rfl k) ?_
  show own_Go p e below s _ _ _ (T.setTop (mkF m 6 #[.val (.int p1), .val (.int p2), .val .null] [(.int p2), (.int p1)]))
  refine own_go (fun _ k => XS.icmpYes X0.here hx rfl (pc0 := 6) (pc' := 16) rfl (hb hby d18_6) rfl (tlt hp2).1 (by decide) (by decide) k) ?_
  show own_Go p e below s _ _ _ (T.setTop (mkF m 16 #[.val (.int p1), .val (.int p2), .val .null] []))
  refine own_go (fun _ k => XS.iloadN X0.here hx rfl (hb hby d18_16) rfl k) ?_
  show own_Go p e below s _ _ _ (T.setTop (mkF m 17 #[.val (.int p1), .val (.int p2), .val .null] [(.int p1)]))
  refine own_retI X0 hS hx hlk e0 hret (hb hby d18_17) (by show _ ≤ 0; omega) (by show _ ≤ 0; omega) ?_
  exact ⟨rfl, N0, rfl⟩
theorem d17_0 : decode jdk_31_method_17_code 0 = .ok (.iload_n 0, 1) := by decide +kernel
theorem d17_1 : decode jdk_31_method_17_code 1 = .ok (.iload_n 1, 1) := by decide +kernel
theorem d17_2 : decode jdk_31_method_17_code 2 = .ok (.aconst_null, 1) := by decide +kernel
theorem d17_3 : decode jdk_31_method_17_code 3 = .ok (.invokestatic 105, 3) := by decide +kernel
theorem d17_6 : decode jdk_31_method_17_code 6 = .ok (.ireturn, 1) := by decide +kernel
def Q_oci (Z : State) (wd : Addr) (kd : ClassId) (ws0 : Addr) (ws1 : Addr) (ws2 : Addr) (wm : Addr) (km : ClassId) (p1 : Int32) (p2 : Int32) (h0 : Heap) (v : Option Value) (h : Heap) (L : List Loc) : Prop := (v = some (.int p1) ∧ Fr Z.heap.size L ∧ h = h0)
theorem ef_oci (m : MethodId) (x0 : Int32) (x1 : Int32) : entryFrame m #[(.int x0), (.int x1)] 2 = mkF m 0 #[.val (.int x0), .val (.int x1)] [] := by first | (simp [entryFrame, mkF, argsToLocals, Value.category]; done) | rfl
set_option maxRecDepth 65536 in
set_option maxHeartbeats 40000000 in
theorem rm_oci (l : Launch) (Z : State) (a0 : Array Value) (hw : ∀ d ∈ tables_1, d.before a0 Z = true) {wd : Addr} {kd : ClassId} {ws0 : Addr} {ws1 : Addr} {ws2 : Addr} {wm : Addr} {km : ClassId} (oDE : Sta Z Z.heap "java/util/ArrayList" "DEFAULTCAPACITY_EMPTY_ELEMENTDATA" "[Ljava/lang/Object;" (.ref wd)) (oDV : Arv Z Z.heap wd kd (.object "java/lang/Object") (0 : Int32) [] .null) (oS0 : Sta Z Z.heap "com/example/slotsholmen/slotsholmen/schema/Section" "ATTRIBUTES" "Lcom/example/slotsholmen/slotsholmen/schema/Section;" (.ref ws0)) (oS1 : Sta Z Z.heap "com/example/slotsholmen/slotsholmen/schema/Section" "STATES" "Lcom/example/slotsholmen/slotsholmen/schema/Section;" (.ref ws1)) (oS2 : Sta Z Z.heap "com/example/slotsholmen/slotsholmen/schema/Section" "RELATIONS" "Lcom/example/slotsholmen/slotsholmen/schema/Section;" (.ref ws2)) (oSE0 : Exa Z Z.heap ws0 "com/example/slotsholmen/slotsholmen/schema/Section") (oSE1 : Exa Z Z.heap ws1 "com/example/slotsholmen/slotsholmen/schema/Section") (oSE2 : Exa Z Z.heap ws2 "com/example/slotsholmen/slotsholmen/schema/Section") (oSF0 : Fld Z Z.heap ws0 "java/lang/Enum" "ordinal" "I" (.int (0 : Int32))) (oSF1 : Fld Z Z.heap ws1 "java/lang/Enum" "ordinal" "I" (.int (1 : Int32))) (oSF2 : Fld Z Z.heap ws2 "java/lang/Enum" "ordinal" "I" (.int (2 : Int32))) (oSM : Sta Z Z.heap "com/example/slotsholmen/slotsholmen/schema/ObjectClass$1" "$SwitchMap$com$example$slotsholmen$slotsholmen$schema$Section" "[I" (.ref wm)) (oSV : Arv Z Z.heap wm km .int (3 : Int32) [(.int (1 : Int32)), (.int (2 : Int32)), (.int (3 : Int32))] (.int (0 : Int32))) (ws : List Jvm.Cond) (p1 : Int32) (p2 : Int32) (h0 : Heap) (O0 : Ext Z.heap h0) (hp1 : ¬ (p1 < (0 : Int32))) (hp2 : p1 < p2) :
    MetFree l (⟨"java/util/Objects", "checkIndex", "(II)I"⟩ : MethodName) (head1 (Jvm.Cond.code (⟨"java/util/Objects", "checkIndex", "(II)I"⟩ : MethodName) jdk_31_method_17_code 2 (some .int) :: ws) ({ frames := 1, cells := 0, slots := 0, locals := 14 } : Room)) (fun a U => a = #[(.int p1), (.int p2)] ∧ Z.Warmed39 U.vm ∧ U.heap = h0) (fun _ _ _ _ _ => True) (fun _ U o U' => ∃ v L, o = .returned v ∧ (Q_oci Z wd kd ws0 ws1 ws2 wm km p1 p2 h0) v U'.heap L ∧ ReturnedEndW U o U' L ({ frames := 1, cells := 0, slots := 0, locals := 14 } : Room).cells ({ frames := 1, cells := 0, slots := 0, locals := 14 } : Room).slots) := by
  refine own_met (Q := (Q_oci Z wd kd ws0 ws1 ws2 wm km p1 p2 h0)) _ _ (plainFor_of_name own_pn_4) ?_
  intro p e s vm0 m below meth c T X0 hS hx hby hml hret hlk hZ hown hnm e0
  replace hown : (s.setVm vm0).vm.findClass "java/util/Objects" = some m.cls := hown
  replace hnm : meth.name = "checkIndex" := hnm
  have hml : c.maxLocals = 2 := hml
  have N0 := Fr.nil Z.heap.size
  have K0 := Keep.refl h0 []
  refine own_go (fun _ k => castTop (ef_oci m p1 p2) k) ?_
  show own_Go p e below s _ _ _ (T.setTop (mkF m 0 #[.val (.int p1), .val (.int p2)] []))
  refine own_go (fun _ k => XS.iloadN X0.here hx rfl (hb hby d17_0) rfl k) ?_
  show own_Go p e below s _ _ _ (T.setTop (mkF m 1 #[.val (.int p1), .val (.int p2)] [(.int p1)]))
  refine own_go (fun _ k => XS.iloadN X0.here hx rfl (hb hby d17_1) rfl k) ?_
  show own_Go p e below s _ _ _ (T.setTop (mkF m 2 #[.val (.int p1), .val (.int p2)] [(.int p2), (.int p1)]))
  refine own_go (fun _ k => XS.aconstNull X0.here hx rfl (hb hby d17_2) k) ?_
  show own_Go p e below s _ _ _ (T.setTop (mkF m 3 #[.val (.int p1), .val (.int p2)] [.null, (.int p2), (.int p1)]))
  obtain ⟨v1, T1, L1, X1, hSn, hZn, hownn, hQ1, st1⟩ := own_callS (y := (⟨"jdk/internal/util/Preconditions", "checkIndex", "(IILjava/util/function/BiFunction;)I"⟩ : MethodName)) X0 hS hx hZ hown (hw _ (List.mem_of_getElem? (i := 147) rfl)) (hw _ (List.mem_of_getElem? (i := 148) rfl)) (hw _ (List.mem_of_getElem? (i := 149) rfl)) (hw _ (List.mem_of_getElem? (i := 150) rfl)) (rm_pci l Z a0 hw oDE oDV oS0 oS1 oS2 oSE0 oSE1 oSE2 oSF0 oSF1 oSF2 oSM oSV [] p1 p2 h0 O0 hp1 hp2) 0 0 0 rfl rfl (by decide) (by decide) (by decide) (by show _ ≤ 0; omega) (by show _ ≤ 0; omega) e0 (g := (mkF m 3 #[.val (.int p1), .val (.int p2)] [.null, (.int p2), (.int p1)])) rfl (by rw [hml]; rfl) [(.int p1), (.int p2), .null] [] (lenOf own_pd_5 rfl) rfl rfl (by show 2 * 0 + _ ≤ _; exact Nat.le_of_eq rfl) (hb hby d17_3)
  replace hS := hSn
  replace hZ := hZn
  replace hown := hownn
  clear hSn hZn hownn
  obtain ⟨rfl, Nc3, Kc2⟩ := hQ1
  refine own_go st1 ?_
  have N4 := Fr.app N0 Nc3
  rw [Kc2] at hS
  show own_Go p e below s _ _ _ (T1.setTop (mkF m 6 #[.val (.int p1), .val (.int p2)] [(.int p1)]))
  refine own_retI X1 hS hx hlk Kc2 hret (hb hby d17_6) (by show _ ≤ 0; omega) (by show _ ≤ 0; omega) ?_
  exact ⟨rfl, N4, rfl⟩
theorem d19_0 : decode jdk_38_method_18_code 0 = .ok (.aload_n 0, 1) := by decide +kernel
theorem d19_1 : decode jdk_38_method_18_code 1 = .ok (.getfield 9, 3) := by decide +kernel
theorem d19_4 : decode jdk_38_method_18_code 4 = .ok (.iload_n 1, 1) := by decide +kernel
theorem d19_5 : decode jdk_38_method_18_code 5 = .ok (.aaload, 1) := by decide +kernel
theorem d19_6 : decode jdk_38_method_18_code 6 = .ok (.areturn, 1) := by decide +kernel
def Q_aled_1_0 (Z : State) (wd : Addr) (kd : ClassId) (ws0 : Addr) (ws1 : Addr) (ws2 : Addr) (wm : Addr) (km : ClassId) (a1 : Addr) (b : Addr) (k : ClassId) (el1 : Addr) (h0 : Heap) (v : Option Value) (h : Heap) (L : List Loc) : Prop := (v = some (.ref el1) ∧ Fr Z.heap.size L ∧ h = h0)
theorem ef_aled_1_0 (m : MethodId) (x0 : Addr) : entryFrame m #[(.ref x0), (.int (0 : Int32))] 2 = mkF m 0 #[.val (.ref x0), .val (.int (0 : Int32))] [] := by first | (simp [entryFrame, mkF, argsToLocals, Value.category]; done) | rfl
set_option maxRecDepth 65536 in
set_option maxHeartbeats 40000000 in
theorem rm_aled_1_0 (l : Launch) (Z : State) (a0 : Array Value) (hw : ∀ d ∈ tables_1, d.before a0 Z = true) {wd : Addr} {kd : ClassId} {ws0 : Addr} {ws1 : Addr} {ws2 : Addr} {wm : Addr} {km : ClassId} (oDE : Sta Z Z.heap "java/util/ArrayList" "DEFAULTCAPACITY_EMPTY_ELEMENTDATA" "[Ljava/lang/Object;" (.ref wd)) (oDV : Arv Z Z.heap wd kd (.object "java/lang/Object") (0 : Int32) [] .null) (oS0 : Sta Z Z.heap "com/example/slotsholmen/slotsholmen/schema/Section" "ATTRIBUTES" "Lcom/example/slotsholmen/slotsholmen/schema/Section;" (.ref ws0)) (oS1 : Sta Z Z.heap "com/example/slotsholmen/slotsholmen/schema/Section" "STATES" "Lcom/example/slotsholmen/slotsholmen/schema/Section;" (.ref ws1)) (oS2 : Sta Z Z.heap "com/example/slotsholmen/slotsholmen/schema/Section" "RELATIONS" "Lcom/example/slotsholmen/slotsholmen/schema/Section;" (.ref ws2)) (oSE0 : Exa Z Z.heap ws0 "com/example/slotsholmen/slotsholmen/schema/Section") (oSE1 : Exa Z Z.heap ws1 "com/example/slotsholmen/slotsholmen/schema/Section") (oSE2 : Exa Z Z.heap ws2 "com/example/slotsholmen/slotsholmen/schema/Section") (oSF0 : Fld Z Z.heap ws0 "java/lang/Enum" "ordinal" "I" (.int (0 : Int32))) (oSF1 : Fld Z Z.heap ws1 "java/lang/Enum" "ordinal" "I" (.int (1 : Int32))) (oSF2 : Fld Z Z.heap ws2 "java/lang/Enum" "ordinal" "I" (.int (2 : Int32))) (oSM : Sta Z Z.heap "com/example/slotsholmen/slotsholmen/schema/ObjectClass$1" "$SwitchMap$com$example$slotsholmen$slotsholmen$schema$Section" "[I" (.ref wm)) (oSV : Arv Z Z.heap wm km .int (3 : Int32) [(.int (1 : Int32)), (.int (2 : Int32)), (.int (3 : Int32))] (.int (0 : Int32))) (ws : List Jvm.Cond) (a1 : Addr) (b : Addr) (k : ClassId) (el1 : Addr) (h0 : Heap) (O0 : Ext Z.heap h0) (f_E_a1 : Exa Z h0 a1 "java/util/ArrayList") (f_F_a1_size : Fld Z h0 a1 "java/util/ArrayList" "size" "I" (.int (1 : Int32))) (f_F_a1_elementData : Fld Z h0 a1 "java/util/ArrayList" "elementData" "[Ljava/lang/Object;" (.ref b)) (f_V_b : Arv Z h0 b k (.object "java/lang/Object") (10 : Int32) [(.ref el1), .null, .null, .null, .null, .null, .null, .null, .null, .null] .null) :
    MetFree l (⟨"java/util/ArrayList", "elementData", "(I)Ljava/lang/Object;"⟩ : MethodName) (head1 (Jvm.Cond.code (⟨"java/util/ArrayList", "elementData", "(I)Ljava/lang/Object;"⟩ : MethodName) jdk_38_method_18_code 2 (some (.object "java/lang/Object")) :: ws) ({ frames := 0, cells := 0, slots := 0, locals := 0 } : Room)) (fun a U => a = #[(.ref a1), (.int (0 : Int32))] ∧ Z.Warmed39 U.vm ∧ U.heap = h0) (fun _ _ _ _ _ => True) (fun _ U o U' => ∃ v L, o = .returned v ∧ (Q_aled_1_0 Z wd kd ws0 ws1 ws2 wm km a1 b k el1 h0) v U'.heap L ∧ ReturnedEndW U o U' L ({ frames := 0, cells := 0, slots := 0, locals := 0 } : Room).cells ({ frames := 0, cells := 0, slots := 0, locals := 0 } : Room).slots) := by
  refine own_met (Q := (Q_aled_1_0 Z wd kd ws0 ws1 ws2 wm km a1 b k el1 h0)) _ _ (plainFor_of_name own_pn_2) ?_
  intro p e s vm0 m below meth c T X0 hS hx hby hml hret hlk hZ hown hnm e0
  replace hown : (s.setVm vm0).vm.findClass "java/util/ArrayList" = some m.cls := hown
  replace hnm : meth.name = "elementData" := hnm
  have hml : c.maxLocals = 2 := hml
  have N0 := Fr.nil Z.heap.size
  have K0 := Keep.refl h0 []
  refine own_go (fun _ k => castTop (ef_aled_1_0 m a1) k) ?_
  show own_Go p e below s _ _ _ (T.setTop (mkF m 0 #[.val (.ref a1), .val (.int (0 : Int32))] []))
  refine own_go (fun _ k => XS.aloadN X0.here hx rfl (hb hby d19_0) rfl rfl k) ?_
  show own_Go p e below s _ _ _ (T.setTop (mkF m 1 #[.val (.ref a1), .val (.int (0 : Int32))] [(.ref a1)]))
  obtain ⟨T1, X1, e1, st1⟩ := getF X0 hx hZ hown (host := "") (Or.inl (hw _ (List.mem_of_getElem? (i := 36) rfl))) Via.refl e0 f_F_a1_elementData (g := (mkF m 1 #[.val (.ref a1), .val (.int (0 : Int32))] [(.ref a1)])) rfl rfl (hb hby d19_1)
  refine own_go st1 ?_
  show own_Go p e below s _ _ _ (T1.setTop (mkF m 4 #[.val (.ref a1), .val (.int (0 : Int32))] [(.ref b)]))
  refine own_go (fun _ k => XS.iloadN X1.here hx rfl (hb hby d19_4) rfl k) ?_
  show own_Go p e below s _ _ _ (T1.setTop (mkF m 5 #[.val (.ref a1), .val (.int (0 : Int32))] [(.int (0 : Int32)), (.ref b)]))
  obtain ⟨cl2, Ar2, -, S2, -, P2, -⟩ := id f_V_b
  have hin2 : ¬ ((0 : Int32) < 0 ∨ cl2.slots.size ≤ ((0 : Int32)).toNatClampNeg) := inb_of S2 ⟨by decide, by decide⟩
  refine own_go (X1.aaload hx (j := (0 : Int32)) (v := (.ref el1)) (by rw [e1]; exact Ar2.1) (State.isArrayOf_alike hZ.alike Ar2.2.1) rfl Ar2.2.2 hin2 (P2.at hin2 rfl) (g := (mkF m 5 #[.val (.ref a1), .val (.int (0 : Int32))] [(.int (0 : Int32)), (.ref b)])) rfl rfl (hb hby d19_5)) ?_
  show own_Go p e below s _ _ _ (T1.setTop (mkF m 6 #[.val (.ref a1), .val (.int (0 : Int32))] [(.ref el1)]))
  refine own_retA X1 hS hx hlk e1 hret rfl rfl (hb hby d19_6) (by show _ ≤ 0; omega) (by show _ ≤ 0; omega) ?_
  exact ⟨rfl, N0, rfl⟩
theorem d16_0 : decode jdk_38_method_20_code 0 = .ok (.iload_n 1, 1) := by decide +kernel
theorem d16_1 : decode jdk_38_method_20_code 1 = .ok (.aload_n 0, 1) := by decide +kernel
theorem d16_2 : decode jdk_38_method_20_code 2 = .ok (.getfield 48, 3) := by decide +kernel
theorem d16_5 : decode jdk_38_method_20_code 5 = .ok (.invokestatic 118, 3) := by decide +kernel
theorem d16_8 : decode jdk_38_method_20_code 8 = .ok (.pop, 1) := by decide +kernel
theorem d16_9 : decode jdk_38_method_20_code 9 = .ok (.aload_n 0, 1) := by decide +kernel
theorem d16_10 : decode jdk_38_method_20_code 10 = .ok (.iload_n 1, 1) := by decide +kernel
theorem d16_11 : decode jdk_38_method_20_code 11 = .ok (.invokevirtual 123, 3) := by decide +kernel
theorem d16_14 : decode jdk_38_method_20_code 14 = .ok (.areturn, 1) := by decide +kernel
def Q_alget_1_0 (Z : State) (wd : Addr) (kd : ClassId) (ws0 : Addr) (ws1 : Addr) (ws2 : Addr) (wm : Addr) (km : ClassId) (a1 : Addr) (b : Addr) (k : ClassId) (el1 : Addr) (h0 : Heap) (v : Option Value) (h : Heap) (L : List Loc) : Prop := (v = some (.ref el1) ∧ Fr Z.heap.size L ∧ h = h0)
theorem ef_alget_1_0 (m : MethodId) (x0 : Addr) : entryFrame m #[(.ref x0), (.int (0 : Int32))] 2 = mkF m 0 #[.val (.ref x0), .val (.int (0 : Int32))] [] := by first | (simp [entryFrame, mkF, argsToLocals, Value.category]; done) | rfl
set_option maxRecDepth 65536 in
set_option maxHeartbeats 40000000 in
theorem rm_alget_1_0 (l : Launch) (Z : State) (a0 : Array Value) (hw : ∀ d ∈ tables_1, d.before a0 Z = true) {wd : Addr} {kd : ClassId} {ws0 : Addr} {ws1 : Addr} {ws2 : Addr} {wm : Addr} {km : ClassId} (oDE : Sta Z Z.heap "java/util/ArrayList" "DEFAULTCAPACITY_EMPTY_ELEMENTDATA" "[Ljava/lang/Object;" (.ref wd)) (oDV : Arv Z Z.heap wd kd (.object "java/lang/Object") (0 : Int32) [] .null) (oS0 : Sta Z Z.heap "com/example/slotsholmen/slotsholmen/schema/Section" "ATTRIBUTES" "Lcom/example/slotsholmen/slotsholmen/schema/Section;" (.ref ws0)) (oS1 : Sta Z Z.heap "com/example/slotsholmen/slotsholmen/schema/Section" "STATES" "Lcom/example/slotsholmen/slotsholmen/schema/Section;" (.ref ws1)) (oS2 : Sta Z Z.heap "com/example/slotsholmen/slotsholmen/schema/Section" "RELATIONS" "Lcom/example/slotsholmen/slotsholmen/schema/Section;" (.ref ws2)) (oSE0 : Exa Z Z.heap ws0 "com/example/slotsholmen/slotsholmen/schema/Section") (oSE1 : Exa Z Z.heap ws1 "com/example/slotsholmen/slotsholmen/schema/Section") (oSE2 : Exa Z Z.heap ws2 "com/example/slotsholmen/slotsholmen/schema/Section") (oSF0 : Fld Z Z.heap ws0 "java/lang/Enum" "ordinal" "I" (.int (0 : Int32))) (oSF1 : Fld Z Z.heap ws1 "java/lang/Enum" "ordinal" "I" (.int (1 : Int32))) (oSF2 : Fld Z Z.heap ws2 "java/lang/Enum" "ordinal" "I" (.int (2 : Int32))) (oSM : Sta Z Z.heap "com/example/slotsholmen/slotsholmen/schema/ObjectClass$1" "$SwitchMap$com$example$slotsholmen$slotsholmen$schema$Section" "[I" (.ref wm)) (oSV : Arv Z Z.heap wm km .int (3 : Int32) [(.int (1 : Int32)), (.int (2 : Int32)), (.int (3 : Int32))] (.int (0 : Int32))) (ws : List Jvm.Cond) (a1 : Addr) (b : Addr) (k : ClassId) (el1 : Addr) (h0 : Heap) (O0 : Ext Z.heap h0) (f_E_a1 : Exa Z h0 a1 "java/util/ArrayList") (f_F_a1_size : Fld Z h0 a1 "java/util/ArrayList" "size" "I" (.int (1 : Int32))) (f_F_a1_elementData : Fld Z h0 a1 "java/util/ArrayList" "elementData" "[Ljava/lang/Object;" (.ref b)) (f_V_b : Arv Z h0 b k (.object "java/lang/Object") (10 : Int32) [(.ref el1), .null, .null, .null, .null, .null, .null, .null, .null, .null] .null) :
    MetFree l (⟨"java/util/ArrayList", "get", "(I)Ljava/lang/Object;"⟩ : MethodName) (head1 (Jvm.Cond.code (⟨"java/util/ArrayList", "get", "(I)Ljava/lang/Object;"⟩ : MethodName) jdk_38_method_20_code 2 (some (.object "java/lang/Object")) :: ws) ({ frames := 2, cells := 0, slots := 0, locals := 27 } : Room)) (fun a U => a = #[(.ref a1), (.int (0 : Int32))] ∧ Z.Warmed39 U.vm ∧ U.heap = h0) (fun _ _ _ _ _ => True) (fun _ U o U' => ∃ v L, o = .returned v ∧ (Q_alget_1_0 Z wd kd ws0 ws1 ws2 wm km a1 b k el1 h0) v U'.heap L ∧ ReturnedEndW U o U' L ({ frames := 2, cells := 0, slots := 0, locals := 27 } : Room).cells ({ frames := 2, cells := 0, slots := 0, locals := 27 } : Room).slots) := by
  refine own_met (Q := (Q_alget_1_0 Z wd kd ws0 ws1 ws2 wm km a1 b k el1 h0)) _ _ (plainFor_of_name own_pn_2) ?_
  intro p e s vm0 m below meth c T X0 hS hx hby hml hret hlk hZ hown hnm e0
  replace hown : (s.setVm vm0).vm.findClass "java/util/ArrayList" = some m.cls := hown
  replace hnm : meth.name = "get" := hnm
  have hml : c.maxLocals = 2 := hml
  have N0 := Fr.nil Z.heap.size
  have K0 := Keep.refl h0 []
  refine own_go (fun _ k => castTop (ef_alget_1_0 m a1) k) ?_
  show own_Go p e below s _ _ _ (T.setTop (mkF m 0 #[.val (.ref a1), .val (.int (0 : Int32))] []))
  refine own_go (fun _ k => XS.iloadN X0.here hx rfl (hb hby d16_0) rfl k) ?_
  show own_Go p e below s _ _ _ (T.setTop (mkF m 1 #[.val (.ref a1), .val (.int (0 : Int32))] [(.int (0 : Int32))]))
  refine own_go (fun _ k => XS.aloadN X0.here hx rfl (hb hby d16_1) rfl rfl k) ?_
  show own_Go p e below s _ _ _ (T.setTop (mkF m 2 #[.val (.ref a1), .val (.int (0 : Int32))] [(.ref a1), (.int (0 : Int32))]))
  obtain ⟨T1, X1, e1, st1⟩ := getF X0 hx hZ hown (host := "") (Or.inl (hw _ (List.mem_of_getElem? (i := 60) rfl))) Via.refl e0 f_F_a1_size (g := (mkF m 2 #[.val (.ref a1), .val (.int (0 : Int32))] [(.ref a1), (.int (0 : Int32))])) rfl rfl (hb hby d16_2)
  refine own_go st1 ?_
  show own_Go p e below s _ _ _ (T1.setTop (mkF m 5 #[.val (.ref a1), .val (.int (0 : Int32))] [(.int (1 : Int32)), (.int (0 : Int32))]))
  obtain ⟨v2, T2, L2, X2, hSn, hZn, hownn, hQ2, st2⟩ := own_callS (y := (⟨"java/util/Objects", "checkIndex", "(II)I"⟩ : MethodName)) X1 hS hx hZ hown (hw _ (List.mem_of_getElem? (i := 143) rfl)) (hw _ (List.mem_of_getElem? (i := 144) rfl)) (hw _ (List.mem_of_getElem? (i := 145) rfl)) (hw _ (List.mem_of_getElem? (i := 146) rfl)) (rm_oci l Z a0 hw oDE oDV oS0 oS1 oS2 oSE0 oSE1 oSE2 oSF0 oSF1 oSF2 oSM oSV [] (0 : Int32) (1 : Int32) h0 O0 (by decide : ¬ ((0 : Int32) < (0 : Int32))) (by decide : (0 : Int32) < (1 : Int32))) 0 0 0 rfl rfl (by decide) (by decide) (by decide) (by show _ ≤ 0; omega) (by show _ ≤ 0; omega) e1 (g := (mkF m 5 #[.val (.ref a1), .val (.int (0 : Int32))] [(.int (1 : Int32)), (.int (0 : Int32))])) rfl (by rw [hml]; rfl) [(.int (0 : Int32)), (.int (1 : Int32))] [] (lenOf own_pd_1 rfl) rfl rfl (by show 2 * 0 + _ ≤ _; exact Nat.le_of_eq rfl) (hb hby d16_5)
  replace hS := hSn
  replace hZ := hZn
  replace hown := hownn
  clear hSn hZn hownn
  obtain ⟨rfl, Nc4, Kc3⟩ := hQ2
  refine own_go st2 ?_
  have N5 := Fr.app N0 Nc4
  rw [Kc3] at hS
  show own_Go p e below s _ _ _ (T2.setTop (mkF m 8 #[.val (.ref a1), .val (.int (0 : Int32))] [(.int (0 : Int32))]))
  refine own_go (fun _ k => XS.pop X2.here hx rfl (hb hby d16_8) rfl rfl k) ?_
  show own_Go p e below s _ _ _ (T2.setTop (mkF m 9 #[.val (.ref a1), .val (.int (0 : Int32))] []))
  refine own_go (fun _ k => XS.aloadN X2.here hx rfl (hb hby d16_9) rfl rfl k) ?_
  show own_Go p e below s _ _ _ (T2.setTop (mkF m 10 #[.val (.ref a1), .val (.int (0 : Int32))] [(.ref a1)]))
  refine own_go (fun _ k => XS.iloadN X2.here hx rfl (hb hby d16_10) rfl k) ?_
  show own_Go p e below s _ _ _ (T2.setTop (mkF m 11 #[.val (.ref a1), .val (.int (0 : Int32))] [(.int (0 : Int32)), (.ref a1)]))
  obtain ⟨v6, T6, L6, X6, hSn, hZn, hownn, hQ6, st6⟩ := own_callV (y := (⟨"java/util/ArrayList", "elementData", "(I)Ljava/lang/Object;"⟩ : MethodName)) (z := (⟨"java/util/ArrayList", "elementData", "(I)Ljava/lang/Object;"⟩ : MethodName)) X2 hS hx hZ hown (hw _ (List.mem_of_getElem? (i := 151) rfl)) (hw _ (List.mem_of_getElem? (i := 152) rfl)) (notFace_of_selects (args := #[]) (mvT hZ (hw _ (List.mem_of_getElem? (i := 154) rfl)))) (hw _ (List.mem_of_getElem? (i := 154) rfl)) (hw _ (List.mem_of_getElem? (i := 153) rfl)) (hw _ (List.mem_of_getElem? (i := 14) rfl)) (hw _ (List.mem_of_getElem? (i := 155) rfl)) (rm_aled_1_0 l Z a0 hw oDE oDV oS0 oS1 oS2 oSE0 oSE1 oSE2 oSF0 oSF1 oSF2 oSM oSV [] a1 b k el1 h0 O0 f_E_a1 f_F_a1_size f_F_a1_elementData f_V_b) 0 0 0 rfl rfl (by decide) (by decide) (by decide) (by show _ ≤ 0; omega) (by show _ ≤ 0; omega) Kc3 f_E_a1 (g := (mkF m 11 #[.val (.ref a1), .val (.int (0 : Int32))] [(.int (0 : Int32)), (.ref a1)])) rfl (by rw [hml]; rfl) [(.int (0 : Int32))] [] (lenOf own_pd_6 rfl) rfl rfl (by show 2 * 0 + _ ≤ _; exact Nat.le_of_eq rfl) (hb hby d16_11)
  replace hS := hSn
  replace hZ := hZn
  replace hown := hownn
  clear hSn hZn hownn
  obtain ⟨rfl, Nc8, Kc7⟩ := hQ6
  refine own_go st6 ?_
  have N9 := Fr.app N5 Nc8
  rw [Kc7] at hS
  show own_Go p e below s _ _ _ (T6.setTop (mkF m 14 #[.val (.ref a1), .val (.int (0 : Int32))] [(.ref el1)]))
  refine own_retA X6 hS hx hlk Kc7 hret rfl rfl (hb hby d16_14) (by show _ ≤ 0; omega) (by show _ ≤ 0; omega) ?_
  exact ⟨rfl, N9, rfl⟩
theorem d6_0 : decode jdk_30_method_1_code 0 = .ok (.aload_n 0, 1) := by decide +kernel
theorem d6_1 : decode jdk_30_method_1_code 1 = .ok (.invokespecial 1, 3) := by decide +kernel
theorem d6_4 : decode jdk_30_method_1_code 4 = .ok (.return_, 1) := by decide +kernel
def Q_recinit (Z : State) (wd : Addr) (kd : ClassId) (ws0 : Addr) (ws1 : Addr) (ws2 : Addr) (wm : Addr) (km : ClassId) (a1 : Addr) (h0 : Heap) (v : Option Value) (h : Heap) (L : List Loc) : Prop := (v = none ∧ Fr Z.heap.size L ∧ h = h0)
theorem ef_recinit (m : MethodId) (x0 : Addr) : entryFrame m #[(.ref x0)] 1 = mkF m 0 #[.val (.ref x0)] [] := by first | (simp [entryFrame, mkF, argsToLocals, Value.category]; done) | rfl
set_option maxRecDepth 65536 in
set_option maxHeartbeats 40000000 in
theorem rm_recinit (l : Launch) (Z : State) (a0 : Array Value) (hw : ∀ d ∈ tables_1, d.before a0 Z = true) {wd : Addr} {kd : ClassId} {ws0 : Addr} {ws1 : Addr} {ws2 : Addr} {wm : Addr} {km : ClassId} (oDE : Sta Z Z.heap "java/util/ArrayList" "DEFAULTCAPACITY_EMPTY_ELEMENTDATA" "[Ljava/lang/Object;" (.ref wd)) (oDV : Arv Z Z.heap wd kd (.object "java/lang/Object") (0 : Int32) [] .null) (oS0 : Sta Z Z.heap "com/example/slotsholmen/slotsholmen/schema/Section" "ATTRIBUTES" "Lcom/example/slotsholmen/slotsholmen/schema/Section;" (.ref ws0)) (oS1 : Sta Z Z.heap "com/example/slotsholmen/slotsholmen/schema/Section" "STATES" "Lcom/example/slotsholmen/slotsholmen/schema/Section;" (.ref ws1)) (oS2 : Sta Z Z.heap "com/example/slotsholmen/slotsholmen/schema/Section" "RELATIONS" "Lcom/example/slotsholmen/slotsholmen/schema/Section;" (.ref ws2)) (oSE0 : Exa Z Z.heap ws0 "com/example/slotsholmen/slotsholmen/schema/Section") (oSE1 : Exa Z Z.heap ws1 "com/example/slotsholmen/slotsholmen/schema/Section") (oSE2 : Exa Z Z.heap ws2 "com/example/slotsholmen/slotsholmen/schema/Section") (oSF0 : Fld Z Z.heap ws0 "java/lang/Enum" "ordinal" "I" (.int (0 : Int32))) (oSF1 : Fld Z Z.heap ws1 "java/lang/Enum" "ordinal" "I" (.int (1 : Int32))) (oSF2 : Fld Z Z.heap ws2 "java/lang/Enum" "ordinal" "I" (.int (2 : Int32))) (oSM : Sta Z Z.heap "com/example/slotsholmen/slotsholmen/schema/ObjectClass$1" "$SwitchMap$com$example$slotsholmen$slotsholmen$schema$Section" "[I" (.ref wm)) (oSV : Arv Z Z.heap wm km .int (3 : Int32) [(.int (1 : Int32)), (.int (2 : Int32)), (.int (3 : Int32))] (.int (0 : Int32))) (ws : List Jvm.Cond) (a1 : Addr) (h0 : Heap) (O0 : Ext Z.heap h0) :
    MetFree l (⟨"java/lang/Record", "<init>", "()V"⟩ : MethodName) (head1 (Jvm.Cond.code (⟨"java/lang/Record", "<init>", "()V"⟩ : MethodName) jdk_30_method_1_code 1 none :: ws) ({ frames := 1, cells := 0, slots := 0, locals := 12 } : Room)) (fun a U => a = #[(.ref a1)] ∧ Z.Warmed39 U.vm ∧ U.heap = h0) (fun _ _ _ _ _ => True) (fun _ U o U' => ∃ v L, o = .returned v ∧ (Q_recinit Z wd kd ws0 ws1 ws2 wm km a1 h0) v U'.heap L ∧ ReturnedEndW U o U' L ({ frames := 1, cells := 0, slots := 0, locals := 12 } : Room).cells ({ frames := 1, cells := 0, slots := 0, locals := 12 } : Room).slots) := by
  refine own_met (Q := (Q_recinit Z wd kd ws0 ws1 ws2 wm km a1 h0)) _ _ (plainFor_of_name own_pn_5) ?_
  intro p e s vm0 m below meth c T X0 hS hx hby hml hret hlk hZ hown hnm e0
  replace hown : (s.setVm vm0).vm.findClass "java/lang/Record" = some m.cls := hown
  replace hnm : meth.name = "<init>" := hnm
  have hml : c.maxLocals = 1 := hml
  have N0 := Fr.nil Z.heap.size
  have K0 := Keep.refl h0 []
  refine own_go (fun _ k => castTop (ef_recinit m a1) k) ?_
  show own_Go p e below s _ _ _ (T.setTop (mkF m 0 #[.val (.ref a1)] []))
  refine own_go (fun _ k => XS.aloadN X0.here hx rfl (hb hby d6_0) rfl rfl k) ?_
  show own_Go p e below s _ _ _ (T.setTop (mkF m 1 #[.val (.ref a1)] [(.ref a1)]))
  obtain ⟨T1, X1, e1, st1⟩ := initO X0 hx hZ hown (hw _ (List.mem_of_getElem? (i := 46) rfl)) (hw _ (List.mem_of_getElem? (i := 31) rfl)) (hw _ (List.mem_of_getElem? (i := 32) rfl)) e0 (g := (mkF m 1 #[.val (.ref a1)] [(.ref a1)])) rfl (by rw [hml]; rfl) rfl (hb hby d6_1) (by decide) (W := 0) (by show 2 * 0 + _ ≤ _; exact Nat.le_of_eq rfl) (by decide)
  refine own_go st1 ?_
  show own_Go p e below s _ _ _ (T1.setTop (mkF m 4 #[.val (.ref a1)] []))
  refine own_retV X1 hS hx hlk e1 hret (hb hby d6_4) (by show _ ≤ 0; omega) (by show _ ≤ 0; omega) ?_
  exact ⟨rfl, N0, rfl⟩
theorem d5_0 : decode prog_32_method_2_code 0 = .ok (.aload_n 0, 1) := by decide +kernel
theorem d5_1 : decode prog_32_method_2_code 1 = .ok (.invokespecial 1, 3) := by decide +kernel
theorem d5_4 : decode prog_32_method_2_code 4 = .ok (.aload_n 0, 1) := by decide +kernel
theorem d5_5 : decode prog_32_method_2_code 5 = .ok (.aload_n 1, 1) := by decide +kernel
theorem d5_6 : decode prog_32_method_2_code 6 = .ok (.putfield 7, 3) := by decide +kernel
theorem d5_9 : decode prog_32_method_2_code 9 = .ok (.aload_n 0, 1) := by decide +kernel
theorem d5_10 : decode prog_32_method_2_code 10 = .ok (.aload_n 2, 1) := by decide +kernel
theorem d5_11 : decode prog_32_method_2_code 11 = .ok (.putfield 13, 3) := by decide +kernel
theorem d5_14 : decode prog_32_method_2_code 14 = .ok (.return_, 1) := by decide +kernel
def Q_ginit (Z : State) (wd : Addr) (kd : ClassId) (ws0 : Addr) (ws1 : Addr) (ws2 : Addr) (wm : Addr) (km : ClassId) (a1 : Addr) (gv2 : Value) (gv3 : Value) (h0 : Heap) (v : Option Value) (h : Heap) (L : List Loc) : Prop := (v = none ∧ Fr Z.heap.size L ∧ Keep h0 h [a1] ∧ Exa Z h a1 "com/example/slotsholmen/slotsholmen/schema/Group" ∧ Fld Z h a1 "com/example/slotsholmen/slotsholmen/schema/Group" "name" "Ljava/lang/String;" gv2 ∧ Fld Z h a1 "com/example/slotsholmen/slotsholmen/schema/Group" "fields" "Ljava/util/List;" gv3)
theorem ef_ginit (m : MethodId) (x0 : Addr) (x1 : Value) (hx1 : x1.isRef = true) (x2 : Value) (hx2 : x2.isRef = true) : entryFrame m #[(.ref x0), x1, x2] 3 = mkF m 0 #[.val (.ref x0), .val x1, .val x2] [] := by first | (simp [entryFrame, mkF, argsToLocals, own_catR, own_catN, own_catI, own_catJ, own_cat1 hx1, own_cat1 hx2]; done) | rfl
set_option maxRecDepth 65536 in
set_option maxHeartbeats 40000000 in
theorem rm_ginit (l : Launch) (Z : State) (a0 : Array Value) (hw : ∀ d ∈ tables_1, d.before a0 Z = true) {wd : Addr} {kd : ClassId} {ws0 : Addr} {ws1 : Addr} {ws2 : Addr} {wm : Addr} {km : ClassId} (oDE : Sta Z Z.heap "java/util/ArrayList" "DEFAULTCAPACITY_EMPTY_ELEMENTDATA" "[Ljava/lang/Object;" (.ref wd)) (oDV : Arv Z Z.heap wd kd (.object "java/lang/Object") (0 : Int32) [] .null) (oS0 : Sta Z Z.heap "com/example/slotsholmen/slotsholmen/schema/Section" "ATTRIBUTES" "Lcom/example/slotsholmen/slotsholmen/schema/Section;" (.ref ws0)) (oS1 : Sta Z Z.heap "com/example/slotsholmen/slotsholmen/schema/Section" "STATES" "Lcom/example/slotsholmen/slotsholmen/schema/Section;" (.ref ws1)) (oS2 : Sta Z Z.heap "com/example/slotsholmen/slotsholmen/schema/Section" "RELATIONS" "Lcom/example/slotsholmen/slotsholmen/schema/Section;" (.ref ws2)) (oSE0 : Exa Z Z.heap ws0 "com/example/slotsholmen/slotsholmen/schema/Section") (oSE1 : Exa Z Z.heap ws1 "com/example/slotsholmen/slotsholmen/schema/Section") (oSE2 : Exa Z Z.heap ws2 "com/example/slotsholmen/slotsholmen/schema/Section") (oSF0 : Fld Z Z.heap ws0 "java/lang/Enum" "ordinal" "I" (.int (0 : Int32))) (oSF1 : Fld Z Z.heap ws1 "java/lang/Enum" "ordinal" "I" (.int (1 : Int32))) (oSF2 : Fld Z Z.heap ws2 "java/lang/Enum" "ordinal" "I" (.int (2 : Int32))) (oSM : Sta Z Z.heap "com/example/slotsholmen/slotsholmen/schema/ObjectClass$1" "$SwitchMap$com$example$slotsholmen$slotsholmen$schema$Section" "[I" (.ref wm)) (oSV : Arv Z Z.heap wm km .int (3 : Int32) [(.int (1 : Int32)), (.int (2 : Int32)), (.int (3 : Int32))] (.int (0 : Int32))) (ws : List Jvm.Cond) (a1 : Addr) (gv2 : Value) (gv3 : Value) (h0 : Heap) (O0 : Ext Z.heap h0) (r_gv2 : gv2.isRef = true) (r_gv3 : gv3.isRef = true) (f_E_a1 : Exa Z h0 a1 "com/example/slotsholmen/slotsholmen/schema/Group") (f_F_a1_name : Fld Z h0 a1 "com/example/slotsholmen/slotsholmen/schema/Group" "name" "Ljava/lang/String;" .null) (f_F_a1_fields : Fld Z h0 a1 "com/example/slotsholmen/slotsholmen/schema/Group" "fields" "Ljava/util/List;" .null) (big_a1 : Z.heap.size ≤ a1) :
    MetFree l (⟨"com/example/slotsholmen/slotsholmen/schema/Group", "<init>", "(Ljava/lang/String;Ljava/util/List;)V"⟩ : MethodName) (head1 (Jvm.Cond.code (⟨"com/example/slotsholmen/slotsholmen/schema/Group", "<init>", "(Ljava/lang/String;Ljava/util/List;)V"⟩ : MethodName) prog_32_method_2_code 3 none :: ws) ({ frames := 2, cells := 0, slots := 0, locals := 24 } : Room)) (fun a U => a = #[(.ref a1), gv2, gv3] ∧ Z.Warmed39 U.vm ∧ U.heap = h0) (fun _ _ _ _ _ => True) (fun _ U o U' => ∃ v L, o = .returned v ∧ (Q_ginit Z wd kd ws0 ws1 ws2 wm km a1 gv2 gv3 h0) v U'.heap L ∧ ReturnedEndW U o U' L ({ frames := 2, cells := 0, slots := 0, locals := 24 } : Room).cells ({ frames := 2, cells := 0, slots := 0, locals := 24 } : Room).slots) := by
  refine own_met (Q := (Q_ginit Z wd kd ws0 ws1 ws2 wm km a1 gv2 gv3 h0)) _ _ (plainFor_of_name own_pn_6) ?_
  intro p e s vm0 m below meth c T X0 hS hx hby hml hret hlk hZ hown hnm e0
  replace hown : (s.setVm vm0).vm.findClass "com/example/slotsholmen/slotsholmen/schema/Group" = some m.cls := hown
  replace hnm : meth.name = "<init>" := hnm
  have hml : c.maxLocals = 3 := hml
  have N0 := Fr.nil Z.heap.size
  have K0 := Keep.refl h0 [a1]
  refine own_go (fun _ k => castTop (ef_ginit m a1 gv2 r_gv2 gv3 r_gv3) k) ?_
  show own_Go p e below s _ _ _ (T.setTop (mkF m 0 #[.val (.ref a1), .val gv2, .val gv3] []))
  refine own_go (fun _ k => XS.aloadN X0.here hx rfl (hb hby d5_0) rfl rfl k) ?_
  show own_Go p e below s _ _ _ (T.setTop (mkF m 1 #[.val (.ref a1), .val gv2, .val gv3] [(.ref a1)]))
  obtain ⟨v1, T1, L1, X1, hSn, hZn, hownn, hQ1, st1⟩ := own_callI (y := (⟨"java/lang/Record", "<init>", "()V"⟩ : MethodName)) X0 hS hx hZ hown (hw _ (List.mem_of_getElem? (i := 41) rfl)) (hw _ (List.mem_of_getElem? (i := 42) rfl)) (hw _ (List.mem_of_getElem? (i := 44) rfl)) (hw _ (List.mem_of_getElem? (i := 45) rfl)) (rm_recinit l Z a0 hw oDE oDV oS0 oS1 oS2 oSE0 oSE1 oSE2 oSF0 oSF1 oSF2 oSM oSV [] a1 h0 O0) 0 0 0 rfl rfl rfl (by decide) (by decide) (by decide) (by show _ ≤ 0; omega) (by show _ ≤ 0; omega) e0 (g := (mkF m 1 #[.val (.ref a1), .val gv2, .val gv3] [(.ref a1)])) rfl (by rw [hml]; rfl) a1 [] [] (lenOf own_pd_0 rfl) rfl rfl (by show 2 * 0 + _ ≤ _; exact Nat.le_of_eq rfl) (hb hby d5_1)
  replace hS := hSn
  replace hZ := hZn
  replace hown := hownn
  clear hSn hZn hownn
  obtain ⟨rfl, Nc3, Kc2⟩ := hQ1
  refine own_go st1 ?_
  have N4 := Fr.app N0 Nc3
  rw [Kc2] at hS
  show own_Go p e below s _ _ _ (T1.setTop (mkF m 4 #[.val (.ref a1), .val gv2, .val gv3] []))
  refine own_go (fun _ k => XS.aloadN X1.here hx rfl (hb hby d5_4) rfl rfl k) ?_
  show own_Go p e below s _ _ _ (T1.setTop (mkF m 5 #[.val (.ref a1), .val gv2, .val gv3] [(.ref a1)]))
  refine own_go (fun _ k => XS.aloadN X1.here hx rfl (hb hby d5_5) rfl r_gv2 k) ?_
  show own_Go p e below s _ _ _ (T1.setTop (mkF m 6 #[.val (.ref a1), .val gv2, .val gv3] [gv2, (.ref a1)]))
  obtain ⟨T5, h5, X5, e5, W5, st5⟩ := putF X1 hx hZ hown (host := "") (Or.inl (hw _ (List.mem_of_getElem? (i := 47) rfl))) Via.refl Kc2 f_F_a1_name f_E_a1 (Or.inr ⟨(hw _ (List.mem_of_getElem? (i := 48) rfl)), rfl, hnm⟩) (hw _ (List.mem_of_getElem? (i := 2) rfl)) (ty := (.object "java/lang/String")) (by decide) (own_narRef _ r_gv2 (by decide)) (own_fitsRef _ r_gv2 (by decide)) (g := (mkF m 6 #[.val (.ref a1), .val gv2, .val gv3] [gv2, (.ref a1)])) rfl rfl (hb hby d5_6)
  refine own_go st5 ?_
  have N6 := Fr.snoc X5 N4 big_a1
  have f7 : Exa Z h5 a1 "com/example/slotsholmen/slotsholmen/schema/Group" := f_E_a1.wr W5
  have f8 : Fld Z h5 a1 "com/example/slotsholmen/slotsholmen/schema/Group" "name" "Ljava/lang/String;" gv2 := f_F_a1_name.same W5
  have f9 : Fld Z h5 a1 "com/example/slotsholmen/slotsholmen/schema/Group" "fields" "Ljava/util/List;" .null := f_F_a1_fields.other W5 (Or.inr (slot_ne (Or.inr (hw _ (List.mem_of_getElem? (i := 50) rfl))) (Or.inr (hw _ (List.mem_of_getElem? (i := 48) rfl))) (by decide) (t := (.object "java/util/List")) (t' := (.object "java/lang/String")) (by decide) (by decide)))
  have O10 := own_oldWr O0 W5 big_a1
  replace hS := own_since hS (Nat.le_of_eq W5.size.symm)
  have K11 : Keep h0 h5 [a1] := K0.wr W5 (Or.inl (List.mem_of_getElem? (i := 0) rfl))
  show own_Go p e below s _ _ _ (T5.setTop (mkF m 9 #[.val (.ref a1), .val gv2, .val gv3] []))
  refine own_go (fun _ k => XS.aloadN X5.here hx rfl (hb hby d5_9) rfl rfl k) ?_
  show own_Go p e below s _ _ _ (T5.setTop (mkF m 10 #[.val (.ref a1), .val gv2, .val gv3] [(.ref a1)]))
  refine own_go (fun _ k => XS.aloadN X5.here hx rfl (hb hby d5_10) rfl r_gv3 k) ?_
  show own_Go p e below s _ _ _ (T5.setTop (mkF m 11 #[.val (.ref a1), .val gv2, .val gv3] [gv3, (.ref a1)]))
  obtain ⟨T12, h12, X12, e12, W12, st12⟩ := putF X5 hx hZ hown (host := "") (Or.inl (hw _ (List.mem_of_getElem? (i := 49) rfl))) Via.refl e5 f9 f7 (Or.inr ⟨(hw _ (List.mem_of_getElem? (i := 50) rfl)), rfl, hnm⟩) (hw _ (List.mem_of_getElem? (i := 2) rfl)) (ty := (.object "java/util/List")) (by decide) (own_narRef _ r_gv3 (by decide)) (own_fitsRef _ r_gv3 (by decide)) (g := (mkF m 11 #[.val (.ref a1), .val gv2, .val gv3] [gv3, (.ref a1)])) rfl rfl (hb hby d5_11)
  refine own_go st12 ?_
  have N13 := Fr.snoc X12 N6 big_a1
  have f14 : Exa Z h12 a1 "com/example/slotsholmen/slotsholmen/schema/Group" := f7.wr W12
  have f15 : Fld Z h12 a1 "com/example/slotsholmen/slotsholmen/schema/Group" "name" "Ljava/lang/String;" gv2 := f8.other W12 (Or.inr (slot_ne (Or.inr (hw _ (List.mem_of_getElem? (i := 48) rfl))) (Or.inr (hw _ (List.mem_of_getElem? (i := 50) rfl))) (by decide) (t := (.object "java/lang/String")) (t' := (.object "java/util/List")) (by decide) (by decide)))
  have f16 : Fld Z h12 a1 "com/example/slotsholmen/slotsholmen/schema/Group" "fields" "Ljava/util/List;" gv3 := f9.same W12
  have O17 := own_oldWr O10 W12 big_a1
  replace hS := own_since hS (Nat.le_of_eq W12.size.symm)
  have K18 : Keep h0 h12 [a1] := K11.wr W12 (Or.inl (List.mem_of_getElem? (i := 0) rfl))
  show own_Go p e below s _ _ _ (T12.setTop (mkF m 14 #[.val (.ref a1), .val gv2, .val gv3] []))
  refine own_retV X12 hS hx hlk e12 hret (hb hby d5_14) (by show _ ≤ 0; omega) (by show _ ≤ 0; omega) ?_
  exact ⟨rfl, N13, K18, f14, f15, f16⟩
theorem d12_0 : decode prog_33_method_1_code 0 = .ok (.aload_n 0, 1) := by decide +kernel
theorem d12_1 : decode prog_33_method_1_code 1 = .ok (.invokespecial 1, 3) := by decide +kernel
theorem d12_4 : decode prog_33_method_1_code 4 = .ok (.aload_n 0, 1) := by decide +kernel
theorem d12_5 : decode prog_33_method_1_code 5 = .ok (.aload_n 1, 1) := by decide +kernel
theorem d12_6 : decode prog_33_method_1_code 6 = .ok (.putfield 7, 3) := by decide +kernel
theorem d12_9 : decode prog_33_method_1_code 9 = .ok (.aload_n 0, 1) := by decide +kernel
theorem d12_10 : decode prog_33_method_1_code 10 = .ok (.aload_n 2, 1) := by decide +kernel
theorem d12_11 : decode prog_33_method_1_code 11 = .ok (.putfield 13, 3) := by decide +kernel
theorem d12_14 : decode prog_33_method_1_code 14 = .ok (.aload_n 0, 1) := by decide +kernel
theorem d12_15 : decode prog_33_method_1_code 15 = .ok (.aload_n 3, 1) := by decide +kernel
theorem d12_16 : decode prog_33_method_1_code 16 = .ok (.putfield 16, 3) := by decide +kernel
theorem d12_19 : decode prog_33_method_1_code 19 = .ok (.aload_n 0, 1) := by decide +kernel
theorem d12_20 : decode prog_33_method_1_code 20 = .ok (.aload 4, 2) := by decide +kernel
theorem d12_22 : decode prog_33_method_1_code 22 = .ok (.putfield 19, 3) := by decide +kernel
theorem d12_25 : decode prog_33_method_1_code 25 = .ok (.aload_n 0, 1) := by decide +kernel
theorem d12_26 : decode prog_33_method_1_code 26 = .ok (.aload 5, 2) := by decide +kernel
theorem d12_28 : decode prog_33_method_1_code 28 = .ok (.putfield 23, 3) := by decide +kernel
theorem d12_31 : decode prog_33_method_1_code 31 = .ok (.aload_n 0, 1) := by decide +kernel
theorem d12_32 : decode prog_33_method_1_code 32 = .ok (.aload 6, 2) := by decide +kernel
theorem d12_34 : decode prog_33_method_1_code 34 = .ok (.putfield 26, 3) := by decide +kernel
theorem d12_37 : decode prog_33_method_1_code 37 = .ok (.return_, 1) := by decide +kernel
def Q_ocinit (Z : State) (wd : Addr) (kd : ClassId) (ws0 : Addr) (ws1 : Addr) (ws2 : Addr) (wm : Addr) (km : ClassId) (a1 : Addr) (gv2 : Value) (gv3 : Value) (gv4 : Value) (gv5 : Value) (gv6 : Value) (gv7 : Value) (h0 : Heap) (v : Option Value) (h : Heap) (L : List Loc) : Prop := (v = none ∧ Fr Z.heap.size L ∧ Keep h0 h [a1] ∧ Exa Z h a1 "com/example/slotsholmen/slotsholmen/schema/ObjectClass" ∧ Fld Z h a1 "com/example/slotsholmen/slotsholmen/schema/ObjectClass" "service" "Ljava/lang/String;" gv2 ∧ Fld Z h a1 "com/example/slotsholmen/slotsholmen/schema/ObjectClass" "name" "Ljava/lang/String;" gv3 ∧ Fld Z h a1 "com/example/slotsholmen/slotsholmen/schema/ObjectClass" "title" "Ljava/lang/String;" gv4 ∧ Fld Z h a1 "com/example/slotsholmen/slotsholmen/schema/ObjectClass" "attributes" "Ljava/util/List;" gv5 ∧ Fld Z h a1 "com/example/slotsholmen/slotsholmen/schema/ObjectClass" "states" "Ljava/util/List;" gv6 ∧ Fld Z h a1 "com/example/slotsholmen/slotsholmen/schema/ObjectClass" "relations" "Ljava/util/List;" gv7)
theorem ef_ocinit (m : MethodId) (x0 : Addr) (x1 : Value) (hx1 : x1.isRef = true) (x2 : Value) (hx2 : x2.isRef = true) (x3 : Value) (hx3 : x3.isRef = true) (x4 : Value) (hx4 : x4.isRef = true) (x5 : Value) (hx5 : x5.isRef = true) (x6 : Value) (hx6 : x6.isRef = true) : entryFrame m #[(.ref x0), x1, x2, x3, x4, x5, x6] 7 = mkF m 0 #[.val (.ref x0), .val x1, .val x2, .val x3, .val x4, .val x5, .val x6] [] := by first | (simp [entryFrame, mkF, argsToLocals, own_catR, own_catN, own_catI, own_catJ, own_cat1 hx1, own_cat1 hx2, own_cat1 hx3, own_cat1 hx4, own_cat1 hx5, own_cat1 hx6]; done) | rfl
set_option maxRecDepth 65536 in
set_option maxHeartbeats 40000000 in
theorem rm_ocinit (l : Launch) (Z : State) (a0 : Array Value) (hw : ∀ d ∈ tables_1, d.before a0 Z = true) {wd : Addr} {kd : ClassId} {ws0 : Addr} {ws1 : Addr} {ws2 : Addr} {wm : Addr} {km : ClassId} (oDE : Sta Z Z.heap "java/util/ArrayList" "DEFAULTCAPACITY_EMPTY_ELEMENTDATA" "[Ljava/lang/Object;" (.ref wd)) (oDV : Arv Z Z.heap wd kd (.object "java/lang/Object") (0 : Int32) [] .null) (oS0 : Sta Z Z.heap "com/example/slotsholmen/slotsholmen/schema/Section" "ATTRIBUTES" "Lcom/example/slotsholmen/slotsholmen/schema/Section;" (.ref ws0)) (oS1 : Sta Z Z.heap "com/example/slotsholmen/slotsholmen/schema/Section" "STATES" "Lcom/example/slotsholmen/slotsholmen/schema/Section;" (.ref ws1)) (oS2 : Sta Z Z.heap "com/example/slotsholmen/slotsholmen/schema/Section" "RELATIONS" "Lcom/example/slotsholmen/slotsholmen/schema/Section;" (.ref ws2)) (oSE0 : Exa Z Z.heap ws0 "com/example/slotsholmen/slotsholmen/schema/Section") (oSE1 : Exa Z Z.heap ws1 "com/example/slotsholmen/slotsholmen/schema/Section") (oSE2 : Exa Z Z.heap ws2 "com/example/slotsholmen/slotsholmen/schema/Section") (oSF0 : Fld Z Z.heap ws0 "java/lang/Enum" "ordinal" "I" (.int (0 : Int32))) (oSF1 : Fld Z Z.heap ws1 "java/lang/Enum" "ordinal" "I" (.int (1 : Int32))) (oSF2 : Fld Z Z.heap ws2 "java/lang/Enum" "ordinal" "I" (.int (2 : Int32))) (oSM : Sta Z Z.heap "com/example/slotsholmen/slotsholmen/schema/ObjectClass$1" "$SwitchMap$com$example$slotsholmen$slotsholmen$schema$Section" "[I" (.ref wm)) (oSV : Arv Z Z.heap wm km .int (3 : Int32) [(.int (1 : Int32)), (.int (2 : Int32)), (.int (3 : Int32))] (.int (0 : Int32))) (ws : List Jvm.Cond) (a1 : Addr) (gv2 : Value) (gv3 : Value) (gv4 : Value) (gv5 : Value) (gv6 : Value) (gv7 : Value) (h0 : Heap) (O0 : Ext Z.heap h0) (r_gv2 : gv2.isRef = true) (r_gv3 : gv3.isRef = true) (r_gv4 : gv4.isRef = true) (r_gv5 : gv5.isRef = true) (r_gv6 : gv6.isRef = true) (r_gv7 : gv7.isRef = true) (f_E_a1 : Exa Z h0 a1 "com/example/slotsholmen/slotsholmen/schema/ObjectClass") (f_F_a1_service : Fld Z h0 a1 "com/example/slotsholmen/slotsholmen/schema/ObjectClass" "service" "Ljava/lang/String;" .null) (f_F_a1_name : Fld Z h0 a1 "com/example/slotsholmen/slotsholmen/schema/ObjectClass" "name" "Ljava/lang/String;" .null) (f_F_a1_title : Fld Z h0 a1 "com/example/slotsholmen/slotsholmen/schema/ObjectClass" "title" "Ljava/lang/String;" .null) (f_F_a1_attributes : Fld Z h0 a1 "com/example/slotsholmen/slotsholmen/schema/ObjectClass" "attributes" "Ljava/util/List;" .null) (f_F_a1_states : Fld Z h0 a1 "com/example/slotsholmen/slotsholmen/schema/ObjectClass" "states" "Ljava/util/List;" .null) (f_F_a1_relations : Fld Z h0 a1 "com/example/slotsholmen/slotsholmen/schema/ObjectClass" "relations" "Ljava/util/List;" .null) (big_a1 : Z.heap.size ≤ a1) :
    MetFree l (⟨"com/example/slotsholmen/slotsholmen/schema/ObjectClass", "<init>", "(Ljava/lang/String;Ljava/lang/String;Ljava/lang/String;Ljava/util/List;Ljava/util/List;Ljava/util/List;)V"⟩ : MethodName) (head1 (Jvm.Cond.code (⟨"com/example/slotsholmen/slotsholmen/schema/ObjectClass", "<init>", "(Ljava/lang/String;Ljava/lang/String;Ljava/lang/String;Ljava/util/List;Ljava/util/List;Ljava/util/List;)V"⟩ : MethodName) prog_33_method_1_code 7 none :: ws) ({ frames := 2, cells := 0, slots := 0, locals := 24 } : Room)) (fun a U => a = #[(.ref a1), gv2, gv3, gv4, gv5, gv6, gv7] ∧ Z.Warmed39 U.vm ∧ U.heap = h0) (fun _ _ _ _ _ => True) (fun _ U o U' => ∃ v L, o = .returned v ∧ (Q_ocinit Z wd kd ws0 ws1 ws2 wm km a1 gv2 gv3 gv4 gv5 gv6 gv7 h0) v U'.heap L ∧ ReturnedEndW U o U' L ({ frames := 2, cells := 0, slots := 0, locals := 24 } : Room).cells ({ frames := 2, cells := 0, slots := 0, locals := 24 } : Room).slots) := by
  refine own_met (Q := (Q_ocinit Z wd kd ws0 ws1 ws2 wm km a1 gv2 gv3 gv4 gv5 gv6 gv7 h0)) _ _ (plainFor_of_name own_pn_7) ?_
  intro p e s vm0 m below meth c T X0 hS hx hby hml hret hlk hZ hown hnm e0
  replace hown : (s.setVm vm0).vm.findClass "com/example/slotsholmen/slotsholmen/schema/ObjectClass" = some m.cls := hown
  replace hnm : meth.name = "<init>" := hnm
  have hml : c.maxLocals = 7 := hml
  have N0 := Fr.nil Z.heap.size
  have K0 := Keep.refl h0 [a1]
  refine own_go (fun _ k => castTop (ef_ocinit m a1 gv2 r_gv2 gv3 r_gv3 gv4 r_gv4 gv5 r_gv5 gv6 r_gv6 gv7 r_gv7) k) ?_
  show own_Go p e below s _ _ _ (T.setTop (mkF m 0 #[.val (.ref a1), .val gv2, .val gv3, .val gv4, .val gv5, .val gv6, .val gv7] []))
  refine own_go (fun _ k => XS.aloadN X0.here hx rfl (hb hby d12_0) rfl rfl k) ?_
  show own_Go p e below s _ _ _ (T.setTop (mkF m 1 #[.val (.ref a1), .val gv2, .val gv3, .val gv4, .val gv5, .val gv6, .val gv7] [(.ref a1)]))
  obtain ⟨v1, T1, L1, X1, hSn, hZn, hownn, hQ1, st1⟩ := own_callI (y := (⟨"java/lang/Record", "<init>", "()V"⟩ : MethodName)) X0 hS hx hZ hown (hw _ (List.mem_of_getElem? (i := 93) rfl)) (hw _ (List.mem_of_getElem? (i := 42) rfl)) (hw _ (List.mem_of_getElem? (i := 44) rfl)) (hw _ (List.mem_of_getElem? (i := 45) rfl)) (rm_recinit l Z a0 hw oDE oDV oS0 oS1 oS2 oSE0 oSE1 oSE2 oSF0 oSF1 oSF2 oSM oSV [] a1 h0 O0) 0 0 0 rfl rfl rfl (by decide) (by decide) (by decide) (by show _ ≤ 0; omega) (by show _ ≤ 0; omega) e0 (g := (mkF m 1 #[.val (.ref a1), .val gv2, .val gv3, .val gv4, .val gv5, .val gv6, .val gv7] [(.ref a1)])) rfl (by rw [hml]; rfl) a1 [] [] (lenOf own_pd_0 rfl) rfl rfl (by show 2 * 0 + _ ≤ _; exact Nat.le_of_eq rfl) (hb hby d12_1)
  replace hS := hSn
  replace hZ := hZn
  replace hown := hownn
  clear hSn hZn hownn
  obtain ⟨rfl, Nc3, Kc2⟩ := hQ1
  refine own_go st1 ?_
  have N4 := Fr.app N0 Nc3
  rw [Kc2] at hS
  show own_Go p e below s _ _ _ (T1.setTop (mkF m 4 #[.val (.ref a1), .val gv2, .val gv3, .val gv4, .val gv5, .val gv6, .val gv7] []))
  refine own_go (fun _ k => XS.aloadN X1.here hx rfl (hb hby d12_4) rfl rfl k) ?_
  show own_Go p e below s _ _ _ (T1.setTop (mkF m 5 #[.val (.ref a1), .val gv2, .val gv3, .val gv4, .val gv5, .val gv6, .val gv7] [(.ref a1)]))
  refine own_go (fun _ k => XS.aloadN X1.here hx rfl (hb hby d12_5) rfl r_gv2 k) ?_
  show own_Go p e below s _ _ _ (T1.setTop (mkF m 6 #[.val (.ref a1), .val gv2, .val gv3, .val gv4, .val gv5, .val gv6, .val gv7] [gv2, (.ref a1)]))
  obtain ⟨T5, h5, X5, e5, W5, st5⟩ := putF X1 hx hZ hown (host := "") (Or.inl (hw _ (List.mem_of_getElem? (i := 94) rfl))) Via.refl Kc2 f_F_a1_service f_E_a1 (Or.inr ⟨(hw _ (List.mem_of_getElem? (i := 95) rfl)), rfl, hnm⟩) (hw _ (List.mem_of_getElem? (i := 85) rfl)) (ty := (.object "java/lang/String")) (by decide) (own_narRef _ r_gv2 (by decide)) (own_fitsRef _ r_gv2 (by decide)) (g := (mkF m 6 #[.val (.ref a1), .val gv2, .val gv3, .val gv4, .val gv5, .val gv6, .val gv7] [gv2, (.ref a1)])) rfl rfl (hb hby d12_6)
  refine own_go st5 ?_
  have N6 := Fr.snoc X5 N4 big_a1
  have f7 : Exa Z h5 a1 "com/example/slotsholmen/slotsholmen/schema/ObjectClass" := f_E_a1.wr W5
  have f8 : Fld Z h5 a1 "com/example/slotsholmen/slotsholmen/schema/ObjectClass" "service" "Ljava/lang/String;" gv2 := f_F_a1_service.same W5
  have f9 : Fld Z h5 a1 "com/example/slotsholmen/slotsholmen/schema/ObjectClass" "name" "Ljava/lang/String;" .null := f_F_a1_name.other W5 (Or.inr (slot_ne (Or.inr (hw _ (List.mem_of_getElem? (i := 97) rfl))) (Or.inr (hw _ (List.mem_of_getElem? (i := 95) rfl))) (by decide) (t := (.object "java/lang/String")) (t' := (.object "java/lang/String")) (by decide) (by decide)))
  have f10 : Fld Z h5 a1 "com/example/slotsholmen/slotsholmen/schema/ObjectClass" "title" "Ljava/lang/String;" .null := f_F_a1_title.other W5 (Or.inr (slot_ne (Or.inr (hw _ (List.mem_of_getElem? (i := 99) rfl))) (Or.inr (hw _ (List.mem_of_getElem? (i := 95) rfl))) (by decide) (t := (.object "java/lang/String")) (t' := (.object "java/lang/String")) (by decide) (by decide)))
  have f11 : Fld Z h5 a1 "com/example/slotsholmen/slotsholmen/schema/ObjectClass" "attributes" "Ljava/util/List;" .null := f_F_a1_attributes.other W5 (Or.inr (slot_ne (Or.inr (hw _ (List.mem_of_getElem? (i := 101) rfl))) (Or.inr (hw _ (List.mem_of_getElem? (i := 95) rfl))) (by decide) (t := (.object "java/util/List")) (t' := (.object "java/lang/String")) (by decide) (by decide)))
  have f12 : Fld Z h5 a1 "com/example/slotsholmen/slotsholmen/schema/ObjectClass" "states" "Ljava/util/List;" .null := f_F_a1_states.other W5 (Or.inr (slot_ne (Or.inr (hw _ (List.mem_of_getElem? (i := 103) rfl))) (Or.inr (hw _ (List.mem_of_getElem? (i := 95) rfl))) (by decide) (t := (.object "java/util/List")) (t' := (.object "java/lang/String")) (by decide) (by decide)))
  have f13 : Fld Z h5 a1 "com/example/slotsholmen/slotsholmen/schema/ObjectClass" "relations" "Ljava/util/List;" .null := f_F_a1_relations.other W5 (Or.inr (slot_ne (Or.inr (hw _ (List.mem_of_getElem? (i := 105) rfl))) (Or.inr (hw _ (List.mem_of_getElem? (i := 95) rfl))) (by decide) (t := (.object "java/util/List")) (t' := (.object "java/lang/String")) (by decide) (by decide)))
  have O14 := own_oldWr O0 W5 big_a1
  replace hS := own_since hS (Nat.le_of_eq W5.size.symm)
  have K15 : Keep h0 h5 [a1] := K0.wr W5 (Or.inl (List.mem_of_getElem? (i := 0) rfl))
  show own_Go p e below s _ _ _ (T5.setTop (mkF m 9 #[.val (.ref a1), .val gv2, .val gv3, .val gv4, .val gv5, .val gv6, .val gv7] []))
  refine own_go (fun _ k => XS.aloadN X5.here hx rfl (hb hby d12_9) rfl rfl k) ?_
  show own_Go p e below s _ _ _ (T5.setTop (mkF m 10 #[.val (.ref a1), .val gv2, .val gv3, .val gv4, .val gv5, .val gv6, .val gv7] [(.ref a1)]))
  refine own_go (fun _ k => XS.aloadN X5.here hx rfl (hb hby d12_10) rfl r_gv3 k) ?_
  show own_Go p e below s _ _ _ (T5.setTop (mkF m 11 #[.val (.ref a1), .val gv2, .val gv3, .val gv4, .val gv5, .val gv6, .val gv7] [gv3, (.ref a1)]))
  obtain ⟨T16, h16, X16, e16, W16, st16⟩ := putF X5 hx hZ hown (host := "") (Or.inl (hw _ (List.mem_of_getElem? (i := 96) rfl))) Via.refl e5 f9 f7 (Or.inr ⟨(hw _ (List.mem_of_getElem? (i := 97) rfl)), rfl, hnm⟩) (hw _ (List.mem_of_getElem? (i := 85) rfl)) (ty := (.object "java/lang/String")) (by decide) (own_narRef _ r_gv3 (by decide)) (own_fitsRef _ r_gv3 (by decide)) (g := (mkF m 11 #[.val (.ref a1), .val gv2, .val gv3, .val gv4, .val gv5, .val gv6, .val gv7] [gv3, (.ref a1)])) rfl rfl (hb hby d12_11)
  refine own_go st16 ?_
  have N17 := Fr.snoc X16 N6 big_a1
  have f18 : Exa Z h16 a1 "com/example/slotsholmen/slotsholmen/schema/ObjectClass" := f7.wr W16
  have f19 : Fld Z h16 a1 "com/example/slotsholmen/slotsholmen/schema/ObjectClass" "service" "Ljava/lang/String;" gv2 := f8.other W16 (Or.inr (slot_ne (Or.inr (hw _ (List.mem_of_getElem? (i := 95) rfl))) (Or.inr (hw _ (List.mem_of_getElem? (i := 97) rfl))) (by decide) (t := (.object "java/lang/String")) (t' := (.object "java/lang/String")) (by decide) (by decide)))
  have f20 : Fld Z h16 a1 "com/example/slotsholmen/slotsholmen/schema/ObjectClass" "name" "Ljava/lang/String;" gv3 := f9.same W16
  have f21 : Fld Z h16 a1 "com/example/slotsholmen/slotsholmen/schema/ObjectClass" "title" "Ljava/lang/String;" .null := f10.other W16 (Or.inr (slot_ne (Or.inr (hw _ (List.mem_of_getElem? (i := 99) rfl))) (Or.inr (hw _ (List.mem_of_getElem? (i := 97) rfl))) (by decide) (t := (.object "java/lang/String")) (t' := (.object "java/lang/String")) (by decide) (by decide)))
  have f22 : Fld Z h16 a1 "com/example/slotsholmen/slotsholmen/schema/ObjectClass" "attributes" "Ljava/util/List;" .null := f11.other W16 (Or.inr (slot_ne (Or.inr (hw _ (List.mem_of_getElem? (i := 101) rfl))) (Or.inr (hw _ (List.mem_of_getElem? (i := 97) rfl))) (by decide) (t := (.object "java/util/List")) (t' := (.object "java/lang/String")) (by decide) (by decide)))
  have f23 : Fld Z h16 a1 "com/example/slotsholmen/slotsholmen/schema/ObjectClass" "states" "Ljava/util/List;" .null := f12.other W16 (Or.inr (slot_ne (Or.inr (hw _ (List.mem_of_getElem? (i := 103) rfl))) (Or.inr (hw _ (List.mem_of_getElem? (i := 97) rfl))) (by decide) (t := (.object "java/util/List")) (t' := (.object "java/lang/String")) (by decide) (by decide)))
  have f24 : Fld Z h16 a1 "com/example/slotsholmen/slotsholmen/schema/ObjectClass" "relations" "Ljava/util/List;" .null := f13.other W16 (Or.inr (slot_ne (Or.inr (hw _ (List.mem_of_getElem? (i := 105) rfl))) (Or.inr (hw _ (List.mem_of_getElem? (i := 97) rfl))) (by decide) (t := (.object "java/util/List")) (t' := (.object "java/lang/String")) (by decide) (by decide)))
  have O25 := own_oldWr O14 W16 big_a1
  replace hS := own_since hS (Nat.le_of_eq W16.size.symm)
  have K26 : Keep h0 h16 [a1] := K15.wr W16 (Or.inl (List.mem_of_getElem? (i := 0) rfl))
  show own_Go p e below s _ _ _ (T16.setTop (mkF m 14 #[.val (.ref a1), .val gv2, .val gv3, .val gv4, .val gv5, .val gv6, .val gv7] []))
  refine own_go (fun _ k => XS.aloadN X16.here hx rfl (hb hby d12_14) rfl rfl k) ?_
  show own_Go p e below s _ _ _ (T16.setTop (mkF m 15 #[.val (.ref a1), .val gv2, .val gv3, .val gv4, .val gv5, .val gv6, .val gv7] [(.ref a1)]))
  refine own_go (fun _ k => XS.aloadN X16.here hx rfl (hb hby d12_15) rfl r_gv4 k) ?_
  show own_Go p e below s _ _ _ (T16.setTop (mkF m 16 #[.val (.ref a1), .val gv2, .val gv3, .val gv4, .val gv5, .val gv6, .val gv7] [gv4, (.ref a1)]))
  obtain ⟨T27, h27, X27, e27, W27, st27⟩ := putF X16 hx hZ hown (host := "") (Or.inl (hw _ (List.mem_of_getElem? (i := 98) rfl))) Via.refl e16 f21 f18 (Or.inr ⟨(hw _ (List.mem_of_getElem? (i := 99) rfl)), rfl, hnm⟩) (hw _ (List.mem_of_getElem? (i := 85) rfl)) (ty := (.object "java/lang/String")) (by decide) (own_narRef _ r_gv4 (by decide)) (own_fitsRef _ r_gv4 (by decide)) (g := (mkF m 16 #[.val (.ref a1), .val gv2, .val gv3, .val gv4, .val gv5, .val gv6, .val gv7] [gv4, (.ref a1)])) rfl rfl (hb hby d12_16)
  refine own_go st27 ?_
  have N28 := Fr.snoc X27 N17 big_a1
  have f29 : Exa Z h27 a1 "com/example/slotsholmen/slotsholmen/schema/ObjectClass" := f18.wr W27
  have f30 : Fld Z h27 a1 "com/example/slotsholmen/slotsholmen/schema/ObjectClass" "service" "Ljava/lang/String;" gv2 := f19.other W27 (Or.inr (slot_ne (Or.inr (hw _ (List.mem_of_getElem? (i := 95) rfl))) (Or.inr (hw _ (List.mem_of_getElem? (i := 99) rfl))) (by decide) (t := (.object "java/lang/String")) (t' := (.object "java/lang/String")) (by decide) (by decide)))
  have f31 : Fld Z h27 a1 "com/example/slotsholmen/slotsholmen/schema/ObjectClass" "name" "Ljava/lang/String;" gv3 := f20.other W27 (Or.inr (slot_ne (Or.inr (hw _ (List.mem_of_getElem? (i := 97) rfl))) (Or.inr (hw _ (List.mem_of_getElem? (i := 99) rfl))) (by decide) (t := (.object "java/lang/String")) (t' := (.object "java/lang/String")) (by decide) (by decide)))
  have f32 : Fld Z h27 a1 "com/example/slotsholmen/slotsholmen/schema/ObjectClass" "title" "Ljava/lang/String;" gv4 := f21.same W27
  have f33 : Fld Z h27 a1 "com/example/slotsholmen/slotsholmen/schema/ObjectClass" "attributes" "Ljava/util/List;" .null := f22.other W27 (Or.inr (slot_ne (Or.inr (hw _ (List.mem_of_getElem? (i := 101) rfl))) (Or.inr (hw _ (List.mem_of_getElem? (i := 99) rfl))) (by decide) (t := (.object "java/util/List")) (t' := (.object "java/lang/String")) (by decide) (by decide)))
  have f34 : Fld Z h27 a1 "com/example/slotsholmen/slotsholmen/schema/ObjectClass" "states" "Ljava/util/List;" .null := f23.other W27 (Or.inr (slot_ne (Or.inr (hw _ (List.mem_of_getElem? (i := 103) rfl))) (Or.inr (hw _ (List.mem_of_getElem? (i := 99) rfl))) (by decide) (t := (.object "java/util/List")) (t' := (.object "java/lang/String")) (by decide) (by decide)))
  have f35 : Fld Z h27 a1 "com/example/slotsholmen/slotsholmen/schema/ObjectClass" "relations" "Ljava/util/List;" .null := f24.other W27 (Or.inr (slot_ne (Or.inr (hw _ (List.mem_of_getElem? (i := 105) rfl))) (Or.inr (hw _ (List.mem_of_getElem? (i := 99) rfl))) (by decide) (t := (.object "java/util/List")) (t' := (.object "java/lang/String")) (by decide) (by decide)))
  have O36 := own_oldWr O25 W27 big_a1
  replace hS := own_since hS (Nat.le_of_eq W27.size.symm)
  have K37 : Keep h0 h27 [a1] := K26.wr W27 (Or.inl (List.mem_of_getElem? (i := 0) rfl))
  show own_Go p e below s _ _ _ (T27.setTop (mkF m 19 #[.val (.ref a1), .val gv2, .val gv3, .val gv4, .val gv5, .val gv6, .val gv7] []))
  refine own_go (fun _ k => XS.aloadN X27.here hx rfl (hb hby d12_19) rfl rfl k) ?_
  show own_Go p e below s _ _ _ (T27.setTop (mkF m 20 #[.val (.ref a1), .val gv2, .val gv3, .val gv4, .val gv5, .val gv6, .val gv7] [(.ref a1)]))
  refine own_go (fun _ k => XS.aload X27.here hx rfl (hb hby d12_20) rfl r_gv5 k) ?_
  show own_Go p e below s _ _ _ (T27.setTop (mkF m 22 #[.val (.ref a1), .val gv2, .val gv3, .val gv4, .val gv5, .val gv6, .val gv7] [gv5, (.ref a1)]))
  obtain ⟨T38, h38, X38, e38, W38, st38⟩ := putF X27 hx hZ hown (host := "") (Or.inl (hw _ (List.mem_of_getElem? (i := 100) rfl))) Via.refl e27 f33 f29 (Or.inr ⟨(hw _ (List.mem_of_getElem? (i := 101) rfl)), rfl, hnm⟩) (hw _ (List.mem_of_getElem? (i := 85) rfl)) (ty := (.object "java/util/List")) (by decide) (own_narRef _ r_gv5 (by decide)) (own_fitsRef _ r_gv5 (by decide)) (g := (mkF m 22 #[.val (.ref a1), .val gv2, .val gv3, .val gv4, .val gv5, .val gv6, .val gv7] [gv5, (.ref a1)])) rfl rfl (hb hby d12_22)
  refine own_go st38 ?_
  have N39 := Fr.snoc X38 N28 big_a1
  have f40 : Exa Z h38 a1 "com/example/slotsholmen/slotsholmen/schema/ObjectClass" := f29.wr W38
  have f41 : Fld Z h38 a1 "com/example/slotsholmen/slotsholmen/schema/ObjectClass" "service" "Ljava/lang/String;" gv2 := f30.other W38 (Or.inr (slot_ne (Or.inr (hw _ (List.mem_of_getElem? (i := 95) rfl))) (Or.inr (hw _ (List.mem_of_getElem? (i := 101) rfl))) (by decide) (t := (.object "java/lang/String")) (t' := (.object "java/util/List")) (by decide) (by decide)))
  have f42 : Fld Z h38 a1 "com/example/slotsholmen/slotsholmen/schema/ObjectClass" "name" "Ljava/lang/String;" gv3 := f31.other W38 (Or.inr (slot_ne (Or.inr (hw _ (List.mem_of_getElem? (i := 97) rfl))) (Or.inr (hw _ (List.mem_of_getElem? (i := 101) rfl))) (by decide) (t := (.object "java/lang/String")) (t' := (.object "java/util/List")) (by decide) (by decide)))
  have f43 : Fld Z h38 a1 "com/example/slotsholmen/slotsholmen/schema/ObjectClass" "title" "Ljava/lang/String;" gv4 := f32.other W38 (Or.inr (slot_ne (Or.inr (hw _ (List.mem_of_getElem? (i := 99) rfl))) (Or.inr (hw _ (List.mem_of_getElem? (i := 101) rfl))) (by decide) (t := (.object "java/lang/String")) (t' := (.object "java/util/List")) (by decide) (by decide)))
  have f44 : Fld Z h38 a1 "com/example/slotsholmen/slotsholmen/schema/ObjectClass" "attributes" "Ljava/util/List;" gv5 := f33.same W38
  have f45 : Fld Z h38 a1 "com/example/slotsholmen/slotsholmen/schema/ObjectClass" "states" "Ljava/util/List;" .null := f34.other W38 (Or.inr (slot_ne (Or.inr (hw _ (List.mem_of_getElem? (i := 103) rfl))) (Or.inr (hw _ (List.mem_of_getElem? (i := 101) rfl))) (by decide) (t := (.object "java/util/List")) (t' := (.object "java/util/List")) (by decide) (by decide)))
  have f46 : Fld Z h38 a1 "com/example/slotsholmen/slotsholmen/schema/ObjectClass" "relations" "Ljava/util/List;" .null := f35.other W38 (Or.inr (slot_ne (Or.inr (hw _ (List.mem_of_getElem? (i := 105) rfl))) (Or.inr (hw _ (List.mem_of_getElem? (i := 101) rfl))) (by decide) (t := (.object "java/util/List")) (t' := (.object "java/util/List")) (by decide) (by decide)))
  have O47 := own_oldWr O36 W38 big_a1
  replace hS := own_since hS (Nat.le_of_eq W38.size.symm)
  have K48 : Keep h0 h38 [a1] := K37.wr W38 (Or.inl (List.mem_of_getElem? (i := 0) rfl))
  show own_Go p e below s _ _ _ (T38.setTop (mkF m 25 #[.val (.ref a1), .val gv2, .val gv3, .val gv4, .val gv5, .val gv6, .val gv7] []))
  refine own_go (fun _ k => XS.aloadN X38.here hx rfl (hb hby d12_25) rfl rfl k) ?_
  show own_Go p e below s _ _ _ (T38.setTop (mkF m 26 #[.val (.ref a1), .val gv2, .val gv3, .val gv4, .val gv5, .val gv6, .val gv7] [(.ref a1)]))
  refine own_go (fun _ k => XS.aload X38.here hx rfl (hb hby d12_26) rfl r_gv6 k) ?_
  show own_Go p e below s _ _ _ (T38.setTop (mkF m 28 #[.val (.ref a1), .val gv2, .val gv3, .val gv4, .val gv5, .val gv6, .val gv7] [gv6, (.ref a1)]))
  obtain ⟨T49, h49, X49, e49, W49, st49⟩ := putF X38 hx hZ hown (host := "") (Or.inl (hw _ (List.mem_of_getElem? (i := 102) rfl))) Via.refl e38 f45 f40 (Or.inr ⟨(hw _ (List.mem_of_getElem? (i := 103) rfl)), rfl, hnm⟩) (hw _ (List.mem_of_getElem? (i := 85) rfl)) (ty := (.object "java/util/List")) (by decide) (own_narRef _ r_gv6 (by decide)) (own_fitsRef _ r_gv6 (by decide)) (g := (mkF m 28 #[.val (.ref a1), .val gv2, .val gv3, .val gv4, .val gv5, .val gv6, .val gv7] [gv6, (.ref a1)])) rfl rfl (hb hby d12_28)
  refine own_go st49 ?_
  have N50 := Fr.snoc X49 N39 big_a1
  have f51 : Exa Z h49 a1 "com/example/slotsholmen/slotsholmen/schema/ObjectClass" := f40.wr W49
  have f52 : Fld Z h49 a1 "com/example/slotsholmen/slotsholmen/schema/ObjectClass" "service" "Ljava/lang/String;" gv2 := f41.other W49 (Or.inr (slot_ne (Or.inr (hw _ (List.mem_of_getElem? (i := 95) rfl))) (Or.inr (hw _ (List.mem_of_getElem? (i := 103) rfl))) (by decide) (t := (.object "java/lang/String")) (t' := (.object "java/util/List")) (by decide) (by decide)))
  have f53 : Fld Z h49 a1 "com/example/slotsholmen/slotsholmen/schema/ObjectClass" "name" "Ljava/lang/String;" gv3 := f42.other W49 (Or.inr (slot_ne (Or.inr (hw _ (List.mem_of_getElem? (i := 97) rfl))) (Or.inr (hw _ (List.mem_of_getElem? (i := 103) rfl))) (by decide) (t := (.object "java/lang/String")) (t' := (.object "java/util/List")) (by decide) (by decide)))
  have f54 : Fld Z h49 a1 "com/example/slotsholmen/slotsholmen/schema/ObjectClass" "title" "Ljava/lang/String;" gv4 := f43.other W49 (Or.inr (slot_ne (Or.inr (hw _ (List.mem_of_getElem? (i := 99) rfl))) (Or.inr (hw _ (List.mem_of_getElem? (i := 103) rfl))) (by decide) (t := (.object "java/lang/String")) (t' := (.object "java/util/List")) (by decide) (by decide)))
  have f55 : Fld Z h49 a1 "com/example/slotsholmen/slotsholmen/schema/ObjectClass" "attributes" "Ljava/util/List;" gv5 := f44.other W49 (Or.inr (slot_ne (Or.inr (hw _ (List.mem_of_getElem? (i := 101) rfl))) (Or.inr (hw _ (List.mem_of_getElem? (i := 103) rfl))) (by decide) (t := (.object "java/util/List")) (t' := (.object "java/util/List")) (by decide) (by decide)))
  have f56 : Fld Z h49 a1 "com/example/slotsholmen/slotsholmen/schema/ObjectClass" "states" "Ljava/util/List;" gv6 := f45.same W49
  have f57 : Fld Z h49 a1 "com/example/slotsholmen/slotsholmen/schema/ObjectClass" "relations" "Ljava/util/List;" .null := f46.other W49 (Or.inr (slot_ne (Or.inr (hw _ (List.mem_of_getElem? (i := 105) rfl))) (Or.inr (hw _ (List.mem_of_getElem? (i := 103) rfl))) (by decide) (t := (.object "java/util/List")) (t' := (.object "java/util/List")) (by decide) (by decide)))
  have O58 := own_oldWr O47 W49 big_a1
  replace hS := own_since hS (Nat.le_of_eq W49.size.symm)
  have K59 : Keep h0 h49 [a1] := K48.wr W49 (Or.inl (List.mem_of_getElem? (i := 0) rfl))
  show own_Go p e below s _ _ _ (T49.setTop (mkF m 31 #[.val (.ref a1), .val gv2, .val gv3, .val gv4, .val gv5, .val gv6, .val gv7] []))
  refine own_go (fun _ k => XS.aloadN X49.here hx rfl (hb hby d12_31) rfl rfl k) ?_
  show own_Go p e below s _ _ _ (T49.setTop (mkF m 32 #[.val (.ref a1), .val gv2, .val gv3, .val gv4, .val gv5, .val gv6, .val gv7] [(.ref a1)]))
  refine own_go (fun _ k => XS.aload X49.here hx rfl (hb hby d12_32) rfl r_gv7 k) ?_
  show own_Go p e below s _ _ _ (T49.setTop (mkF m 34 #[.val (.ref a1), .val gv2, .val gv3, .val gv4, .val gv5, .val gv6, .val gv7] [gv7, (.ref a1)]))
  obtain ⟨T60, h60, X60, e60, W60, st60⟩ := putF X49 hx hZ hown (host := "") (Or.inl (hw _ (List.mem_of_getElem? (i := 104) rfl))) Via.refl e49 f57 f51 (Or.inr ⟨(hw _ (List.mem_of_getElem? (i := 105) rfl)), rfl, hnm⟩) (hw _ (List.mem_of_getElem? (i := 85) rfl)) (ty := (.object "java/util/List")) (by decide) (own_narRef _ r_gv7 (by decide)) (own_fitsRef _ r_gv7 (by decide)) (g := (mkF m 34 #[.val (.ref a1), .val gv2, .val gv3, .val gv4, .val gv5, .val gv6, .val gv7] [gv7, (.ref a1)])) rfl rfl (hb hby d12_34)
  refine own_go st60 ?_
  have N61 := Fr.snoc X60 N50 big_a1
  have f62 : Exa Z h60 a1 "com/example/slotsholmen/slotsholmen/schema/ObjectClass" := f51.wr W60
  have f63 : Fld Z h60 a1 "com/example/slotsholmen/slotsholmen/schema/ObjectClass" "service" "Ljava/lang/String;" gv2 := f52.other W60 (Or.inr (slot_ne (Or.inr (hw _ (List.mem_of_getElem? (i := 95) rfl))) (Or.inr (hw _ (List.mem_of_getElem? (i := 105) rfl))) (by decide) (t := (.object "java/lang/String")) (t' := (.object "java/util/List")) (by decide) (by decide)))
  have f64 : Fld Z h60 a1 "com/example/slotsholmen/slotsholmen/schema/ObjectClass" "name" "Ljava/lang/String;" gv3 := f53.other W60 (Or.inr (slot_ne (Or.inr (hw _ (List.mem_of_getElem? (i := 97) rfl))) (Or.inr (hw _ (List.mem_of_getElem? (i := 105) rfl))) (by decide) (t := (.object "java/lang/String")) (t' := (.object "java/util/List")) (by decide) (by decide)))
  have f65 : Fld Z h60 a1 "com/example/slotsholmen/slotsholmen/schema/ObjectClass" "title" "Ljava/lang/String;" gv4 := f54.other W60 (Or.inr (slot_ne (Or.inr (hw _ (List.mem_of_getElem? (i := 99) rfl))) (Or.inr (hw _ (List.mem_of_getElem? (i := 105) rfl))) (by decide) (t := (.object "java/lang/String")) (t' := (.object "java/util/List")) (by decide) (by decide)))
  have f66 : Fld Z h60 a1 "com/example/slotsholmen/slotsholmen/schema/ObjectClass" "attributes" "Ljava/util/List;" gv5 := f55.other W60 (Or.inr (slot_ne (Or.inr (hw _ (List.mem_of_getElem? (i := 101) rfl))) (Or.inr (hw _ (List.mem_of_getElem? (i := 105) rfl))) (by decide) (t := (.object "java/util/List")) (t' := (.object "java/util/List")) (by decide) (by decide)))
  have f67 : Fld Z h60 a1 "com/example/slotsholmen/slotsholmen/schema/ObjectClass" "states" "Ljava/util/List;" gv6 := f56.other W60 (Or.inr (slot_ne (Or.inr (hw _ (List.mem_of_getElem? (i := 103) rfl))) (Or.inr (hw _ (List.mem_of_getElem? (i := 105) rfl))) (by decide) (t := (.object "java/util/List")) (t' := (.object "java/util/List")) (by decide) (by decide)))
  have f68 : Fld Z h60 a1 "com/example/slotsholmen/slotsholmen/schema/ObjectClass" "relations" "Ljava/util/List;" gv7 := f57.same W60
  have O69 := own_oldWr O58 W60 big_a1
  replace hS := own_since hS (Nat.le_of_eq W60.size.symm)
  have K70 : Keep h0 h60 [a1] := K59.wr W60 (Or.inl (List.mem_of_getElem? (i := 0) rfl))
  show own_Go p e below s _ _ _ (T60.setTop (mkF m 37 #[.val (.ref a1), .val gv2, .val gv3, .val gv4, .val gv5, .val gv6, .val gv7] []))
  refine own_retV X60 hS hx hlk e60 hret (hb hby d12_37) (by show _ ≤ 0; omega) (by show _ ≤ 0; omega) ?_
  exact ⟨rfl, N61, K70, f62, f63, f64, f65, f66, f67, f68⟩
theorem d14_0 : decode jdk_37_method_2_code 0 = .ok (.aload_n 0, 1) := by decide +kernel
theorem d14_1 : decode jdk_37_method_2_code 1 = .ok (.getfield 7, 3) := by decide +kernel
theorem d14_4 : decode jdk_37_method_2_code 4 = .ok (.ireturn, 1) := by decide +kernel
def Q_ordinal (Z : State) (wd : Addr) (kd : ClassId) (ws0 : Addr) (ws1 : Addr) (ws2 : Addr) (wm : Addr) (km : ClassId) (a1 : Addr) (w : Int32) (h0 : Heap) (v : Option Value) (h : Heap) (L : List Loc) : Prop := (v = some (.int w) ∧ Fr Z.heap.size L ∧ h = h0)
theorem ef_ordinal (m : MethodId) (x0 : Addr) : entryFrame m #[(.ref x0)] 1 = mkF m 0 #[.val (.ref x0)] [] := by first | (simp [entryFrame, mkF, argsToLocals, Value.category]; done) | rfl
set_option maxRecDepth 65536 in
set_option maxHeartbeats 40000000 in
theorem rm_ordinal (l : Launch) (Z : State) (a0 : Array Value) (hw : ∀ d ∈ tables_1, d.before a0 Z = true) {wd : Addr} {kd : ClassId} {ws0 : Addr} {ws1 : Addr} {ws2 : Addr} {wm : Addr} {km : ClassId} (oDE : Sta Z Z.heap "java/util/ArrayList" "DEFAULTCAPACITY_EMPTY_ELEMENTDATA" "[Ljava/lang/Object;" (.ref wd)) (oDV : Arv Z Z.heap wd kd (.object "java/lang/Object") (0 : Int32) [] .null) (oS0 : Sta Z Z.heap "com/example/slotsholmen/slotsholmen/schema/Section" "ATTRIBUTES" "Lcom/example/slotsholmen/slotsholmen/schema/Section;" (.ref ws0)) (oS1 : Sta Z Z.heap "com/example/slotsholmen/slotsholmen/schema/Section" "STATES" "Lcom/example/slotsholmen/slotsholmen/schema/Section;" (.ref ws1)) (oS2 : Sta Z Z.heap "com/example/slotsholmen/slotsholmen/schema/Section" "RELATIONS" "Lcom/example/slotsholmen/slotsholmen/schema/Section;" (.ref ws2)) (oSE0 : Exa Z Z.heap ws0 "com/example/slotsholmen/slotsholmen/schema/Section") (oSE1 : Exa Z Z.heap ws1 "com/example/slotsholmen/slotsholmen/schema/Section") (oSE2 : Exa Z Z.heap ws2 "com/example/slotsholmen/slotsholmen/schema/Section") (oSF0 : Fld Z Z.heap ws0 "java/lang/Enum" "ordinal" "I" (.int (0 : Int32))) (oSF1 : Fld Z Z.heap ws1 "java/lang/Enum" "ordinal" "I" (.int (1 : Int32))) (oSF2 : Fld Z Z.heap ws2 "java/lang/Enum" "ordinal" "I" (.int (2 : Int32))) (oSM : Sta Z Z.heap "com/example/slotsholmen/slotsholmen/schema/ObjectClass$1" "$SwitchMap$com$example$slotsholmen$slotsholmen$schema$Section" "[I" (.ref wm)) (oSV : Arv Z Z.heap wm km .int (3 : Int32) [(.int (1 : Int32)), (.int (2 : Int32)), (.int (3 : Int32))] (.int (0 : Int32))) (ws : List Jvm.Cond) (a1 : Addr) (w : Int32) (h0 : Heap) (O0 : Ext Z.heap h0) (f_F_a1_ordinal : Fld Z h0 a1 "java/lang/Enum" "ordinal" "I" (.int w)) :
    MetFree l (⟨"java/lang/Enum", "ordinal", "()I"⟩ : MethodName) (head1 (Jvm.Cond.code (⟨"java/lang/Enum", "ordinal", "()I"⟩ : MethodName) jdk_37_method_2_code 1 (some .int) :: ws) ({ frames := 0, cells := 0, slots := 0, locals := 0 } : Room)) (fun a U => a = #[(.ref a1)] ∧ Z.Warmed39 U.vm ∧ U.heap = h0) (fun _ _ _ _ _ => True) (fun _ U o U' => ∃ v L, o = .returned v ∧ (Q_ordinal Z wd kd ws0 ws1 ws2 wm km a1 w h0) v U'.heap L ∧ ReturnedEndW U o U' L ({ frames := 0, cells := 0, slots := 0, locals := 0 } : Room).cells ({ frames := 0, cells := 0, slots := 0, locals := 0 } : Room).slots) := by
  refine own_met (Q := (Q_ordinal Z wd kd ws0 ws1 ws2 wm km a1 w h0)) _ _ (plainFor_of_name own_pn_8) ?_
  intro p e s vm0 m below meth c T X0 hS hx hby hml hret hlk hZ hown hnm e0
  replace hown : (s.setVm vm0).vm.findClass "java/lang/Enum" = some m.cls := hown
  replace hnm : meth.name = "ordinal" := hnm
  have hml : c.maxLocals = 1 := hml
  have N0 := Fr.nil Z.heap.size
  have K0 := Keep.refl h0 []
  refine own_go (fun _ k => castTop (ef_ordinal m a1) k) ?_
  show own_Go p e below s _ _ _ (T.setTop (mkF m 0 #[.val (.ref a1)] []))
  refine own_go (fun _ k => XS.aloadN X0.here hx rfl (hb hby d14_0) rfl rfl k) ?_
  show own_Go p e below s _ _ _ (T.setTop (mkF m 1 #[.val (.ref a1)] [(.ref a1)]))
  obtain ⟨T1, X1, e1, st1⟩ := getF X0 hx hZ hown (host := "") (Or.inl (hw _ (List.mem_of_getElem? (i := 124) rfl))) Via.refl e0 f_F_a1_ordinal (g := (mkF m 1 #[.val (.ref a1)] [(.ref a1)])) rfl rfl (hb hby d14_1)
  refine own_go st1 ?_
  show own_Go p e below s _ _ _ (T1.setTop (mkF m 4 #[.val (.ref a1)] [(.int w)]))
  refine own_retI X1 hS hx hlk e1 hret (hb hby d14_4) (by show _ ≤ 0; omega) (by show _ ≤ 0; omega) ?_
  exact ⟨rfl, N0, rfl⟩
theorem d13_0 : decode prog_33_method_2_code 0 = .ok (.getstatic 29, 3) := by decide +kernel
theorem d13_3 : decode prog_33_method_2_code 3 = .ok (.aload_n 1, 1) := by decide +kernel
theorem d13_4 : decode prog_33_method_2_code 4 = .ok (.invokevirtual 35, 3) := by decide +kernel
theorem d13_7 : decode prog_33_method_2_code 7 = .ok (.iaload, 1) := by decide +kernel
theorem d13_8 : decode prog_33_method_2_code 8 = .ok (.tableswitch 28 1 3 #[38, 45, 52], 28) := by decide +kernel
theorem d13_46 : decode prog_33_method_2_code 46 = .ok (.aload_n 0, 1) := by decide +kernel
theorem d13_47 : decode prog_33_method_2_code 47 = .ok (.getfield 19, 3) := by decide +kernel
theorem d13_50 : decode prog_33_method_2_code 50 = .ok (.goto 14, 3) := by decide +kernel
theorem d13_64 : decode prog_33_method_2_code 64 = .ok (.areturn, 1) := by decide +kernel
def Q_groups0 (Z : State) (wd : Addr) (kd : ClassId) (ws0 : Addr) (ws1 : Addr) (ws2 : Addr) (wm : Addr) (km : ClassId) (a1 : Addr) (w : Addr) (h0 : Heap) (v : Option Value) (h : Heap) (L : List Loc) : Prop := (v = some (.ref w) ∧ Fr Z.heap.size L ∧ h = h0)
theorem ef_groups0 (m : MethodId) (x0 : Addr) (x1 : Addr) : entryFrame m #[(.ref x0), (.ref x1)] 2 = mkF m 0 #[.val (.ref x0), .val (.ref x1)] [] := by first | (simp [entryFrame, mkF, argsToLocals, Value.category]; done) | rfl
set_option maxRecDepth 65536 in
set_option maxHeartbeats 40000000 in
theorem rm_groups0 (l : Launch) (Z : State) (a0 : Array Value) (hw : ∀ d ∈ tables_1, d.before a0 Z = true) {wd : Addr} {kd : ClassId} {ws0 : Addr} {ws1 : Addr} {ws2 : Addr} {wm : Addr} {km : ClassId} (oDE : Sta Z Z.heap "java/util/ArrayList" "DEFAULTCAPACITY_EMPTY_ELEMENTDATA" "[Ljava/lang/Object;" (.ref wd)) (oDV : Arv Z Z.heap wd kd (.object "java/lang/Object") (0 : Int32) [] .null) (oS0 : Sta Z Z.heap "com/example/slotsholmen/slotsholmen/schema/Section" "ATTRIBUTES" "Lcom/example/slotsholmen/slotsholmen/schema/Section;" (.ref ws0)) (oS1 : Sta Z Z.heap "com/example/slotsholmen/slotsholmen/schema/Section" "STATES" "Lcom/example/slotsholmen/slotsholmen/schema/Section;" (.ref ws1)) (oS2 : Sta Z Z.heap "com/example/slotsholmen/slotsholmen/schema/Section" "RELATIONS" "Lcom/example/slotsholmen/slotsholmen/schema/Section;" (.ref ws2)) (oSE0 : Exa Z Z.heap ws0 "com/example/slotsholmen/slotsholmen/schema/Section") (oSE1 : Exa Z Z.heap ws1 "com/example/slotsholmen/slotsholmen/schema/Section") (oSE2 : Exa Z Z.heap ws2 "com/example/slotsholmen/slotsholmen/schema/Section") (oSF0 : Fld Z Z.heap ws0 "java/lang/Enum" "ordinal" "I" (.int (0 : Int32))) (oSF1 : Fld Z Z.heap ws1 "java/lang/Enum" "ordinal" "I" (.int (1 : Int32))) (oSF2 : Fld Z Z.heap ws2 "java/lang/Enum" "ordinal" "I" (.int (2 : Int32))) (oSM : Sta Z Z.heap "com/example/slotsholmen/slotsholmen/schema/ObjectClass$1" "$SwitchMap$com$example$slotsholmen$slotsholmen$schema$Section" "[I" (.ref wm)) (oSV : Arv Z Z.heap wm km .int (3 : Int32) [(.int (1 : Int32)), (.int (2 : Int32)), (.int (3 : Int32))] (.int (0 : Int32))) (ws : List Jvm.Cond) (a1 : Addr) (w : Addr) (h0 : Heap) (O0 : Ext Z.heap h0) (f_F_a1_attributes : Fld Z h0 a1 "com/example/slotsholmen/slotsholmen/schema/ObjectClass" "attributes" "Ljava/util/List;" (.ref w)) :
    MetFree l (⟨"com/example/slotsholmen/slotsholmen/schema/ObjectClass", "groups", "(Lcom/example/slotsholmen/slotsholmen/schema/Section;)Ljava/util/List;"⟩ : MethodName) (head1 (Jvm.Cond.code (⟨"com/example/slotsholmen/slotsholmen/schema/ObjectClass", "groups", "(Lcom/example/slotsholmen/slotsholmen/schema/Section;)Ljava/util/List;"⟩ : MethodName) prog_33_method_2_code 2 (some (.object "java/util/List")) :: ws) ({ frames := 1, cells := 0, slots := 0, locals := 13 } : Room)) (fun a U => a = #[(.ref a1), (.ref ws0)] ∧ Z.Warmed39 U.vm ∧ U.heap = h0) (fun _ _ _ _ _ => True) (fun _ U o U' => ∃ v L, o = .returned v ∧ (Q_groups0 Z wd kd ws0 ws1 ws2 wm km a1 w h0) v U'.heap L ∧ ReturnedEndW U o U' L ({ frames := 1, cells := 0, slots := 0, locals := 13 } : Room).cells ({ frames := 1, cells := 0, slots := 0, locals := 13 } : Room).slots) := by
  refine own_met (Q := (Q_groups0 Z wd kd ws0 ws1 ws2 wm km a1 w h0)) _ _ (plainFor_of_name own_pn_7) ?_
  intro p e s vm0 m below meth c T X0 hS hx hby hml hret hlk hZ hown hnm e0
  replace hown : (s.setVm vm0).vm.findClass "com/example/slotsholmen/slotsholmen/schema/ObjectClass" = some m.cls := hown
  replace hnm : meth.name = "groups" := hnm
  have hml : c.maxLocals = 2 := hml
  have N0 := Fr.nil Z.heap.size
  have K0 := Keep.refl h0 []
  refine own_go (fun _ k => castTop (ef_groups0 m a1 ws0) k) ?_
  show own_Go p e below s _ _ _ (T.setTop (mkF m 0 #[.val (.ref a1), .val (.ref ws0)] []))
  obtain ⟨T1, X1, e1, st1⟩ := getS2 X0 hx hZ hown (host := "") (Or.inl (hw _ (List.mem_of_getElem? (i := 114) rfl))) Via.refl e0 (oSM.ext O0) (g := (mkF m 0 #[.val (.ref a1), .val (.ref ws0)] [])) rfl (hb hby d13_0)
  refine own_go st1 ?_
  show own_Go p e below s _ _ _ (T1.setTop (mkF m 3 #[.val (.ref a1), .val (.ref ws0)] [(.ref wm)]))
  refine own_go (fun _ k => XS.aloadN X1.here hx rfl (hb hby d13_3) rfl rfl k) ?_
  show own_Go p e below s _ _ _ (T1.setTop (mkF m 4 #[.val (.ref a1), .val (.ref ws0)] [(.ref ws0), (.ref wm)]))
  obtain ⟨v2, T2, L2, X2, hSn, hZn, hownn, hQ2, st2⟩ := own_callU (y := (⟨"com/example/slotsholmen/slotsholmen/schema/Section", "ordinal", "()I"⟩ : MethodName)) (z := (⟨"java/lang/Enum", "ordinal", "()I"⟩ : MethodName)) (owner := "java/lang/Enum") X1 hS hx hZ hown (hw _ (List.mem_of_getElem? (i := 117) rfl)) (hw _ (List.mem_of_getElem? (i := 118) rfl)) (hw _ (List.mem_of_getElem? (i := 119) rfl)) (hw _ (List.mem_of_getElem? (i := 121) rfl)) (hw _ (List.mem_of_getElem? (i := 120) rfl)) (hw _ (List.mem_of_getElem? (i := 122) rfl)) (hw _ (List.mem_of_getElem? (i := 123) rfl)) (rm_ordinal l Z a0 hw oDE oDV oS0 oS1 oS2 oSE0 oSE1 oSE2 oSF0 oSF1 oSF2 oSM oSV [] ws0 (0 : Int32) h0 O0 (oSF0.ext O0)) 1 0 0 rfl rfl (by decide) (by decide) (by decide) (by show _ ≤ 0; omega) (by show _ ≤ 0; omega) e1 (oSE0.ext O0) (g := (mkF m 4 #[.val (.ref a1), .val (.ref ws0)] [(.ref ws0), (.ref wm)])) rfl (by rw [hml]; rfl) [] [(.ref wm)] (lenOf own_pd_7 rfl) rfl rfl (by show 2 * 0 + _ ≤ _; exact Nat.le_of_eq rfl) (hb hby d13_4)
  replace hS := hSn
  replace hZ := hZn
  replace hown := hownn
  clear hSn hZn hownn
  obtain ⟨rfl, Nc4, Kc3⟩ := hQ2
  refine own_go st2 ?_
  have N5 := Fr.app N0 Nc4
  rw [Kc3] at hS
  show own_Go p e below s _ _ _ (T2.setTop (mkF m 7 #[.val (.ref a1), .val (.ref ws0)] [(.int (0 : Int32)), (.ref wm)]))
  obtain ⟨cl6, Ar6, -, S6, -, P6, -⟩ := id (oSV.ext O0)
  have hin6 : ¬ ((0 : Int32) < 0 ∨ cl6.slots.size ≤ ((0 : Int32)).toNatClampNeg) := inb_of S6 ⟨by decide, by decide⟩
  refine own_go (X2.iaload hx (j := (0 : Int32)) (v := (.int (1 : Int32))) (by rw [Kc3]; exact Ar6.1) (State.isArrayOf_alike hZ.alike Ar6.2.1) Ar6.2.2 hin6 (P6.at hin6 rfl) (g := (mkF m 7 #[.val (.ref a1), .val (.ref ws0)] [(.int (0 : Int32)), (.ref wm)])) rfl rfl (hb hby d13_7)) ?_
  show own_Go p e below s _ _ _ (T2.setTop (mkF m 8 #[.val (.ref a1), .val (.ref ws0)] [(.int (1 : Int32))]))
  refine own_go (fun _ k => XS.tswIn X2.here hx rfl (pc0 := 8) (pc' := 46) rfl (hb hby d13_8) rfl (by decide) rfl (by decide) (by decide) k) ?_
  show own_Go p e below s _ _ _ (T2.setTop (mkF m 46 #[.val (.ref a1), .val (.ref ws0)] []))
  refine own_go (fun _ k => XS.aloadN X2.here hx rfl (hb hby d13_46) rfl rfl k) ?_
  show own_Go p e below s _ _ _ (T2.setTop (mkF m 47 #[.val (.ref a1), .val (.ref ws0)] [(.ref a1)]))
  obtain ⟨T7, X7, e7, st7⟩ := getF X2 hx hZ hown (host := "") (Or.inl (hw _ (List.mem_of_getElem? (i := 100) rfl))) Via.refl Kc3 f_F_a1_attributes (g := (mkF m 47 #[.val (.ref a1), .val (.ref ws0)] [(.ref a1)])) rfl rfl (hb hby d13_47)
  refine own_go st7 ?_
  show own_Go p e below s _ _ _ (T7.setTop (mkF m 50 #[.val (.ref a1), .val (.ref ws0)] [(.ref w)]))
  refine own_go (fun _ k => XS.goto X7.here hx rfl (pc0 := 50) (pc' := 64) rfl (hb hby d13_50) (by decide) (by decide) k) ?_
  show own_Go p e below s _ _ _ (T7.setTop (mkF m 64 #[.val (.ref a1), .val (.ref ws0)] [(.ref w)]))
  refine own_retA X7 hS hx hlk e7 hret rfl rfl (hb hby d13_64) (by show _ ≤ 0; omega) (by show _ ≤ 0; omega) ?_
  exact ⟨rfl, N5, rfl⟩
theorem d13_53 : decode prog_33_method_2_code 53 = .ok (.aload_n 0, 1) := by decide +kernel
theorem d13_54 : decode prog_33_method_2_code 54 = .ok (.getfield 23, 3) := by decide +kernel
theorem d13_57 : decode prog_33_method_2_code 57 = .ok (.goto 7, 3) := by decide +kernel
def Q_groups1 (Z : State) (wd : Addr) (kd : ClassId) (ws0 : Addr) (ws1 : Addr) (ws2 : Addr) (wm : Addr) (km : ClassId) (a1 : Addr) (w : Addr) (h0 : Heap) (v : Option Value) (h : Heap) (L : List Loc) : Prop := (v = some (.ref w) ∧ Fr Z.heap.size L ∧ h = h0)
theorem ef_groups1 (m : MethodId) (x0 : Addr) (x1 : Addr) : entryFrame m #[(.ref x0), (.ref x1)] 2 = mkF m 0 #[.val (.ref x0), .val (.ref x1)] [] := by first | (simp [entryFrame, mkF, argsToLocals, Value.category]; done) | rfl
set_option maxRecDepth 65536 in
set_option maxHeartbeats 40000000 in
theorem rm_groups1 (l : Launch) (Z : State) (a0 : Array Value) (hw : ∀ d ∈ tables_1, d.before a0 Z = true) {wd : Addr} {kd : ClassId} {ws0 : Addr} {ws1 : Addr} {ws2 : Addr} {wm : Addr} {km : ClassId} (oDE : Sta Z Z.heap "java/util/ArrayList" "DEFAULTCAPACITY_EMPTY_ELEMENTDATA" "[Ljava/lang/Object;" (.ref wd)) (oDV : Arv Z Z.heap wd kd (.object "java/lang/Object") (0 : Int32) [] .null) (oS0 : Sta Z Z.heap "com/example/slotsholmen/slotsholmen/schema/Section" "ATTRIBUTES" "Lcom/example/slotsholmen/slotsholmen/schema/Section;" (.ref ws0)) (oS1 : Sta Z Z.heap "com/example/slotsholmen/slotsholmen/schema/Section" "STATES" "Lcom/example/slotsholmen/slotsholmen/schema/Section;" (.ref ws1)) (oS2 : Sta Z Z.heap "com/example/slotsholmen/slotsholmen/schema/Section" "RELATIONS" "Lcom/example/slotsholmen/slotsholmen/schema/Section;" (.ref ws2)) (oSE0 : Exa Z Z.heap ws0 "com/example/slotsholmen/slotsholmen/schema/Section") (oSE1 : Exa Z Z.heap ws1 "com/example/slotsholmen/slotsholmen/schema/Section") (oSE2 : Exa Z Z.heap ws2 "com/example/slotsholmen/slotsholmen/schema/Section") (oSF0 : Fld Z Z.heap ws0 "java/lang/Enum" "ordinal" "I" (.int (0 : Int32))) (oSF1 : Fld Z Z.heap ws1 "java/lang/Enum" "ordinal" "I" (.int (1 : Int32))) (oSF2 : Fld Z Z.heap ws2 "java/lang/Enum" "ordinal" "I" (.int (2 : Int32))) (oSM : Sta Z Z.heap "com/example/slotsholmen/slotsholmen/schema/ObjectClass$1" "$SwitchMap$com$example$slotsholmen$slotsholmen$schema$Section" "[I" (.ref wm)) (oSV : Arv Z Z.heap wm km .int (3 : Int32) [(.int (1 : Int32)), (.int (2 : Int32)), (.int (3 : Int32))] (.int (0 : Int32))) (ws : List Jvm.Cond) (a1 : Addr) (w : Addr) (h0 : Heap) (O0 : Ext Z.heap h0) (f_F_a1_states : Fld Z h0 a1 "com/example/slotsholmen/slotsholmen/schema/ObjectClass" "states" "Ljava/util/List;" (.ref w)) :
    MetFree l (⟨"com/example/slotsholmen/slotsholmen/schema/ObjectClass", "groups", "(Lcom/example/slotsholmen/slotsholmen/schema/Section;)Ljava/util/List;"⟩ : MethodName) (head1 (Jvm.Cond.code (⟨"com/example/slotsholmen/slotsholmen/schema/ObjectClass", "groups", "(Lcom/example/slotsholmen/slotsholmen/schema/Section;)Ljava/util/List;"⟩ : MethodName) prog_33_method_2_code 2 (some (.object "java/util/List")) :: ws) ({ frames := 1, cells := 0, slots := 0, locals := 13 } : Room)) (fun a U => a = #[(.ref a1), (.ref ws1)] ∧ Z.Warmed39 U.vm ∧ U.heap = h0) (fun _ _ _ _ _ => True) (fun _ U o U' => ∃ v L, o = .returned v ∧ (Q_groups1 Z wd kd ws0 ws1 ws2 wm km a1 w h0) v U'.heap L ∧ ReturnedEndW U o U' L ({ frames := 1, cells := 0, slots := 0, locals := 13 } : Room).cells ({ frames := 1, cells := 0, slots := 0, locals := 13 } : Room).slots) := by
  refine own_met (Q := (Q_groups1 Z wd kd ws0 ws1 ws2 wm km a1 w h0)) _ _ (plainFor_of_name own_pn_7) ?_
  intro p e s vm0 m below meth c T X0 hS hx hby hml hret hlk hZ hown hnm e0
  replace hown : (s.setVm vm0).vm.findClass "com/example/slotsholmen/slotsholmen/schema/ObjectClass" = some m.cls := hown
  replace hnm : meth.name = "groups" := hnm
  have hml : c.maxLocals = 2 := hml
  have N0 := Fr.nil Z.heap.size
  have K0 := Keep.refl h0 []
  refine own_go (fun _ k => castTop (ef_groups1 m a1 ws1) k) ?_
  show own_Go p e below s _ _ _ (T.setTop (mkF m 0 #[.val (.ref a1), .val (.ref ws1)] []))
  obtain ⟨T1, X1, e1, st1⟩ := getS2 X0 hx hZ hown (host := "") (Or.inl (hw _ (List.mem_of_getElem? (i := 114) rfl))) Via.refl e0 (oSM.ext O0) (g := (mkF m 0 #[.val (.ref a1), .val (.ref ws1)] [])) rfl (hb hby d13_0)
  refine own_go st1 ?_
  show own_Go p e below s _ _ _ (T1.setTop (mkF m 3 #[.val (.ref a1), .val (.ref ws1)] [(.ref wm)]))
  refine own_go (fun _ k => XS.aloadN X1.here hx rfl (hb hby d13_3) rfl rfl k) ?_
  show own_Go p e below s _ _ _ (T1.setTop (mkF m 4 #[.val (.ref a1), .val (.ref ws1)] [(.ref ws1), (.ref wm)]))
  obtain ⟨v2, T2, L2, X2, hSn, hZn, hownn, hQ2, st2⟩ := own_callU (y := (⟨"com/example/slotsholmen/slotsholmen/schema/Section", "ordinal", "()I"⟩ : MethodName)) (z := (⟨"java/lang/Enum", "ordinal", "()I"⟩ : MethodName)) (owner := "java/lang/Enum") X1 hS hx hZ hown (hw _ (List.mem_of_getElem? (i := 117) rfl)) (hw _ (List.mem_of_getElem? (i := 118) rfl)) (hw _ (List.mem_of_getElem? (i := 119) rfl)) (hw _ (List.mem_of_getElem? (i := 121) rfl)) (hw _ (List.mem_of_getElem? (i := 120) rfl)) (hw _ (List.mem_of_getElem? (i := 122) rfl)) (hw _ (List.mem_of_getElem? (i := 123) rfl)) (rm_ordinal l Z a0 hw oDE oDV oS0 oS1 oS2 oSE0 oSE1 oSE2 oSF0 oSF1 oSF2 oSM oSV [] ws1 (1 : Int32) h0 O0 (oSF1.ext O0)) 1 0 0 rfl rfl (by decide) (by decide) (by decide) (by show _ ≤ 0; omega) (by show _ ≤ 0; omega) e1 (oSE1.ext O0) (g := (mkF m 4 #[.val (.ref a1), .val (.ref ws1)] [(.ref ws1), (.ref wm)])) rfl (by rw [hml]; rfl) [] [(.ref wm)] (lenOf own_pd_7 rfl) rfl rfl (by show 2 * 0 + _ ≤ _; exact Nat.le_of_eq rfl) (hb hby d13_4)
  replace hS := hSn
  replace hZ := hZn
  replace hown := hownn
  clear hSn hZn hownn
  obtain ⟨rfl, Nc4, Kc3⟩ := hQ2
  refine own_go st2 ?_
  have N5 := Fr.app N0 Nc4
  rw [Kc3] at hS
  show own_Go p e below s _ _ _ (T2.setTop (mkF m 7 #[.val (.ref a1), .val (.ref ws1)] [(.int (1 : Int32)), (.ref wm)]))
  obtain ⟨cl6, Ar6, -, S6, -, P6, -⟩ := id (oSV.ext O0)
  have hin6 : ¬ ((1 : Int32) < 0 ∨ cl6.slots.size ≤ ((1 : Int32)).toNatClampNeg) := inb_of S6 ⟨by decide, by decide⟩
  refine own_go (X2.iaload hx (j := (1 : Int32)) (v := (.int (2 : Int32))) (by rw [Kc3]; exact Ar6.1) (State.isArrayOf_alike hZ.alike Ar6.2.1) Ar6.2.2 hin6 (P6.at hin6 rfl) (g := (mkF m 7 #[.val (.ref a1), .val (.ref ws1)] [(.int (1 : Int32)), (.ref wm)])) rfl rfl (hb hby d13_7)) ?_
  show own_Go p e below s _ _ _ (T2.setTop (mkF m 8 #[.val (.ref a1), .val (.ref ws1)] [(.int (2 : Int32))]))
  refine own_go (fun _ k => XS.tswIn X2.here hx rfl (pc0 := 8) (pc' := 53) rfl (hb hby d13_8) rfl (by decide) rfl (by decide) (by decide) k) ?_
  show own_Go p e below s _ _ _ (T2.setTop (mkF m 53 #[.val (.ref a1), .val (.ref ws1)] []))
  refine own_go (fun _ k => XS.aloadN X2.here hx rfl (hb hby d13_53) rfl rfl k) ?_
  show own_Go p e below s _ _ _ (T2.setTop (mkF m 54 #[.val (.ref a1), .val (.ref ws1)] [(.ref a1)]))
  obtain ⟨T7, X7, e7, st7⟩ := getF X2 hx hZ hown (host := "") (Or.inl (hw _ (List.mem_of_getElem? (i := 102) rfl))) Via.refl Kc3 f_F_a1_states (g := (mkF m 54 #[.val (.ref a1), .val (.ref ws1)] [(.ref a1)])) rfl rfl (hb hby d13_54)
  refine own_go st7 ?_
  show own_Go p e below s _ _ _ (T7.setTop (mkF m 57 #[.val (.ref a1), .val (.ref ws1)] [(.ref w)]))
  refine own_go (fun _ k => XS.goto X7.here hx rfl (pc0 := 57) (pc' := 64) rfl (hb hby d13_57) (by decide) (by decide) k) ?_
  show own_Go p e below s _ _ _ (T7.setTop (mkF m 64 #[.val (.ref a1), .val (.ref ws1)] [(.ref w)]))
  refine own_retA X7 hS hx hlk e7 hret rfl rfl (hb hby d13_64) (by show _ ≤ 0; omega) (by show _ ≤ 0; omega) ?_
  exact ⟨rfl, N5, rfl⟩
theorem d13_60 : decode prog_33_method_2_code 60 = .ok (.aload_n 0, 1) := by decide +kernel
theorem d13_61 : decode prog_33_method_2_code 61 = .ok (.getfield 26, 3) := by decide +kernel
def Q_groups2 (Z : State) (wd : Addr) (kd : ClassId) (ws0 : Addr) (ws1 : Addr) (ws2 : Addr) (wm : Addr) (km : ClassId) (a1 : Addr) (w : Addr) (h0 : Heap) (v : Option Value) (h : Heap) (L : List Loc) : Prop := (v = some (.ref w) ∧ Fr Z.heap.size L ∧ h = h0)
theorem ef_groups2 (m : MethodId) (x0 : Addr) (x1 : Addr) : entryFrame m #[(.ref x0), (.ref x1)] 2 = mkF m 0 #[.val (.ref x0), .val (.ref x1)] [] := by first | (simp [entryFrame, mkF, argsToLocals, Value.category]; done) | rfl
set_option maxRecDepth 65536 in
set_option maxHeartbeats 40000000 in
theorem rm_groups2 (l : Launch) (Z : State) (a0 : Array Value) (hw : ∀ d ∈ tables_1, d.before a0 Z = true) {wd : Addr} {kd : ClassId} {ws0 : Addr} {ws1 : Addr} {ws2 : Addr} {wm : Addr} {km : ClassId} (oDE : Sta Z Z.heap "java/util/ArrayList" "DEFAULTCAPACITY_EMPTY_ELEMENTDATA" "[Ljava/lang/Object;" (.ref wd)) (oDV : Arv Z Z.heap wd kd (.object "java/lang/Object") (0 : Int32) [] .null) (oS0 : Sta Z Z.heap "com/example/slotsholmen/slotsholmen/schema/Section" "ATTRIBUTES" "Lcom/example/slotsholmen/slotsholmen/schema/Section;" (.ref ws0)) (oS1 : Sta Z Z.heap "com/example/slotsholmen/slotsholmen/schema/Section" "STATES" "Lcom/example/slotsholmen/slotsholmen/schema/Section;" (.ref ws1)) (oS2 : Sta Z Z.heap "com/example/slotsholmen/slotsholmen/schema/Section" "RELATIONS" "Lcom/example/slotsholmen/slotsholmen/schema/Section;" (.ref ws2)) (oSE0 : Exa Z Z.heap ws0 "com/example/slotsholmen/slotsholmen/schema/Section") (oSE1 : Exa Z Z.heap ws1 "com/example/slotsholmen/slotsholmen/schema/Section") (oSE2 : Exa Z Z.heap ws2 "com/example/slotsholmen/slotsholmen/schema/Section") (oSF0 : Fld Z Z.heap ws0 "java/lang/Enum" "ordinal" "I" (.int (0 : Int32))) (oSF1 : Fld Z Z.heap ws1 "java/lang/Enum" "ordinal" "I" (.int (1 : Int32))) (oSF2 : Fld Z Z.heap ws2 "java/lang/Enum" "ordinal" "I" (.int (2 : Int32))) (oSM : Sta Z Z.heap "com/example/slotsholmen/slotsholmen/schema/ObjectClass$1" "$SwitchMap$com$example$slotsholmen$slotsholmen$schema$Section" "[I" (.ref wm)) (oSV : Arv Z Z.heap wm km .int (3 : Int32) [(.int (1 : Int32)), (.int (2 : Int32)), (.int (3 : Int32))] (.int (0 : Int32))) (ws : List Jvm.Cond) (a1 : Addr) (w : Addr) (h0 : Heap) (O0 : Ext Z.heap h0) (f_F_a1_relations : Fld Z h0 a1 "com/example/slotsholmen/slotsholmen/schema/ObjectClass" "relations" "Ljava/util/List;" (.ref w)) :
    MetFree l (⟨"com/example/slotsholmen/slotsholmen/schema/ObjectClass", "groups", "(Lcom/example/slotsholmen/slotsholmen/schema/Section;)Ljava/util/List;"⟩ : MethodName) (head1 (Jvm.Cond.code (⟨"com/example/slotsholmen/slotsholmen/schema/ObjectClass", "groups", "(Lcom/example/slotsholmen/slotsholmen/schema/Section;)Ljava/util/List;"⟩ : MethodName) prog_33_method_2_code 2 (some (.object "java/util/List")) :: ws) ({ frames := 1, cells := 0, slots := 0, locals := 13 } : Room)) (fun a U => a = #[(.ref a1), (.ref ws2)] ∧ Z.Warmed39 U.vm ∧ U.heap = h0) (fun _ _ _ _ _ => True) (fun _ U o U' => ∃ v L, o = .returned v ∧ (Q_groups2 Z wd kd ws0 ws1 ws2 wm km a1 w h0) v U'.heap L ∧ ReturnedEndW U o U' L ({ frames := 1, cells := 0, slots := 0, locals := 13 } : Room).cells ({ frames := 1, cells := 0, slots := 0, locals := 13 } : Room).slots) := by
  refine own_met (Q := (Q_groups2 Z wd kd ws0 ws1 ws2 wm km a1 w h0)) _ _ (plainFor_of_name own_pn_7) ?_
  intro p e s vm0 m below meth c T X0 hS hx hby hml hret hlk hZ hown hnm e0
  replace hown : (s.setVm vm0).vm.findClass "com/example/slotsholmen/slotsholmen/schema/ObjectClass" = some m.cls := hown
  replace hnm : meth.name = "groups" := hnm
  have hml : c.maxLocals = 2 := hml
  have N0 := Fr.nil Z.heap.size
  have K0 := Keep.refl h0 []
  refine own_go (fun _ k => castTop (ef_groups2 m a1 ws2) k) ?_
  show own_Go p e below s _ _ _ (T.setTop (mkF m 0 #[.val (.ref a1), .val (.ref ws2)] []))
  obtain ⟨T1, X1, e1, st1⟩ := getS2 X0 hx hZ hown (host := "") (Or.inl (hw _ (List.mem_of_getElem? (i := 114) rfl))) Via.refl e0 (oSM.ext O0) (g := (mkF m 0 #[.val (.ref a1), .val (.ref ws2)] [])) rfl (hb hby d13_0)
  refine own_go st1 ?_
  show own_Go p e below s _ _ _ (T1.setTop (mkF m 3 #[.val (.ref a1), .val (.ref ws2)] [(.ref wm)]))
  refine own_go (fun _ k => XS.aloadN X1.here hx rfl (hb hby d13_3) rfl rfl k) ?_
  show own_Go p e below s _ _ _ (T1.setTop (mkF m 4 #[.val (.ref a1), .val (.ref ws2)] [(.ref ws2), (.ref wm)]))
  obtain ⟨v2, T2, L2, X2, hSn, hZn, hownn, hQ2, st2⟩ := own_callU (y := (⟨"com/example/slotsholmen/slotsholmen/schema/Section", "ordinal", "()I"⟩ : MethodName)) (z := (⟨"java/lang/Enum", "ordinal", "()I"⟩ : MethodName)) (owner := "java/lang/Enum") X1 hS hx hZ hown (hw _ (List.mem_of_getElem? (i := 117) rfl)) (hw _ (List.mem_of_getElem? (i := 118) rfl)) (hw _ (List.mem_of_getElem? (i := 119) rfl)) (hw _ (List.mem_of_getElem? (i := 121) rfl)) (hw _ (List.mem_of_getElem? (i := 120) rfl)) (hw _ (List.mem_of_getElem? (i := 122) rfl)) (hw _ (List.mem_of_getElem? (i := 123) rfl)) (rm_ordinal l Z a0 hw oDE oDV oS0 oS1 oS2 oSE0 oSE1 oSE2 oSF0 oSF1 oSF2 oSM oSV [] ws2 (2 : Int32) h0 O0 (oSF2.ext O0)) 1 0 0 rfl rfl (by decide) (by decide) (by decide) (by show _ ≤ 0; omega) (by show _ ≤ 0; omega) e1 (oSE2.ext O0) (g := (mkF m 4 #[.val (.ref a1), .val (.ref ws2)] [(.ref ws2), (.ref wm)])) rfl (by rw [hml]; rfl) [] [(.ref wm)] (lenOf own_pd_7 rfl) rfl rfl (by show 2 * 0 + _ ≤ _; exact Nat.le_of_eq rfl) (hb hby d13_4)
  replace hS := hSn
  replace hZ := hZn
  replace hown := hownn
  clear hSn hZn hownn
  obtain ⟨rfl, Nc4, Kc3⟩ := hQ2
  refine own_go st2 ?_
  have N5 := Fr.app N0 Nc4
  rw [Kc3] at hS
  show own_Go p e below s _ _ _ (T2.setTop (mkF m 7 #[.val (.ref a1), .val (.ref ws2)] [(.int (2 : Int32)), (.ref wm)]))
  obtain ⟨cl6, Ar6, -, S6, -, P6, -⟩ := id (oSV.ext O0)
  have hin6 : ¬ ((2 : Int32) < 0 ∨ cl6.slots.size ≤ ((2 : Int32)).toNatClampNeg) := inb_of S6 ⟨by decide, by decide⟩
  refine own_go (X2.iaload hx (j := (2 : Int32)) (v := (.int (3 : Int32))) (by rw [Kc3]; exact Ar6.1) (State.isArrayOf_alike hZ.alike Ar6.2.1) Ar6.2.2 hin6 (P6.at hin6 rfl) (g := (mkF m 7 #[.val (.ref a1), .val (.ref ws2)] [(.int (2 : Int32)), (.ref wm)])) rfl rfl (hb hby d13_7)) ?_
  show own_Go p e below s _ _ _ (T2.setTop (mkF m 8 #[.val (.ref a1), .val (.ref ws2)] [(.int (3 : Int32))]))
  refine own_go (fun _ k => XS.tswIn X2.here hx rfl (pc0 := 8) (pc' := 60) rfl (hb hby d13_8) rfl (by decide) rfl (by decide) (by decide) k) ?_
  show own_Go p e below s _ _ _ (T2.setTop (mkF m 60 #[.val (.ref a1), .val (.ref ws2)] []))
  refine own_go (fun _ k => XS.aloadN X2.here hx rfl (hb hby d13_60) rfl rfl k) ?_
  show own_Go p e below s _ _ _ (T2.setTop (mkF m 61 #[.val (.ref a1), .val (.ref ws2)] [(.ref a1)]))
  obtain ⟨T7, X7, e7, st7⟩ := getF X2 hx hZ hown (host := "") (Or.inl (hw _ (List.mem_of_getElem? (i := 104) rfl))) Via.refl Kc3 f_F_a1_relations (g := (mkF m 61 #[.val (.ref a1), .val (.ref ws2)] [(.ref a1)])) rfl rfl (hb hby d13_61)
  refine own_go st7 ?_
  show own_Go p e below s _ _ _ (T7.setTop (mkF m 64 #[.val (.ref a1), .val (.ref ws2)] [(.ref w)]))
  refine own_retA X7 hS hx hlk e7 hret rfl rfl (hb hby d13_64) (by show _ ≤ 0; omega) (by show _ ≤ 0; omega) ?_
  exact ⟨rfl, N5, rfl⟩
def Q_law (Z : State) (wd : Addr) (kd : ClassId) (ws0 : Addr) (ws1 : Addr) (ws2 : Addr) (wm : Addr) (km : ClassId) (p1 : Int32) (h0 : Heap) (v : Option Value) (h : Heap) (L : List Loc) : Prop := (v = some (.int (1 : Int32)) ∧ Fr Z.heap.size L ∧ Keep h0 h [])
theorem ef_law (m : MethodId) (x0 : Int32) : entryFrame m #[(.int x0)] maxLocals = mkF m 0 #[.val (.int x0), .unset, .unset, .unset, .unset, .unset, .unset, .unset, .unset, .unset, .unset, .unset] [] := by first | (simp [entryFrame, mkF, argsToLocals, Value.category, maxLocals]; done) | rfl
set_option maxRecDepth 65536 in
set_option maxHeartbeats 40000000 in
theorem rm_law (l : Launch) (Z : State) (a0 : Array Value) (hw : ∀ d ∈ tables_1, d.before a0 Z = true) {wd : Addr} {kd : ClassId} {ws0 : Addr} {ws1 : Addr} {ws2 : Addr} {wm : Addr} {km : ClassId} (oDE : Sta Z Z.heap "java/util/ArrayList" "DEFAULTCAPACITY_EMPTY_ELEMENTDATA" "[Ljava/lang/Object;" (.ref wd)) (oDV : Arv Z Z.heap wd kd (.object "java/lang/Object") (0 : Int32) [] .null) (oS0 : Sta Z Z.heap "com/example/slotsholmen/slotsholmen/schema/Section" "ATTRIBUTES" "Lcom/example/slotsholmen/slotsholmen/schema/Section;" (.ref ws0)) (oS1 : Sta Z Z.heap "com/example/slotsholmen/slotsholmen/schema/Section" "STATES" "Lcom/example/slotsholmen/slotsholmen/schema/Section;" (.ref ws1)) (oS2 : Sta Z Z.heap "com/example/slotsholmen/slotsholmen/schema/Section" "RELATIONS" "Lcom/example/slotsholmen/slotsholmen/schema/Section;" (.ref ws2)) (oSE0 : Exa Z Z.heap ws0 "com/example/slotsholmen/slotsholmen/schema/Section") (oSE1 : Exa Z Z.heap ws1 "com/example/slotsholmen/slotsholmen/schema/Section") (oSE2 : Exa Z Z.heap ws2 "com/example/slotsholmen/slotsholmen/schema/Section") (oSF0 : Fld Z Z.heap ws0 "java/lang/Enum" "ordinal" "I" (.int (0 : Int32))) (oSF1 : Fld Z Z.heap ws1 "java/lang/Enum" "ordinal" "I" (.int (1 : Int32))) (oSF2 : Fld Z Z.heap ws2 "java/lang/Enum" "ordinal" "I" (.int (2 : Int32))) (oSM : Sta Z Z.heap "com/example/slotsholmen/slotsholmen/schema/ObjectClass$1" "$SwitchMap$com$example$slotsholmen$slotsholmen$schema$Section" "[I" (.ref wm)) (oSV : Arv Z Z.heap wm km .int (3 : Int32) [(.int (1 : Int32)), (.int (2 : Int32)), (.int (3 : Int32))] (.int (0 : Int32))) (ws : List Jvm.Cond) (p1 : Int32) (h0 : Heap) (O0 : Ext Z.heap h0) :
    MetFree l x (head1 (Jvm.Cond.code x code maxLocals ret :: ws) room_1) (fun a U => a = #[(.int p1)] ∧ Z.Warmed39 U.vm ∧ U.heap = h0) (fun _ _ _ _ _ => True) (fun _ U o U' => ∃ v L, o = .returned v ∧ (Q_law Z wd kd ws0 ws1 ws2 wm km p1 h0) v U'.heap L ∧ ReturnedEndW U o U' L room_1.cells room_1.slots) := by
  refine own_met (Q := (Q_law Z wd kd ws0 ws1 ws2 wm km p1 h0)) _ _ (plainFor_of_name own_pn_9) ?_
  intro p e s vm0 m below meth c T X0 hS hx hby hml hret hlk hZ hown hnm e0
  replace hown : (s.setVm vm0).vm.findClass "com/example/slotsholmen/slotsholmen/schema/ObjectClassGroupsPinLaw" = some m.cls := hown
  replace hnm : meth.name = "law" := hnm
  have hml : c.maxLocals = 12 := hml
  have N0 := Fr.nil Z.heap.size
  have K0 := Keep.refl h0 []
  refine own_go (fun _ k => castTop (ef_law m p1) k) ?_
  show own_Go p e below s _ _ _ (T.setTop (mkF m 0 #[.val (.int p1), .unset, .unset, .unset, .unset, .unset, .unset, .unset, .unset, .unset, .unset, .unset] []))
  refine own_go (fun _ k => XS.iloadN X0.here hx rfl (hb hby at_0) rfl k) ?_
  show own_Go p e below s _ _ _ (T.setTop (mkF m 1 #[.val (.int p1), .unset, .unset, .unset, .unset, .unset, .unset, .unset, .unset, .unset, .unset, .unset] [(.int p1)]))
  refine own_go (X0.ldcInt hx hown (mvT hZ (hw _ (List.mem_of_getElem? (i := 0) rfl))) (g := (mkF m 1 #[.val (.int p1), .unset, .unset, .unset, .unset, .unset, .unset, .unset, .unset, .unset, .unset, .unset] [(.int p1)])) rfl (hb hby at_1)) ?_
  show own_Go p e below s _ _ _ (T.setTop (mkF m 3 #[.val (.int p1), .unset, .unset, .unset, .unset, .unset, .unset, .unset, .unset, .unset, .unset, .unset] [(.int (2147483647 : Int32)), (.int p1)]))
  refine own_go (fun _ k => XS.iand X0.here hx rfl (hb hby at_3) rfl k) ?_
  show own_Go p e below s _ _ _ (T.setTop (mkF m 4 #[.val (.int p1), .unset, .unset, .unset, .unset, .unset, .unset, .unset, .unset, .unset, .unset, .unset] [(.int (p1 &&& (2147483647 : Int32)))]))
  refine own_go (fun _ k => XS.iconst X0.here hx rfl (hb hby at_4) k) ?_
  show own_Go p e below s _ _ _ (T.setTop (mkF m 5 #[.val (.int p1), .unset, .unset, .unset, .unset, .unset, .unset, .unset, .unset, .unset, .unset, .unset] [(.int (3 : Int32)), (.int (p1 &&& (2147483647 : Int32)))]))
  refine own_go (fun _ k => iremM X0 hx rfl (hb hby at_5) rfl (by decide : ¬ ((3 : Int32) = (0 : Int32))) k) ?_
  show own_Go p e below s _ _ _ (T.setTop (mkF m 6 #[.val (.int p1), .unset, .unset, .unset, .unset, .unset, .unset, .unset, .unset, .unset, .unset, .unset] [(.int ((p1 &&& (2147483647 : Int32)) % (3 : Int32)))]))
  refine own_go (fun _ k => XS.istoreN X0.here hx rfl (hb hby at_6) rfl (l' := #[.val (.int p1), .val (.int ((p1 &&& (2147483647 : Int32)) % (3 : Int32))), .unset, .unset, .unset, .unset, .unset, .unset, .unset, .unset, .unset, .unset]) rfl k) ?_
  show own_Go p e below s _ _ _ (T.setTop (mkF m 7 #[.val (.int p1), .val (.int ((p1 &&& (2147483647 : Int32)) % (3 : Int32))), .unset, .unset, .unset, .unset, .unset, .unset, .unset, .unset, .unset, .unset] []))
  obtain ⟨T1, h1, X1, e1, E1, A1, D1, -, st1⟩ := newO X0 hx hZ hown (hw _ (List.mem_of_getElem? (i := 1) rfl)) (hw _ (List.mem_of_getElem? (i := 2) rfl)) (hw _ (List.mem_of_getElem? (i := 3) rfl)) e0 (g := (mkF m 7 #[.val (.int p1), .val (.int ((p1 &&& (2147483647 : Int32)) % (3 : Int32))), .unset, .unset, .unset, .unset, .unset, .unset, .unset, .unset, .unset, .unset] [])) rfl (hb hby at_7) (by show _ ≤ 48; omega) (by show _ ≤ 6400; omega)
  obtain ⟨b1, g1⟩ : ∃ z, z = h0.size := ⟨_, rfl⟩
  rw [← g1] at A1 D1 st1
  refine own_go st1 ?_
  have ge1 := Nat.le_of_eq g1.symm
  have big2 : Z.heap.size ≤ b1 := Nat.le_trans O0.1 ge1
  have sz3 : h0.size ≤ b1 := Nat.le_trans K0.1 ge1
  have O4 := own_oldExt O0 E1
  replace hS := own_since hS E1.1
  have K5 := K0.ext E1
  have f6 : Fld Z h1 b1 "com/example/slotsholmen/slotsholmen/schema/Group" "name" "Ljava/lang/String;" .null := D1 (Or.inr (hw _ (List.mem_of_getElem? (i := 48) rfl))) (ty := (.object "java/lang/String")) (by decide)
  have f7 : Fld Z h1 b1 "com/example/slotsholmen/slotsholmen/schema/Group" "fields" "Ljava/util/List;" .null := D1 (Or.inr (hw _ (List.mem_of_getElem? (i := 50) rfl))) (ty := (.object "java/util/List")) (by decide)
  show own_Go p e below s _ _ _ (T1.setTop (mkF m 10 #[.val (.int p1), .val (.int ((p1 &&& (2147483647 : Int32)) % (3 : Int32))), .unset, .unset, .unset, .unset, .unset, .unset, .unset, .unset, .unset, .unset] [(.ref b1)]))
  refine own_go (fun _ k => XS.dup X1.here hx rfl (hb hby at_10) rfl rfl k) ?_
  show own_Go p e below s _ _ _ (T1.setTop (mkF m 11 #[.val (.int p1), .val (.int ((p1 &&& (2147483647 : Int32)) % (3 : Int32))), .unset, .unset, .unset, .unset, .unset, .unset, .unset, .unset, .unset, .unset] [(.ref b1), (.ref b1)]))
  obtain ⟨b8, T8, h8, k8, X8, e8, E8, hSn, hkn, hZn, hownn, st8⟩ := ldcS X1 hx hZ hown (hw _ (List.mem_of_getElem? (i := 4) rfl)) (own_wS hw) e1 hS (Nat.le_refl _) (g := (mkF m 11 #[.val (.int p1), .val (.int ((p1 &&& (2147483647 : Int32)) % (3 : Int32))), .unset, .unset, .unset, .unset, .unset, .unset, .unset, .unset, .unset, .unset] [(.ref b1), (.ref b1)])) rfl (hb hby at_11) (n := 4) (by decide) (by decide) (by show _ ≤ 48; omega) (by show _ ≤ 6400; omega)
  refine own_go st8 ?_
  replace hS := own_since hSn hkn
  replace hZ := hZn
  replace hown := hownn
  clear hSn hZn hownn
  have f9 : Exa Z h8 b1 "com/example/slotsholmen/slotsholmen/schema/Group" := A1.ext E8
  have f10 : Fld Z h8 b1 "com/example/slotsholmen/slotsholmen/schema/Group" "name" "Ljava/lang/String;" .null := f6.ext E8
  have f11 : Fld Z h8 b1 "com/example/slotsholmen/slotsholmen/schema/Group" "fields" "Ljava/util/List;" .null := f7.ext E8
  have O12 := own_oldExt O4 E8
  have K13 := K5.ext E8
  show own_Go p e below s _ _ _ (T8.setTop (mkF m 13 #[.val (.int p1), .val (.int ((p1 &&& (2147483647 : Int32)) % (3 : Int32))), .unset, .unset, .unset, .unset, .unset, .unset, .unset, .unset, .unset, .unset] [(.ref b8), (.ref b1), (.ref b1)]))
  obtain ⟨T14, h14, X14, e14, E14, A14, D14, -, st14⟩ := newO X8 hx hZ hown (hw _ (List.mem_of_getElem? (i := 12) rfl)) (hw _ (List.mem_of_getElem? (i := 13) rfl)) (hw _ (List.mem_of_getElem? (i := 14) rfl)) e8 (g := (mkF m 13 #[.val (.int p1), .val (.int ((p1 &&& (2147483647 : Int32)) % (3 : Int32))), .unset, .unset, .unset, .unset, .unset, .unset, .unset, .unset, .unset, .unset] [(.ref b8), (.ref b1), (.ref b1)])) rfl (hb hby at_13) (by show _ ≤ 48; omega) (by show _ ≤ 6400; omega)
  obtain ⟨b14, g14⟩ : ∃ z, z = h8.size := ⟨_, rfl⟩
  rw [← g14] at A14 D14 st14
  refine own_go st14 ?_
  have ge14 := Nat.le_of_eq g14.symm
  have ne15 : b1 ≠ b14 := Nat.ne_of_lt (Nat.lt_of_lt_of_le f9.lt ge14)
  have big16 : Z.heap.size ≤ b14 := Nat.le_trans O12.1 ge14
  have sz17 : h0.size ≤ b14 := Nat.le_trans K13.1 ge14
  have f18 : Exa Z h14 b1 "com/example/slotsholmen/slotsholmen/schema/Group" := f9.ext E14
  have f19 : Fld Z h14 b1 "com/example/slotsholmen/slotsholmen/schema/Group" "name" "Ljava/lang/String;" .null := f10.ext E14
  have f20 : Fld Z h14 b1 "com/example/slotsholmen/slotsholmen/schema/Group" "fields" "Ljava/util/List;" .null := f11.ext E14
  have O21 := own_oldExt O12 E14
  replace hS := own_since hS E14.1
  have K22 := K13.ext E14
  have f23 : Fld Z h14 b14 "java/util/AbstractList" "modCount" "I" (.int (0 : Int32)) := D14 (Or.inl (hw _ (List.mem_of_getElem? (i := 34) rfl))) (ty := .int) (by decide)
  have f24 : Fld Z h14 b14 "java/util/ArrayList" "elementData" "[Ljava/lang/Object;" .null := D14 (Or.inl (hw _ (List.mem_of_getElem? (i := 37) rfl))) (ty := (.array (.object "java/lang/Object"))) (by decide)
  have f25 : Fld Z h14 b14 "java/util/ArrayList" "size" "I" (.int (0 : Int32)) := D14 (Or.inl (hw _ (List.mem_of_getElem? (i := 61) rfl))) (ty := .int) (by decide)
  show own_Go p e below s _ _ _ (T14.setTop (mkF m 16 #[.val (.int p1), .val (.int ((p1 &&& (2147483647 : Int32)) % (3 : Int32))), .unset, .unset, .unset, .unset, .unset, .unset, .unset, .unset, .unset, .unset] [(.ref b14), (.ref b8), (.ref b1), (.ref b1)]))
  refine own_go (fun _ k => XS.dup X14.here hx rfl (hb hby at_16) rfl rfl k) ?_
  show own_Go p e below s _ _ _ (T14.setTop (mkF m 17 #[.val (.int p1), .val (.int ((p1 &&& (2147483647 : Int32)) % (3 : Int32))), .unset, .unset, .unset, .unset, .unset, .unset, .unset, .unset, .unset, .unset] [(.ref b14), (.ref b14), (.ref b8), (.ref b1), (.ref b1)]))
  obtain ⟨v26, T26, L26, X26, hSn, hZn, hownn, hQ26, st26⟩ := own_callI (y := (⟨"java/util/ArrayList", "<init>", "()V"⟩ : MethodName)) X14 hS hx hZ hown (hw _ (List.mem_of_getElem? (i := 15) rfl)) (hw _ (List.mem_of_getElem? (i := 16) rfl)) (hw _ (List.mem_of_getElem? (i := 14) rfl)) (hw _ (List.mem_of_getElem? (i := 17) rfl)) (rm_alinit l Z a0 hw oDE oDV oS0 oS1 oS2 oSE0 oSE1 oSE2 oSF0 oSF1 oSF2 oSM oSV [] b14 h14 O21 A14 f25 f24 f23 big16) 4 0 0 rfl rfl rfl (by decide) (by decide) (by decide) (by show _ ≤ 48; omega) (by show _ ≤ 6400; omega) e14 (g := (mkF m 17 #[.val (.int p1), .val (.int ((p1 &&& (2147483647 : Int32)) % (3 : Int32))), .unset, .unset, .unset, .unset, .unset, .unset, .unset, .unset, .unset, .unset] [(.ref b14), (.ref b14), (.ref b8), (.ref b1), (.ref b1)])) rfl (by rw [hml]; rfl) b14 [] [(.ref b14), (.ref b8), (.ref b1), (.ref b1)] (lenOf own_pd_0 rfl) rfl rfl (by show 2 * 0 + _ ≤ _; exact Nat.le_of_eq rfl) (hb hby at_17)
  replace hS := hSn
  replace hZ := hZn
  replace hown := hownn
  clear hSn hZn hownn
  obtain ⟨rfl, Nc32, Kc31, f27, f28, f29, f30⟩ := hQ26
  refine own_go st26 ?_
  have N33 := Fr.app N0 Nc32
  have f34 : Exa Z T26.heap b1 "com/example/slotsholmen/slotsholmen/schema/Group" := f18.keep Kc31
  have f35 : Fld Z T26.heap b1 "com/example/slotsholmen/slotsholmen/schema/Group" "name" "Ljava/lang/String;" .null := f19.keep Kc31 (ninS ne15 nin0)
  have f36 : Fld Z T26.heap b1 "com/example/slotsholmen/slotsholmen/schema/Group" "fields" "Ljava/util/List;" .null := f20.keep Kc31 (ninS ne15 nin0)
  have f37 : Exa Z T26.heap b14 "java/util/ArrayList" := A14.keep Kc31
  have O41 := own_oldKeep O21 Kc31 (allS big16 all0)
  have K42 : Keep h0 T26.heap [] := K22.trans Kc31 (allS (Or.inr sz17) all0)
  show own_Go p e below s _ _ _ (T26.setTop (mkF m 20 #[.val (.int p1), .val (.int ((p1 &&& (2147483647 : Int32)) % (3 : Int32))), .unset, .unset, .unset, .unset, .unset, .unset, .unset, .unset, .unset, .unset] [(.ref b14), (.ref b8), (.ref b1), (.ref b1)]))
  obtain ⟨v43, T43, L43, X43, hSn, hZn, hownn, hQ43, st43⟩ := own_callI (y := (⟨"com/example/slotsholmen/slotsholmen/schema/Group", "<init>", "(Ljava/lang/String;Ljava/util/List;)V"⟩ : MethodName)) X26 hS hx hZ hown (hw _ (List.mem_of_getElem? (i := 38) rfl)) (hw _ (List.mem_of_getElem? (i := 39) rfl)) (hw _ (List.mem_of_getElem? (i := 3) rfl)) (hw _ (List.mem_of_getElem? (i := 40) rfl)) (rm_ginit l Z a0 hw oDE oDV oS0 oS1 oS2 oSE0 oSE1 oSE2 oSF0 oSF1 oSF2 oSM oSV [] b1 (.ref b8) (.ref b14) T26.heap O41 (rfl : ((.ref b8) : Value).isRef = true) (rfl : ((.ref b14) : Value).isRef = true) f34 f35 f36 big2) 1 0 0 rfl rfl rfl (by decide) (by decide) (by decide) (by show _ ≤ 48; omega) (by show _ ≤ 6400; omega) (rfl : T26.heap = T26.heap) (g := (mkF m 20 #[.val (.int p1), .val (.int ((p1 &&& (2147483647 : Int32)) % (3 : Int32))), .unset, .unset, .unset, .unset, .unset, .unset, .unset, .unset, .unset, .unset] [(.ref b14), (.ref b8), (.ref b1), (.ref b1)])) rfl (by rw [hml]; rfl) b1 [(.ref b8), (.ref b14)] [(.ref b1)] (lenOf own_pd_8 rfl) rfl rfl (by show 2 * 0 + _ ≤ _; exact Nat.le_of_eq rfl) (hb hby at_20)
  replace hS := hSn
  replace hZ := hZn
  replace hown := hownn
  clear hSn hZn hownn
  obtain ⟨rfl, Nc48, Kc47, f44, f45, f46⟩ := hQ43
  refine own_go st43 ?_
  have N49 := Fr.app N33 Nc48
  have f50 : Exa Z T43.heap b1 "com/example/slotsholmen/slotsholmen/schema/Group" := f34.keep Kc47
  have f53 : Exa Z T43.heap b14 "java/util/ArrayList" := f27.keep Kc47
  have f54 : Fld Z T43.heap b14 "java/util/ArrayList" "size" "I" (.int (0 : Int32)) := f28.keep Kc47 (ninS (Ne.symm ne15) nin0)
  have f55 : Fld Z T43.heap b14 "java/util/ArrayList" "elementData" "[Ljava/lang/Object;" (.ref wd) := f29.keep Kc47 (ninS (Ne.symm ne15) nin0)
  have f56 : Fld Z T43.heap b14 "java/util/AbstractList" "modCount" "I" (.int (0 : Int32)) := f30.keep Kc47 (ninS (Ne.symm ne15) nin0)
  have O57 := own_oldKeep O41 Kc47 (allS big2 all0)
  have K58 : Keep h0 T43.heap [] := K42.trans Kc47 (allS (Or.inr sz3) all0)
  show own_Go p e below s _ _ _ (T43.setTop (mkF m 23 #[.val (.int p1), .val (.int ((p1 &&& (2147483647 : Int32)) % (3 : Int32))), .unset, .unset, .unset, .unset, .unset, .unset, .unset, .unset, .unset, .unset] [(.ref b1)]))
  refine own_go (fun _ k => XS.astoreN X43.here hx rfl (hb hby at_23) rfl rfl (l' := #[.val (.int p1), .val (.int ((p1 &&& (2147483647 : Int32)) % (3 : Int32))), .val (.ref b1), .unset, .unset, .unset, .unset, .unset, .unset, .unset, .unset, .unset]) rfl k) ?_
  show own_Go p e below s _ _ _ (T43.setTop (mkF m 24 #[.val (.int p1), .val (.int ((p1 &&& (2147483647 : Int32)) % (3 : Int32))), .val (.ref b1), .unset, .unset, .unset, .unset, .unset, .unset, .unset, .unset, .unset] []))
  obtain ⟨T59, h59, X59, e59, E59, A59, D59, -, st59⟩ := newO X43 hx hZ hown (hw _ (List.mem_of_getElem? (i := 1) rfl)) (hw _ (List.mem_of_getElem? (i := 2) rfl)) (hw _ (List.mem_of_getElem? (i := 3) rfl)) (rfl : T43.heap = T43.heap) (g := (mkF m 24 #[.val (.int p1), .val (.int ((p1 &&& (2147483647 : Int32)) % (3 : Int32))), .val (.ref b1), .unset, .unset, .unset, .unset, .unset, .unset, .unset, .unset, .unset] [])) rfl (hb hby at_24) (by show _ ≤ 48; omega) (by show _ ≤ 6400; omega)
  obtain ⟨b59, g59⟩ : ∃ z, z = T43.heap.size := ⟨_, rfl⟩
  rw [← g59] at A59 D59 st59
  refine own_go st59 ?_
  have ge59 := Nat.le_of_eq g59.symm
  have ne60 : b1 ≠ b59 := Nat.ne_of_lt (Nat.lt_of_lt_of_le f44.lt ge59)
  have ne61 : b14 ≠ b59 := Nat.ne_of_lt (Nat.lt_of_lt_of_le f53.lt ge59)
  have big62 : Z.heap.size ≤ b59 := Nat.le_trans O57.1 ge59
  have sz63 : h0.size ≤ b59 := Nat.le_trans K58.1 ge59
  have f64 : Exa Z h59 b1 "com/example/slotsholmen/slotsholmen/schema/Group" := f44.ext E59
  have f65 : Exa Z h59 b14 "java/util/ArrayList" := f53.ext E59
  have f66 : Fld Z h59 b14 "java/util/ArrayList" "size" "I" (.int (0 : Int32)) := f54.ext E59
  have f67 : Fld Z h59 b14 "java/util/ArrayList" "elementData" "[Ljava/lang/Object;" (.ref wd) := f55.ext E59
  have f68 : Fld Z h59 b14 "java/util/AbstractList" "modCount" "I" (.int (0 : Int32)) := f56.ext E59
  have f69 : Fld Z h59 b1 "com/example/slotsholmen/slotsholmen/schema/Group" "name" "Ljava/lang/String;" (.ref b8) := f45.ext E59
  have f70 : Fld Z h59 b1 "com/example/slotsholmen/slotsholmen/schema/Group" "fields" "Ljava/util/List;" (.ref b14) := f46.ext E59
  have O71 := own_oldExt O57 E59
  replace hS := own_since hS E59.1
  have K72 := K58.ext E59
  have f73 : Fld Z h59 b59 "com/example/slotsholmen/slotsholmen/schema/Group" "name" "Ljava/lang/String;" .null := D59 (Or.inr (hw _ (List.mem_of_getElem? (i := 48) rfl))) (ty := (.object "java/lang/String")) (by decide)
  have f74 : Fld Z h59 b59 "com/example/slotsholmen/slotsholmen/schema/Group" "fields" "Ljava/util/List;" .null := D59 (Or.inr (hw _ (List.mem_of_getElem? (i := 50) rfl))) (ty := (.object "java/util/List")) (by decide)
  show own_Go p e below s _ _ _ (T59.setTop (mkF m 27 #[.val (.int p1), .val (.int ((p1 &&& (2147483647 : Int32)) % (3 : Int32))), .val (.ref b1), .unset, .unset, .unset, .unset, .unset, .unset, .unset, .unset, .unset] [(.ref b59)]))
  refine own_go (fun _ k => XS.dup X59.here hx rfl (hb hby at_27) rfl rfl k) ?_
  show own_Go p e below s _ _ _ (T59.setTop (mkF m 28 #[.val (.int p1), .val (.int ((p1 &&& (2147483647 : Int32)) % (3 : Int32))), .val (.ref b1), .unset, .unset, .unset, .unset, .unset, .unset, .unset, .unset, .unset] [(.ref b59), (.ref b59)]))
  obtain ⟨b75, T75, h75, k75, X75, e75, E75, hSn, hkn, hZn, hownn, st75⟩ := ldcS X59 hx hZ hown (hw _ (List.mem_of_getElem? (i := 51) rfl)) (own_wS hw) e59 hS (Nat.le_refl _) (g := (mkF m 28 #[.val (.int p1), .val (.int ((p1 &&& (2147483647 : Int32)) % (3 : Int32))), .val (.ref b1), .unset, .unset, .unset, .unset, .unset, .unset, .unset, .unset, .unset] [(.ref b59), (.ref b59)])) rfl (hb hby at_28) (n := 4) (by decide) (by decide) (by show _ ≤ 48; omega) (by show _ ≤ 6400; omega)
  refine own_go st75 ?_
  replace hS := own_since hSn hkn
  replace hZ := hZn
  replace hown := hownn
  clear hSn hZn hownn
  have f76 : Exa Z h75 b1 "com/example/slotsholmen/slotsholmen/schema/Group" := f64.ext E75
  have f77 : Exa Z h75 b14 "java/util/ArrayList" := f65.ext E75
  have f78 : Fld Z h75 b14 "java/util/ArrayList" "size" "I" (.int (0 : Int32)) := f66.ext E75
  have f79 : Fld Z h75 b14 "java/util/ArrayList" "elementData" "[Ljava/lang/Object;" (.ref wd) := f67.ext E75
  have f80 : Fld Z h75 b14 "java/util/AbstractList" "modCount" "I" (.int (0 : Int32)) := f68.ext E75
  have f81 : Fld Z h75 b1 "com/example/slotsholmen/slotsholmen/schema/Group" "name" "Ljava/lang/String;" (.ref b8) := f69.ext E75
  have f82 : Fld Z h75 b1 "com/example/slotsholmen/slotsholmen/schema/Group" "fields" "Ljava/util/List;" (.ref b14) := f70.ext E75
  have f83 : Exa Z h75 b59 "com/example/slotsholmen/slotsholmen/schema/Group" := A59.ext E75
  have f84 : Fld Z h75 b59 "com/example/slotsholmen/slotsholmen/schema/Group" "name" "Ljava/lang/String;" .null := f73.ext E75
  have f85 : Fld Z h75 b59 "com/example/slotsholmen/slotsholmen/schema/Group" "fields" "Ljava/util/List;" .null := f74.ext E75
  have O86 := own_oldExt O71 E75
  have K87 := K72.ext E75
  show own_Go p e below s _ _ _ (T75.setTop (mkF m 30 #[.val (.int p1), .val (.int ((p1 &&& (2147483647 : Int32)) % (3 : Int32))), .val (.ref b1), .unset, .unset, .unset, .unset, .unset, .unset, .unset, .unset, .unset] [(.ref b75), (.ref b59), (.ref b59)]))
  obtain ⟨T88, h88, X88, e88, E88, A88, D88, -, st88⟩ := newO X75 hx hZ hown (hw _ (List.mem_of_getElem? (i := 12) rfl)) (hw _ (List.mem_of_getElem? (i := 13) rfl)) (hw _ (List.mem_of_getElem? (i := 14) rfl)) e75 (g := (mkF m 30 #[.val (.int p1), .val (.int ((p1 &&& (2147483647 : Int32)) % (3 : Int32))), .val (.ref b1), .unset, .unset, .unset, .unset, .unset, .unset, .unset, .unset, .unset] [(.ref b75), (.ref b59), (.ref b59)])) rfl (hb hby at_30) (by show _ ≤ 48; omega) (by show _ ≤ 6400; omega)
  obtain ⟨b88, g88⟩ : ∃ z, z = h75.size := ⟨_, rfl⟩
  rw [← g88] at A88 D88 st88
  refine own_go st88 ?_
  have ge88 := Nat.le_of_eq g88.symm
  have ne89 : b1 ≠ b88 := Nat.ne_of_lt (Nat.lt_of_lt_of_le f76.lt ge88)
  have ne90 : b14 ≠ b88 := Nat.ne_of_lt (Nat.lt_of_lt_of_le f77.lt ge88)
  have ne91 : b59 ≠ b88 := Nat.ne_of_lt (Nat.lt_of_lt_of_le f83.lt ge88)
  have big92 : Z.heap.size ≤ b88 := Nat.le_trans O86.1 ge88
  have sz93 : h0.size ≤ b88 := Nat.le_trans K87.1 ge88
  have f94 : Exa Z h88 b1 "com/example/slotsholmen/slotsholmen/schema/Group" := f76.ext E88
  have f95 : Exa Z h88 b14 "java/util/ArrayList" := f77.ext E88
  have f96 : Fld Z h88 b14 "java/util/ArrayList" "size" "I" (.int (0 : Int32)) := f78.ext E88
  have f97 : Fld Z h88 b14 "java/util/ArrayList" "elementData" "[Ljava/lang/Object;" (.ref wd) := f79.ext E88
  have f98 : Fld Z h88 b14 "java/util/AbstractList" "modCount" "I" (.int (0 : Int32)) := f80.ext E88
  have f99 : Fld Z h88 b1 "com/example/slotsholmen/slotsholmen/schema/Group" "name" "Ljava/lang/String;" (.ref b8) := f81.ext E88
  have f100 : Fld Z h88 b1 "com/example/slotsholmen/slotsholmen/schema/Group" "fields" "Ljava/util/List;" (.ref b14) := f82.ext E88
  have f101 : Exa Z h88 b59 "com/example/slotsholmen/slotsholmen/schema/Group" := f83.ext E88
  have f102 : Fld Z h88 b59 "com/example/slotsholmen/slotsholmen/schema/Group" "name" "Ljava/lang/String;" .null := f84.ext E88
  have f103 : Fld Z h88 b59 "com/example/slotsholmen/slotsholmen/schema/Group" "fields" "Ljava/util/List;" .null := f85.ext E88
  have O104 := own_oldExt O86 E88
  replace hS := own_since hS E88.1
  have K105 := K87.ext E88
  have f106 : Fld Z h88 b88 "java/util/AbstractList" "modCount" "I" (.int (0 : Int32)) := D88 (Or.inl (hw _ (List.mem_of_getElem? (i := 34) rfl))) (ty := .int) (by decide)
  have f107 : Fld Z h88 b88 "java/util/ArrayList" "elementData" "[Ljava/lang/Object;" .null := D88 (Or.inl (hw _ (List.mem_of_getElem? (i := 37) rfl))) (ty := (.array (.object "java/lang/Object"))) (by decide)
  have f108 : Fld Z h88 b88 "java/util/ArrayList" "size" "I" (.int (0 : Int32)) := D88 (Or.inl (hw _ (List.mem_of_getElem? (i := 61) rfl))) (ty := .int) (by decide)
  show own_Go p e below s _ _ _ (T88.setTop (mkF m 33 #[.val (.int p1), .val (.int ((p1 &&& (2147483647 : Int32)) % (3 : Int32))), .val (.ref b1), .unset, .unset, .unset, .unset, .unset, .unset, .unset, .unset, .unset] [(.ref b88), (.ref b75), (.ref b59), (.ref b59)]))
  refine own_go (fun _ k => XS.dup X88.here hx rfl (hb hby at_33) rfl rfl k) ?_
  show own_Go p e below s _ _ _ (T88.setTop (mkF m 34 #[.val (.int p1), .val (.int ((p1 &&& (2147483647 : Int32)) % (3 : Int32))), .val (.ref b1), .unset, .unset, .unset, .unset, .unset, .unset, .unset, .unset, .unset] [(.ref b88), (.ref b88), (.ref b75), (.ref b59), (.ref b59)]))
  obtain ⟨v109, T109, L109, X109, hSn, hZn, hownn, hQ109, st109⟩ := own_callI (y := (⟨"java/util/ArrayList", "<init>", "()V"⟩ : MethodName)) X88 hS hx hZ hown (hw _ (List.mem_of_getElem? (i := 15) rfl)) (hw _ (List.mem_of_getElem? (i := 16) rfl)) (hw _ (List.mem_of_getElem? (i := 14) rfl)) (hw _ (List.mem_of_getElem? (i := 17) rfl)) (rm_alinit l Z a0 hw oDE oDV oS0 oS1 oS2 oSE0 oSE1 oSE2 oSF0 oSF1 oSF2 oSM oSV [] b88 h88 O104 A88 f108 f107 f106 big92) 4 0 0 rfl rfl rfl (by decide) (by decide) (by decide) (by show _ ≤ 48; omega) (by show _ ≤ 6400; omega) e88 (g := (mkF m 34 #[.val (.int p1), .val (.int ((p1 &&& (2147483647 : Int32)) % (3 : Int32))), .val (.ref b1), .unset, .unset, .unset, .unset, .unset, .unset, .unset, .unset, .unset] [(.ref b88), (.ref b88), (.ref b75), (.ref b59), (.ref b59)])) rfl (by rw [hml]; rfl) b88 [] [(.ref b88), (.ref b75), (.ref b59), (.ref b59)] (lenOf own_pd_0 rfl) rfl rfl (by show 2 * 0 + _ ≤ _; exact Nat.le_of_eq rfl) (hb hby at_34)
  replace hS := hSn
  replace hZ := hZn
  replace hown := hownn
  clear hSn hZn hownn
  obtain ⟨rfl, Nc115, Kc114, f110, f111, f112, f113⟩ := hQ109
  refine own_go st109 ?_
  have N116 := Fr.app N49 Nc115
  have f117 : Exa Z T109.heap b1 "com/example/slotsholmen/slotsholmen/schema/Group" := f94.keep Kc114
  have f118 : Exa Z T109.heap b14 "java/util/ArrayList" := f95.keep Kc114
  have f119 : Fld Z T109.heap b14 "java/util/ArrayList" "size" "I" (.int (0 : Int32)) := f96.keep Kc114 (ninS ne90 nin0)
  have f120 : Fld Z T109.heap b14 "java/util/ArrayList" "elementData" "[Ljava/lang/Object;" (.ref wd) := f97.keep Kc114 (ninS ne90 nin0)
  have f121 : Fld Z T109.heap b14 "java/util/AbstractList" "modCount" "I" (.int (0 : Int32)) := f98.keep Kc114 (ninS ne90 nin0)
  have f122 : Fld Z T109.heap b1 "com/example/slotsholmen/slotsholmen/schema/Group" "name" "Ljava/lang/String;" (.ref b8) := f99.keep Kc114 (ninS ne89 nin0)
  have f123 : Fld Z T109.heap b1 "com/example/slotsholmen/slotsholmen/schema/Group" "fields" "Ljava/util/List;" (.ref b14) := f100.keep Kc114 (ninS ne89 nin0)
  have f124 : Exa Z T109.heap b59 "com/example/slotsholmen/slotsholmen/schema/Group" := f101.keep Kc114
  have f125 : Fld Z T109.heap b59 "com/example/slotsholmen/slotsholmen/schema/Group" "name" "Ljava/lang/String;" .null := f102.keep Kc114 (ninS ne91 nin0)
  have f126 : Fld Z T109.heap b59 "com/example/slotsholmen/slotsholmen/schema/Group" "fields" "Ljava/util/List;" .null := f103.keep Kc114 (ninS ne91 nin0)
  have f127 : Exa Z T109.heap b88 "java/util/ArrayList" := A88.keep Kc114
  have O131 := own_oldKeep O104 Kc114 (allS big92 all0)
  have K132 : Keep h0 T109.heap [] := K105.trans Kc114 (allS (Or.inr sz93) all0)
  show own_Go p e below s _ _ _ (T109.setTop (mkF m 37 #[.val (.int p1), .val (.int ((p1 &&& (2147483647 : Int32)) % (3 : Int32))), .val (.ref b1), .unset, .unset, .unset, .unset, .unset, .unset, .unset, .unset, .unset] [(.ref b88), (.ref b75), (.ref b59), (.ref b59)]))
  obtain ⟨v133, T133, L133, X133, hSn, hZn, hownn, hQ133, st133⟩ := own_callI (y := (⟨"com/example/slotsholmen/slotsholmen/schema/Group", "<init>", "(Ljava/lang/String;Ljava/util/List;)V"⟩ : MethodName)) X109 hS hx hZ hown (hw _ (List.mem_of_getElem? (i := 38) rfl)) (hw _ (List.mem_of_getElem? (i := 39) rfl)) (hw _ (List.mem_of_getElem? (i := 3) rfl)) (hw _ (List.mem_of_getElem? (i := 40) rfl)) (rm_ginit l Z a0 hw oDE oDV oS0 oS1 oS2 oSE0 oSE1 oSE2 oSF0 oSF1 oSF2 oSM oSV [] b59 (.ref b75) (.ref b88) T109.heap O131 (rfl : ((.ref b75) : Value).isRef = true) (rfl : ((.ref b88) : Value).isRef = true) f124 f125 f126 big62) 1 0 0 rfl rfl rfl (by decide) (by decide) (by decide) (by show _ ≤ 48; omega) (by show _ ≤ 6400; omega) (rfl : T109.heap = T109.heap) (g := (mkF m 37 #[.val (.int p1), .val (.int ((p1 &&& (2147483647 : Int32)) % (3 : Int32))), .val (.ref b1), .unset, .unset, .unset, .unset, .unset, .unset, .unset, .unset, .unset] [(.ref b88), (.ref b75), (.ref b59), (.ref b59)])) rfl (by rw [hml]; rfl) b59 [(.ref b75), (.ref b88)] [(.ref b59)] (lenOf own_pd_8 rfl) rfl rfl (by show 2 * 0 + _ ≤ _; exact Nat.le_of_eq rfl) (hb hby at_37)
  replace hS := hSn
  replace hZ := hZn
  replace hown := hownn
  clear hSn hZn hownn
  obtain ⟨rfl, Nc138, Kc137, f134, f135, f136⟩ := hQ133
  refine own_go st133 ?_
  have N139 := Fr.app N116 Nc138
  have f140 : Exa Z T133.heap b1 "com/example/slotsholmen/slotsholmen/schema/Group" := f117.keep Kc137
  have f141 : Exa Z T133.heap b14 "java/util/ArrayList" := f118.keep Kc137
  have f142 : Fld Z T133.heap b14 "java/util/ArrayList" "size" "I" (.int (0 : Int32)) := f119.keep Kc137 (ninS ne61 nin0)
  have f143 : Fld Z T133.heap b14 "java/util/ArrayList" "elementData" "[Ljava/lang/Object;" (.ref wd) := f120.keep Kc137 (ninS ne61 nin0)
  have f144 : Fld Z T133.heap b14 "java/util/AbstractList" "modCount" "I" (.int (0 : Int32)) := f121.keep Kc137 (ninS ne61 nin0)
  have f145 : Fld Z T133.heap b1 "com/example/slotsholmen/slotsholmen/schema/Group" "name" "Ljava/lang/String;" (.ref b8) := f122.keep Kc137 (ninS ne60 nin0)
  have f146 : Fld Z T133.heap b1 "com/example/slotsholmen/slotsholmen/schema/Group" "fields" "Ljava/util/List;" (.ref b14) := f123.keep Kc137 (ninS ne60 nin0)
  have f147 : Exa Z T133.heap b59 "com/example/slotsholmen/slotsholmen/schema/Group" := f124.keep Kc137
  have f150 : Exa Z T133.heap b88 "java/util/ArrayList" := f110.keep Kc137
  have f151 : Fld Z T133.heap b88 "java/util/ArrayList" "size" "I" (.int (0 : Int32)) := f111.keep Kc137 (ninS (Ne.symm ne91) nin0)
  have f152 : Fld Z T133.heap b88 "java/util/ArrayList" "elementData" "[Ljava/lang/Object;" (.ref wd) := f112.keep Kc137 (ninS (Ne.symm ne91) nin0)
  have f153 : Fld Z T133.heap b88 "java/util/AbstractList" "modCount" "I" (.int (0 : Int32)) := f113.keep Kc137 (ninS (Ne.symm ne91) nin0)
  have O154 := own_oldKeep O131 Kc137 (allS big62 all0)
  have K155 : Keep h0 T133.heap [] := K132.trans Kc137 (allS (Or.inr sz63) all0)
  show own_Go p e below s _ _ _ (T133.setTop (mkF m 40 #[.val (.int p1), .val (.int ((p1 &&& (2147483647 : Int32)) % (3 : Int32))), .val (.ref b1), .unset, .unset, .unset, .unset, .unset, .unset, .unset, .unset, .unset] [(.ref b59)]))
  refine own_go (fun _ k => XS.astoreN X133.here hx rfl (hb hby at_40) rfl rfl (l' := #[.val (.int p1), .val (.int ((p1 &&& (2147483647 : Int32)) % (3 : Int32))), .val (.ref b1), .val (.ref b59), .unset, .unset, .unset, .unset, .unset, .unset, .unset, .unset]) rfl k) ?_
  show own_Go p e below s _ _ _ (T133.setTop (mkF m 41 #[.val (.int p1), .val (.int ((p1 &&& (2147483647 : Int32)) % (3 : Int32))), .val (.ref b1), .val (.ref b59), .unset, .unset, .unset, .unset, .unset, .unset, .unset, .unset] []))
  obtain ⟨T156, h156, X156, e156, E156, A156, D156, -, st156⟩ := newO X133 hx hZ hown (hw _ (List.mem_of_getElem? (i := 1) rfl)) (hw _ (List.mem_of_getElem? (i := 2) rfl)) (hw _ (List.mem_of_getElem? (i := 3) rfl)) (rfl : T133.heap = T133.heap) (g := (mkF m 41 #[.val (.int p1), .val (.int ((p1 &&& (2147483647 : Int32)) % (3 : Int32))), .val (.ref b1), .val (.ref b59), .unset, .unset, .unset, .unset, .unset, .unset, .unset, .unset] [])) rfl (hb hby at_41) (by show _ ≤ 48; omega) (by show _ ≤ 6400; omega)
  obtain ⟨b156, g156⟩ : ∃ z, z = T133.heap.size := ⟨_, rfl⟩
  rw [← g156] at A156 D156 st156
  refine own_go st156 ?_
  have ge156 := Nat.le_of_eq g156.symm
  have ne157 : b1 ≠ b156 := Nat.ne_of_lt (Nat.lt_of_lt_of_le f140.lt ge156)
  have ne158 : b14 ≠ b156 := Nat.ne_of_lt (Nat.lt_of_lt_of_le f141.lt ge156)
  have ne159 : b59 ≠ b156 := Nat.ne_of_lt (Nat.lt_of_lt_of_le f134.lt ge156)
  have ne160 : b88 ≠ b156 := Nat.ne_of_lt (Nat.lt_of_lt_of_le f150.lt ge156)
  have big161 : Z.heap.size ≤ b156 := Nat.le_trans O154.1 ge156
  have sz162 : h0.size ≤ b156 := Nat.le_trans K155.1 ge156
  have f163 : Exa Z h156 b1 "com/example/slotsholmen/slotsholmen/schema/Group" := f140.ext E156
  have f164 : Exa Z h156 b14 "java/util/ArrayList" := f141.ext E156
  have f165 : Fld Z h156 b14 "java/util/ArrayList" "size" "I" (.int (0 : Int32)) := f142.ext E156
  have f166 : Fld Z h156 b14 "java/util/ArrayList" "elementData" "[Ljava/lang/Object;" (.ref wd) := f143.ext E156
  have f167 : Fld Z h156 b14 "java/util/AbstractList" "modCount" "I" (.int (0 : Int32)) := f144.ext E156
  have f168 : Fld Z h156 b1 "com/example/slotsholmen/slotsholmen/schema/Group" "name" "Ljava/lang/String;" (.ref b8) := f145.ext E156
  have f169 : Fld Z h156 b1 "com/example/slotsholmen/slotsholmen/schema/Group" "fields" "Ljava/util/List;" (.ref b14) := f146.ext E156
  have f170 : Exa Z h156 b59 "com/example/slotsholmen/slotsholmen/schema/Group" := f134.ext E156
  have f171 : Exa Z h156 b88 "java/util/ArrayList" := f150.ext E156
  have f172 : Fld Z h156 b88 "java/util/ArrayList" "size" "I" (.int (0 : Int32)) := f151.ext E156
  have f173 : Fld Z h156 b88 "java/util/ArrayList" "elementData" "[Ljava/lang/Object;" (.ref wd) := f152.ext E156
  have f174 : Fld Z h156 b88 "java/util/AbstractList" "modCount" "I" (.int (0 : Int32)) := f153.ext E156
  have f175 : Fld Z h156 b59 "com/example/slotsholmen/slotsholmen/schema/Group" "name" "Ljava/lang/String;" (.ref b75) := f135.ext E156
  have f176 : Fld Z h156 b59 "com/example/slotsholmen/slotsholmen/schema/Group" "fields" "Ljava/util/List;" (.ref b88) := f136.ext E156
  have O177 := own_oldExt O154 E156
  replace hS := own_since hS E156.1
  have K178 := K155.ext E156
  have f179 : Fld Z h156 b156 "com/example/slotsholmen/slotsholmen/schema/Group" "name" "Ljava/lang/String;" .null := D156 (Or.inr (hw _ (List.mem_of_getElem? (i := 48) rfl))) (ty := (.object "java/lang/String")) (by decide)
  have f180 : Fld Z h156 b156 "com/example/slotsholmen/slotsholmen/schema/Group" "fields" "Ljava/util/List;" .null := D156 (Or.inr (hw _ (List.mem_of_getElem? (i := 50) rfl))) (ty := (.object "java/util/List")) (by decide)
  show own_Go p e below s _ _ _ (T156.setTop (mkF m 44 #[.val (.int p1), .val (.int ((p1 &&& (2147483647 : Int32)) % (3 : Int32))), .val (.ref b1), .val (.ref b59), .unset, .unset, .unset, .unset, .unset, .unset, .unset, .unset] [(.ref b156)]))
  refine own_go (fun _ k => XS.dup X156.here hx rfl (hb hby at_44) rfl rfl k) ?_
  show own_Go p e below s _ _ _ (T156.setTop (mkF m 45 #[.val (.int p1), .val (.int ((p1 &&& (2147483647 : Int32)) % (3 : Int32))), .val (.ref b1), .val (.ref b59), .unset, .unset, .unset, .unset, .unset, .unset, .unset, .unset] [(.ref b156), (.ref b156)]))
  obtain ⟨b181, T181, h181, k181, X181, e181, E181, hSn, hkn, hZn, hownn, st181⟩ := ldcS X156 hx hZ hown (hw _ (List.mem_of_getElem? (i := 52) rfl)) (own_wS hw) e156 hS (Nat.le_refl _) (g := (mkF m 45 #[.val (.int p1), .val (.int ((p1 &&& (2147483647 : Int32)) % (3 : Int32))), .val (.ref b1), .val (.ref b59), .unset, .unset, .unset, .unset, .unset, .unset, .unset, .unset] [(.ref b156), (.ref b156)])) rfl (hb hby at_45) (n := 4) (by decide) (by decide) (by show _ ≤ 48; omega) (by show _ ≤ 6400; omega)
  refine own_go st181 ?_
  replace hS := own_since hSn hkn
  replace hZ := hZn
  replace hown := hownn
  clear hSn hZn hownn
  have f182 : Exa Z h181 b1 "com/example/slotsholmen/slotsholmen/schema/Group" := f163.ext E181
  have f183 : Exa Z h181 b14 "java/util/ArrayList" := f164.ext E181
  have f184 : Fld Z h181 b14 "java/util/ArrayList" "size" "I" (.int (0 : Int32)) := f165.ext E181
  have f185 : Fld Z h181 b14 "java/util/ArrayList" "elementData" "[Ljava/lang/Object;" (.ref wd) := f166.ext E181
  have f186 : Fld Z h181 b14 "java/util/AbstractList" "modCount" "I" (.int (0 : Int32)) := f167.ext E181
  have f187 : Fld Z h181 b1 "com/example/slotsholmen/slotsholmen/schema/Group" "name" "Ljava/lang/String;" (.ref b8) := f168.ext E181
  have f188 : Fld Z h181 b1 "com/example/slotsholmen/slotsholmen/schema/Group" "fields" "Ljava/util/List;" (.ref b14) := f169.ext E181
  have f189 : Exa Z h181 b59 "com/example/slotsholmen/slotsholmen/schema/Group" := f170.ext E181
  have f190 : Exa Z h181 b88 "java/util/ArrayList" := f171.ext E181
  have f191 : Fld Z h181 b88 "java/util/ArrayList" "size" "I" (.int (0 : Int32)) := f172.ext E181
  have f192 : Fld Z h181 b88 "java/util/ArrayList" "elementData" "[Ljava/lang/Object;" (.ref wd) := f173.ext E181
  have f193 : Fld Z h181 b88 "java/util/AbstractList" "modCount" "I" (.int (0 : Int32)) := f174.ext E181
  have f194 : Fld Z h181 b59 "com/example/slotsholmen/slotsholmen/schema/Group" "name" "Ljava/lang/String;" (.ref b75) := f175.ext E181
  have f195 : Fld Z h181 b59 "com/example/slotsholmen/slotsholmen/schema/Group" "fields" "Ljava/util/List;" (.ref b88) := f176.ext E181
  have f196 : Exa Z h181 b156 "com/example/slotsholmen/slotsholmen/schema/Group" := A156.ext E181
  have f197 : Fld Z h181 b156 "com/example/slotsholmen/slotsholmen/schema/Group" "name" "Ljava/lang/String;" .null := f179.ext E181
  have f198 : Fld Z h181 b156 "com/example/slotsholmen/slotsholmen/schema/Group" "fields" "Ljava/util/List;" .null := f180.ext E181
  have O199 := own_oldExt O177 E181
  have K200 := K178.ext E181
  show own_Go p e below s _ _ _ (T181.setTop (mkF m 47 #[.val (.int p1), .val (.int ((p1 &&& (2147483647 : Int32)) % (3 : Int32))), .val (.ref b1), .val (.ref b59), .unset, .unset, .unset, .unset, .unset, .unset, .unset, .unset] [(.ref b181), (.ref b156), (.ref b156)]))
  obtain ⟨T201, h201, X201, e201, E201, A201, D201, -, st201⟩ := newO X181 hx hZ hown (hw _ (List.mem_of_getElem? (i := 12) rfl)) (hw _ (List.mem_of_getElem? (i := 13) rfl)) (hw _ (List.mem_of_getElem? (i := 14) rfl)) e181 (g := (mkF m 47 #[.val (.int p1), .val (.int ((p1 &&& (2147483647 : Int32)) % (3 : Int32))), .val (.ref b1), .val (.ref b59), .unset, .unset, .unset, .unset, .unset, .unset, .unset, .unset] [(.ref b181), (.ref b156), (.ref b156)])) rfl (hb hby at_47) (by show _ ≤ 48; omega) (by show _ ≤ 6400; omega)
  obtain ⟨b201, g201⟩ : ∃ z, z = h181.size := ⟨_, rfl⟩
  rw [← g201] at A201 D201 st201
  refine own_go st201 ?_
  have ge201 := Nat.le_of_eq g201.symm
  have ne202 : b1 ≠ b201 := Nat.ne_of_lt (Nat.lt_of_lt_of_le f182.lt ge201)
  have ne203 : b14 ≠ b201 := Nat.ne_of_lt (Nat.lt_of_lt_of_le f183.lt ge201)
  have ne204 : b59 ≠ b201 := Nat.ne_of_lt (Nat.lt_of_lt_of_le f189.lt ge201)
  have ne205 : b88 ≠ b201 := Nat.ne_of_lt (Nat.lt_of_lt_of_le f190.lt ge201)
  have ne206 : b156 ≠ b201 := Nat.ne_of_lt (Nat.lt_of_lt_of_le f196.lt ge201)
  have big207 : Z.heap.size ≤ b201 := Nat.le_trans O199.1 ge201
  have sz208 : h0.size ≤ b201 := Nat.le_trans K200.1 ge201
  have f209 : Exa Z h201 b1 "com/example/slotsholmen/slotsholmen/schema/Group" := f182.ext E201
  have f210 : Exa Z h201 b14 "java/util/ArrayList" := f183.ext E201
  have f211 : Fld Z h201 b14 "java/util/ArrayList" "size" "I" (.int (0 : Int32)) := f184.ext E201
  have f212 : Fld Z h201 b14 "java/util/ArrayList" "elementData" "[Ljava/lang/Object;" (.ref wd) := f185.ext E201
  have f213 : Fld Z h201 b14 "java/util/AbstractList" "modCount" "I" (.int (0 : Int32)) := f186.ext E201
  have f214 : Fld Z h201 b1 "com/example/slotsholmen/slotsholmen/schema/Group" "name" "Ljava/lang/String;" (.ref b8) := f187.ext E201
  have f215 : Fld Z h201 b1 "com/example/slotsholmen/slotsholmen/schema/Group" "fields" "Ljava/util/List;" (.ref b14) := f188.ext E201
  have f216 : Exa Z h201 b59 "com/example/slotsholmen/slotsholmen/schema/Group" := f189.ext E201
  have f217 : Exa Z h201 b88 "java/util/ArrayList" := f190.ext E201
  have f218 : Fld Z h201 b88 "java/util/ArrayList" "size" "I" (.int (0 : Int32)) := f191.ext E201
  have f219 : Fld Z h201 b88 "java/util/ArrayList" "elementData" "[Ljava/lang/Object;" (.ref wd) := f192.ext E201
  have f220 : Fld Z h201 b88 "java/util/AbstractList" "modCount" "I" (.int (0 : Int32)) := f193.ext E201
  have f221 : Fld Z h201 b59 "com/example/slotsholmen/slotsholmen/schema/Group" "name" "Ljava/lang/String;" (.ref b75) := f194.ext E201
  have f222 : Fld Z h201 b59 "com/example/slotsholmen/slotsholmen/schema/Group" "fields" "Ljava/util/List;" (.ref b88) := f195.ext E201
  have f223 : Exa Z h201 b156 "com/example/slotsholmen/slotsholmen/schema/Group" := f196.ext E201
  have f224 : Fld Z h201 b156 "com/example/slotsholmen/slotsholmen/schema/Group" "name" "Ljava/lang/String;" .null := f197.ext E201
  have f225 : Fld Z h201 b156 "com/example/slotsholmen/slotsholmen/schema/Group" "fields" "Ljava/util/List;" .null := f198.ext E201
  have O226 := own_oldExt O199 E201
  replace hS := own_since hS E201.1
  have K227 := K200.ext E201
  have f228 : Fld Z h201 b201 "java/util/AbstractList" "modCount" "I" (.int (0 : Int32)) := D201 (Or.inl (hw _ (List.mem_of_getElem? (i := 34) rfl))) (ty := .int) (by decide)
  have f229 : Fld Z h201 b201 "java/util/ArrayList" "elementData" "[Ljava/lang/Object;" .null := D201 (Or.inl (hw _ (List.mem_of_getElem? (i := 37) rfl))) (ty := (.array (.object "java/lang/Object"))) (by decide)
  have f230 : Fld Z h201 b201 "java/util/ArrayList" "size" "I" (.int (0 : Int32)) := D201 (Or.inl (hw _ (List.mem_of_getElem? (i := 61) rfl))) (ty := .int) (by decide)
  show own_Go p e below s _ _ _ (T201.setTop (mkF m 50 #[.val (.int p1), .val (.int ((p1 &&& (2147483647 : Int32)) % (3 : Int32))), .val (.ref b1), .val (.ref b59), .unset, .unset, .unset, .unset, .unset, .unset, .unset, .unset] [(.ref b201), (.ref b181), (.ref b156), (.ref b156)]))
  refine own_go (fun _ k => XS.dup X201.here hx rfl (hb hby at_50) rfl rfl k) ?_
  show own_Go p e below s _ _ _ (T201.setTop (mkF m 51 #[.val (.int p1), .val (.int ((p1 &&& (2147483647 : Int32)) % (3 : Int32))), .val (.ref b1), .val (.ref b59), .unset, .unset, .unset, .unset, .unset, .unset, .unset, .unset] [(.ref b201), (.ref b201), (.ref b181), (.ref b156), (.ref b156)]))
  obtain ⟨v231, T231, L231, X231, hSn, hZn, hownn, hQ231, st231⟩ := own_callI (y := (⟨"java/util/ArrayList", "<init>", "()V"⟩ : MethodName)) X201 hS hx hZ hown (hw _ (List.mem_of_getElem? (i := 15) rfl)) (hw _ (List.mem_of_getElem? (i := 16) rfl)) (hw _ (List.mem_of_getElem? (i := 14) rfl)) (hw _ (List.mem_of_getElem? (i := 17) rfl)) (rm_alinit l Z a0 hw oDE oDV oS0 oS1 oS2 oSE0 oSE1 oSE2 oSF0 oSF1 oSF2 oSM oSV [] b201 h201 O226 A201 f230 f229 f228 big207) 4 0 0 rfl rfl rfl (by decide) (by decide) (by decide) (by show _ ≤ 48; omega) (by show _ ≤ 6400; omega) e201 (g := (mkF m 51 #[.val (.int p1), .val (.int ((p1 &&& (2147483647 : Int32)) % (3 : Int32))), .val (.ref b1), .val (.ref b59), .unset, .unset, .unset, .unset, .unset, .unset, .unset, .unset] [(.ref b201), (.ref b201), (.ref b181), (.ref b156), (.ref b156)])) rfl (by rw [hml]; rfl) b201 [] [(.ref b201), (.ref b181), (.ref b156), (.ref b156)] (lenOf own_pd_0 rfl) rfl rfl (by show 2 * 0 + _ ≤ _; exact Nat.le_of_eq rfl) (hb hby at_51)
  replace hS := hSn
  replace hZ := hZn
  replace hown := hownn
  clear hSn hZn hownn
  obtain ⟨rfl, Nc237, Kc236, f232, f233, f234, f235⟩ := hQ231
  refine own_go st231 ?_
  have N238 := Fr.app N139 Nc237
  have f239 : Exa Z T231.heap b1 "com/example/slotsholmen/slotsholmen/schema/Group" := f209.keep Kc236
  have f240 : Exa Z T231.heap b14 "java/util/ArrayList" := f210.keep Kc236
  have f241 : Fld Z T231.heap b14 "java/util/ArrayList" "size" "I" (.int (0 : Int32)) := f211.keep Kc236 (ninS ne203 nin0)
  have f242 : Fld Z T231.heap b14 "java/util/ArrayList" "elementData" "[Ljava/lang/Object;" (.ref wd) := f212.keep Kc236 (ninS ne203 nin0)
  have f243 : Fld Z T231.heap b14 "java/util/AbstractList" "modCount" "I" (.int (0 : Int32)) := f213.keep Kc236 (ninS ne203 nin0)
  have f244 : Fld Z T231.heap b1 "com/example/slotsholmen/slotsholmen/schema/Group" "name" "Ljava/lang/String;" (.ref b8) := f214.keep Kc236 (ninS ne202 nin0)
  have f245 : Fld Z T231.heap b1 "com/example/slotsholmen/slotsholmen/schema/Group" "fields" "Ljava/util/List;" (.ref b14) := f215.keep Kc236 (ninS ne202 nin0)
  have f246 : Exa Z T231.heap b59 "com/example/slotsholmen/slotsholmen/schema/Group" := f216.keep Kc236
  have f247 : Exa Z T231.heap b88 "java/util/ArrayList" := f217.keep Kc236
  have f248 : Fld Z T231.heap b88 "java/util/ArrayList" "size" "I" (.int (0 : Int32)) := f218.keep Kc236 (ninS ne205 nin0)
  have f249 : Fld Z T231.heap b88 "java/util/ArrayList" "elementData" "[Ljava/lang/Object;" (.ref wd) := f219.keep Kc236 (ninS ne205 nin0)
  have f250 : Fld Z T231.heap b88 "java/util/AbstractList" "modCount" "I" (.int (0 : Int32)) := f220.keep Kc236 (ninS ne205 nin0)
  have f251 : Fld Z T231.heap b59 "com/example/slotsholmen/slotsholmen/schema/Group" "name" "Ljava/lang/String;" (.ref b75) := f221.keep Kc236 (ninS ne204 nin0)
  have f252 : Fld Z T231.heap b59 "com/example/slotsholmen/slotsholmen/schema/Group" "fields" "Ljava/util/List;" (.ref b88) := f222.keep Kc236 (ninS ne204 nin0)
  have f253 : Exa Z T231.heap b156 "com/example/slotsholmen/slotsholmen/schema/Group" := f223.keep Kc236
  have f254 : Fld Z T231.heap b156 "com/example/slotsholmen/slotsholmen/schema/Group" "name" "Ljava/lang/String;" .null := f224.keep Kc236 (ninS ne206 nin0)
  have f255 : Fld Z T231.heap b156 "com/example/slotsholmen/slotsholmen/schema/Group" "fields" "Ljava/util/List;" .null := f225.keep Kc236 (ninS ne206 nin0)
  have f256 : Exa Z T231.heap b201 "java/util/ArrayList" := A201.keep Kc236
  have O260 := own_oldKeep O226 Kc236 (allS big207 all0)
  have K261 : Keep h0 T231.heap [] := K227.trans Kc236 (allS (Or.inr sz208) all0)
  show own_Go p e below s _ _ _ (T231.setTop (mkF m 54 #[.val (.int p1), .val (.int ((p1 &&& (2147483647 : Int32)) % (3 : Int32))), .val (.ref b1), .val (.ref b59), .unset, .unset, .unset, .unset, .unset, .unset, .unset, .unset] [(.ref b201), (.ref b181), (.ref b156), (.ref b156)]))
  obtain ⟨v262, T262, L262, X262, hSn, hZn, hownn, hQ262, st262⟩ := own_callI (y := (⟨"com/example/slotsholmen/slotsholmen/schema/Group", "<init>", "(Ljava/lang/String;Ljava/util/List;)V"⟩ : MethodName)) X231 hS hx hZ hown (hw _ (List.mem_of_getElem? (i := 38) rfl)) (hw _ (List.mem_of_getElem? (i := 39) rfl)) (hw _ (List.mem_of_getElem? (i := 3) rfl)) (hw _ (List.mem_of_getElem? (i := 40) rfl)) (rm_ginit l Z a0 hw oDE oDV oS0 oS1 oS2 oSE0 oSE1 oSE2 oSF0 oSF1 oSF2 oSM oSV [] b156 (.ref b181) (.ref b201) T231.heap O260 (rfl : ((.ref b181) : Value).isRef = true) (rfl : ((.ref b201) : Value).isRef = true) f253 f254 f255 big161) 1 0 0 rfl rfl rfl (by decide) (by decide) (by decide) (by show _ ≤ 48; omega) (by show _ ≤ 6400; omega) (rfl : T231.heap = T231.heap) (g := (mkF m 54 #[.val (.int p1), .val (.int ((p1 &&& (2147483647 : Int32)) % (3 : Int32))), .val (.ref b1), .val (.ref b59), .unset, .unset, .unset, .unset, .unset, .unset, .unset, .unset] [(.ref b201), (.ref b181), (.ref b156), (.ref b156)])) rfl (by rw [hml]; rfl) b156 [(.ref b181), (.ref b201)] [(.ref b156)] (lenOf own_pd_8 rfl) rfl rfl (by show 2 * 0 + _ ≤ _; exact Nat.le_of_eq rfl) (hb hby at_54)
  replace hS := hSn
  replace hZ := hZn
  replace hown := hownn
  clear hSn hZn hownn
  obtain ⟨rfl, Nc267, Kc266, f263, f264, f265⟩ := hQ262
  refine own_go st262 ?_
  have N268 := Fr.app N238 Nc267
  have f269 : Exa Z T262.heap b1 "com/example/slotsholmen/slotsholmen/schema/Group" := f239.keep Kc266
  have f270 : Exa Z T262.heap b14 "java/util/ArrayList" := f240.keep Kc266
  have f271 : Fld Z T262.heap b14 "java/util/ArrayList" "size" "I" (.int (0 : Int32)) := f241.keep Kc266 (ninS ne158 nin0)
  have f272 : Fld Z T262.heap b14 "java/util/ArrayList" "elementData" "[Ljava/lang/Object;" (.ref wd) := f242.keep Kc266 (ninS ne158 nin0)
  have f273 : Fld Z T262.heap b14 "java/util/AbstractList" "modCount" "I" (.int (0 : Int32)) := f243.keep Kc266 (ninS ne158 nin0)
  have f274 : Fld Z T262.heap b1 "com/example/slotsholmen/slotsholmen/schema/Group" "name" "Ljava/lang/String;" (.ref b8) := f244.keep Kc266 (ninS ne157 nin0)
  have f275 : Fld Z T262.heap b1 "com/example/slotsholmen/slotsholmen/schema/Group" "fields" "Ljava/util/List;" (.ref b14) := f245.keep Kc266 (ninS ne157 nin0)
  have f276 : Exa Z T262.heap b59 "com/example/slotsholmen/slotsholmen/schema/Group" := f246.keep Kc266
  have f277 : Exa Z T262.heap b88 "java/util/ArrayList" := f247.keep Kc266
  have f278 : Fld Z T262.heap b88 "java/util/ArrayList" "size" "I" (.int (0 : Int32)) := f248.keep Kc266 (ninS ne160 nin0)
  have f279 : Fld Z T262.heap b88 "java/util/ArrayList" "elementData" "[Ljava/lang/Object;" (.ref wd) := f249.keep Kc266 (ninS ne160 nin0)
  have f280 : Fld Z T262.heap b88 "java/util/AbstractList" "modCount" "I" (.int (0 : Int32)) := f250.keep Kc266 (ninS ne160 nin0)
  have f281 : Fld Z T262.heap b59 "com/example/slotsholmen/slotsholmen/schema/Group" "name" "Ljava/lang/String;" (.ref b75) := f251.keep Kc266 (ninS ne159 nin0)
  have f282 : Fld Z T262.heap b59 "com/example/slotsholmen/slotsholmen/schema/Group" "fields" "Ljava/util/List;" (.ref b88) := f252.keep Kc266 (ninS ne159 nin0)
  have f283 : Exa Z T262.heap b156 "com/example/slotsholmen/slotsholmen/schema/Group" := f253.keep Kc266
  have f286 : Exa Z T262.heap b201 "java/util/ArrayList" := f232.keep Kc266
  have f287 : Fld Z T262.heap b201 "java/util/ArrayList" "size" "I" (.int (0 : Int32)) := f233.keep Kc266 (ninS (Ne.symm ne206) nin0)
  have f288 : Fld Z T262.heap b201 "java/util/ArrayList" "elementData" "[Ljava/lang/Object;" (.ref wd) := f234.keep Kc266 (ninS (Ne.symm ne206) nin0)
  have f289 : Fld Z T262.heap b201 "java/util/AbstractList" "modCount" "I" (.int (0 : Int32)) := f235.keep Kc266 (ninS (Ne.symm ne206) nin0)
  have O290 := own_oldKeep O260 Kc266 (allS big161 all0)
  have K291 : Keep h0 T262.heap [] := K261.trans Kc266 (allS (Or.inr sz162) all0)
  show own_Go p e below s _ _ _ (T262.setTop (mkF m 57 #[.val (.int p1), .val (.int ((p1 &&& (2147483647 : Int32)) % (3 : Int32))), .val (.ref b1), .val (.ref b59), .unset, .unset, .unset, .unset, .unset, .unset, .unset, .unset] [(.ref b156)]))
  refine own_go (fun _ k => XS.astore X262.here hx rfl (hb hby at_57) rfl rfl (l' := #[.val (.int p1), .val (.int ((p1 &&& (2147483647 : Int32)) % (3 : Int32))), .val (.ref b1), .val (.ref b59), .val (.ref b156), .unset, .unset, .unset, .unset, .unset, .unset, .unset]) rfl k) ?_
  show own_Go p e below s _ _ _ (T262.setTop (mkF m 59 #[.val (.int p1), .val (.int ((p1 &&& (2147483647 : Int32)) % (3 : Int32))), .val (.ref b1), .val (.ref b59), .val (.ref b156), .unset, .unset, .unset, .unset, .unset, .unset, .unset] []))
  obtain ⟨T292, h292, X292, e292, E292, A292, D292, -, st292⟩ := newO X262 hx hZ hown (hw _ (List.mem_of_getElem? (i := 12) rfl)) (hw _ (List.mem_of_getElem? (i := 13) rfl)) (hw _ (List.mem_of_getElem? (i := 14) rfl)) (rfl : T262.heap = T262.heap) (g := (mkF m 59 #[.val (.int p1), .val (.int ((p1 &&& (2147483647 : Int32)) % (3 : Int32))), .val (.ref b1), .val (.ref b59), .val (.ref b156), .unset, .unset, .unset, .unset, .unset, .unset, .unset] [])) rfl (hb hby at_59) (by show _ ≤ 48; omega) (by show _ ≤ 6400; omega)
  obtain ⟨b292, g292⟩ : ∃ z, z = T262.heap.size := ⟨_, rfl⟩
  rw [← g292] at A292 D292 st292
  refine own_go st292 ?_
  have ge292 := Nat.le_of_eq g292.symm
  have ne293 : b1 ≠ b292 := Nat.ne_of_lt (Nat.lt_of_lt_of_le f269.lt ge292)
  have ne294 : b14 ≠ b292 := Nat.ne_of_lt (Nat.lt_of_lt_of_le f270.lt ge292)
  have ne295 : b59 ≠ b292 := Nat.ne_of_lt (Nat.lt_of_lt_of_le f276.lt ge292)
  have ne296 : b88 ≠ b292 := Nat.ne_of_lt (Nat.lt_of_lt_of_le f277.lt ge292)
  have ne297 : b156 ≠ b292 := Nat.ne_of_lt (Nat.lt_of_lt_of_le f263.lt ge292)
  have ne298 : b201 ≠ b292 := Nat.ne_of_lt (Nat.lt_of_lt_of_le f286.lt ge292)
  have big299 : Z.heap.size ≤ b292 := Nat.le_trans O290.1 ge292
  have sz300 : h0.size ≤ b292 := Nat.le_trans K291.1 ge292
  have f301 : Exa Z h292 b1 "com/example/slotsholmen/slotsholmen/schema/Group" := f269.ext E292
  have f302 : Exa Z h292 b14 "java/util/ArrayList" := f270.ext E292
  have f303 : Fld Z h292 b14 "java/util/ArrayList" "size" "I" (.int (0 : Int32)) := f271.ext E292
  have f304 : Fld Z h292 b14 "java/util/ArrayList" "elementData" "[Ljava/lang/Object;" (.ref wd) := f272.ext E292
  have f305 : Fld Z h292 b14 "java/util/AbstractList" "modCount" "I" (.int (0 : Int32)) := f273.ext E292
  have f306 : Fld Z h292 b1 "com/example/slotsholmen/slotsholmen/schema/Group" "name" "Ljava/lang/String;" (.ref b8) := f274.ext E292
  have f307 : Fld Z h292 b1 "com/example/slotsholmen/slotsholmen/schema/Group" "fields" "Ljava/util/List;" (.ref b14) := f275.ext E292
  have f308 : Exa Z h292 b59 "com/example/slotsholmen/slotsholmen/schema/Group" := f276.ext E292
  have f309 : Exa Z h292 b88 "java/util/ArrayList" := f277.ext E292
  have f310 : Fld Z h292 b88 "java/util/ArrayList" "size" "I" (.int (0 : Int32)) := f278.ext E292
  have f311 : Fld Z h292 b88 "java/util/ArrayList" "elementData" "[Ljava/lang/Object;" (.ref wd) := f279.ext E292
  have f312 : Fld Z h292 b88 "java/util/AbstractList" "modCount" "I" (.int (0 : Int32)) := f280.ext E292
  have f313 : Fld Z h292 b59 "com/example/slotsholmen/slotsholmen/schema/Group" "name" "Ljava/lang/String;" (.ref b75) := f281.ext E292
  have f314 : Fld Z h292 b59 "com/example/slotsholmen/slotsholmen/schema/Group" "fields" "Ljava/util/List;" (.ref b88) := f282.ext E292
  have f315 : Exa Z h292 b156 "com/example/slotsholmen/slotsholmen/schema/Group" := f263.ext E292
  have f316 : Exa Z h292 b201 "java/util/ArrayList" := f286.ext E292
  have f317 : Fld Z h292 b201 "java/util/ArrayList" "size" "I" (.int (0 : Int32)) := f287.ext E292
  have f318 : Fld Z h292 b201 "java/util/ArrayList" "elementData" "[Ljava/lang/Object;" (.ref wd) := f288.ext E292
  have f319 : Fld Z h292 b201 "java/util/AbstractList" "modCount" "I" (.int (0 : Int32)) := f289.ext E292
  have f320 : Fld Z h292 b156 "com/example/slotsholmen/slotsholmen/schema/Group" "name" "Ljava/lang/String;" (.ref b181) := f264.ext E292
  have f321 : Fld Z h292 b156 "com/example/slotsholmen/slotsholmen/schema/Group" "fields" "Ljava/util/List;" (.ref b201) := f265.ext E292
  have O322 := own_oldExt O290 E292
  replace hS := own_since hS E292.1
  have K323 := K291.ext E292
  have f324 : Fld Z h292 b292 "java/util/AbstractList" "modCount" "I" (.int (0 : Int32)) := D292 (Or.inl (hw _ (List.mem_of_getElem? (i := 34) rfl))) (ty := .int) (by decide)
  have f325 : Fld Z h292 b292 "java/util/ArrayList" "elementData" "[Ljava/lang/Object;" .null := D292 (Or.inl (hw _ (List.mem_of_getElem? (i := 37) rfl))) (ty := (.array (.object "java/lang/Object"))) (by decide)
  have f326 : Fld Z h292 b292 "java/util/ArrayList" "size" "I" (.int (0 : Int32)) := D292 (Or.inl (hw _ (List.mem_of_getElem? (i := 61) rfl))) (ty := .int) (by decide)
  show own_Go p e below s _ _ _ (T292.setTop (mkF m 62 #[.val (.int p1), .val (.int ((p1 &&& (2147483647 : Int32)) % (3 : Int32))), .val (.ref b1), .val (.ref b59), .val (.ref b156), .unset, .unset, .unset, .unset, .unset, .unset, .unset] [(.ref b292)]))
  refine own_go (fun _ k => XS.dup X292.here hx rfl (hb hby at_62) rfl rfl k) ?_
  show own_Go p e below s _ _ _ (T292.setTop (mkF m 63 #[.val (.int p1), .val (.int ((p1 &&& (2147483647 : Int32)) % (3 : Int32))), .val (.ref b1), .val (.ref b59), .val (.ref b156), .unset, .unset, .unset, .unset, .unset, .unset, .unset] [(.ref b292), (.ref b292)]))
  obtain ⟨v327, T327, L327, X327, hSn, hZn, hownn, hQ327, st327⟩ := own_callI (y := (⟨"java/util/ArrayList", "<init>", "()V"⟩ : MethodName)) X292 hS hx hZ hown (hw _ (List.mem_of_getElem? (i := 15) rfl)) (hw _ (List.mem_of_getElem? (i := 16) rfl)) (hw _ (List.mem_of_getElem? (i := 14) rfl)) (hw _ (List.mem_of_getElem? (i := 17) rfl)) (rm_alinit l Z a0 hw oDE oDV oS0 oS1 oS2 oSE0 oSE1 oSE2 oSF0 oSF1 oSF2 oSM oSV [] b292 h292 O322 A292 f326 f325 f324 big299) 1 0 0 rfl rfl rfl (by decide) (by decide) (by decide) (by show _ ≤ 48; omega) (by show _ ≤ 6400; omega) e292 (g := (mkF m 63 #[.val (.int p1), .val (.int ((p1 &&& (2147483647 : Int32)) % (3 : Int32))), .val (.ref b1), .val (.ref b59), .val (.ref b156), .unset, .unset, .unset, .unset, .unset, .unset, .unset] [(.ref b292), (.ref b292)])) rfl (by rw [hml]; rfl) b292 [] [(.ref b292)] (lenOf own_pd_0 rfl) rfl rfl (by show 2 * 0 + _ ≤ _; exact Nat.le_of_eq rfl) (hb hby at_63)
  replace hS := hSn
  replace hZ := hZn
  replace hown := hownn
  clear hSn hZn hownn
  obtain ⟨rfl, Nc333, Kc332, f328, f329, f330, f331⟩ := hQ327
  refine own_go st327 ?_
  have N334 := Fr.app N268 Nc333
  have f335 : Exa Z T327.heap b1 "com/example/slotsholmen/slotsholmen/schema/Group" := f301.keep Kc332
  have f336 : Exa Z T327.heap b14 "java/util/ArrayList" := f302.keep Kc332
  have f337 : Fld Z T327.heap b14 "java/util/ArrayList" "size" "I" (.int (0 : Int32)) := f303.keep Kc332 (ninS ne294 nin0)
  have f338 : Fld Z T327.heap b14 "java/util/ArrayList" "elementData" "[Ljava/lang/Object;" (.ref wd) := f304.keep Kc332 (ninS ne294 nin0)
  have f339 : Fld Z T327.heap b14 "java/util/AbstractList" "modCount" "I" (.int (0 : Int32)) := f305.keep Kc332 (ninS ne294 nin0)
  have f340 : Fld Z T327.heap b1 "com/example/slotsholmen/slotsholmen/schema/Group" "name" "Ljava/lang/String;" (.ref b8) := f306.keep Kc332 (ninS ne293 nin0)
  have f341 : Fld Z T327.heap b1 "com/example/slotsholmen/slotsholmen/schema/Group" "fields" "Ljava/util/List;" (.ref b14) := f307.keep Kc332 (ninS ne293 nin0)
  have f342 : Exa Z T327.heap b59 "com/example/slotsholmen/slotsholmen/schema/Group" := f308.keep Kc332
  have f343 : Exa Z T327.heap b88 "java/util/ArrayList" := f309.keep Kc332
  have f344 : Fld Z T327.heap b88 "java/util/ArrayList" "size" "I" (.int (0 : Int32)) := f310.keep Kc332 (ninS ne296 nin0)
  have f345 : Fld Z T327.heap b88 "java/util/ArrayList" "elementData" "[Ljava/lang/Object;" (.ref wd) := f311.keep Kc332 (ninS ne296 nin0)
  have f346 : Fld Z T327.heap b88 "java/util/AbstractList" "modCount" "I" (.int (0 : Int32)) := f312.keep Kc332 (ninS ne296 nin0)
  have f347 : Fld Z T327.heap b59 "com/example/slotsholmen/slotsholmen/schema/Group" "name" "Ljava/lang/String;" (.ref b75) := f313.keep Kc332 (ninS ne295 nin0)
  have f348 : Fld Z T327.heap b59 "com/example/slotsholmen/slotsholmen/schema/Group" "fields" "Ljava/util/List;" (.ref b88) := f314.keep Kc332 (ninS ne295 nin0)
  have f349 : Exa Z T327.heap b156 "com/example/slotsholmen/slotsholmen/schema/Group" := f315.keep Kc332
  have f350 : Exa Z T327.heap b201 "java/util/ArrayList" := f316.keep Kc332
  have f351 : Fld Z T327.heap b201 "java/util/ArrayList" "size" "I" (.int (0 : Int32)) := f317.keep Kc332 (ninS ne298 nin0)
  have f352 : Fld Z T327.heap b201 "java/util/ArrayList" "elementData" "[Ljava/lang/Object;" (.ref wd) := f318.keep Kc332 (ninS ne298 nin0)
  have f353 : Fld Z T327.heap b201 "java/util/AbstractList" "modCount" "I" (.int (0 : Int32)) := f319.keep Kc332 (ninS ne298 nin0)
  have f354 : Fld Z T327.heap b156 "com/example/slotsholmen/slotsholmen/schema/Group" "name" "Ljava/lang/String;" (.ref b181) := f320.keep Kc332 (ninS ne297 nin0)
  have f355 : Fld Z T327.heap b156 "com/example/slotsholmen/slotsholmen/schema/Group" "fields" "Ljava/util/List;" (.ref b201) := f321.keep Kc332 (ninS ne297 nin0)
  have f356 : Exa Z T327.heap b292 "java/util/ArrayList" := A292.keep Kc332
  have O360 := own_oldKeep O322 Kc332 (allS big299 all0)
  have K361 : Keep h0 T327.heap [] := K323.trans Kc332 (allS (Or.inr sz300) all0)
  show own_Go p e below s _ _ _ (T327.setTop (mkF m 66 #[.val (.int p1), .val (.int ((p1 &&& (2147483647 : Int32)) % (3 : Int32))), .val (.ref b1), .val (.ref b59), .val (.ref b156), .unset, .unset, .unset, .unset, .unset, .unset, .unset] [(.ref b292)]))
  refine own_go (fun _ k => XS.astore X327.here hx rfl (hb hby at_66) rfl rfl (l' := #[.val (.int p1), .val (.int ((p1 &&& (2147483647 : Int32)) % (3 : Int32))), .val (.ref b1), .val (.ref b59), .val (.ref b156), .val (.ref b292), .unset, .unset, .unset, .unset, .unset, .unset]) rfl k) ?_
  show own_Go p e below s _ _ _ (T327.setTop (mkF m 68 #[.val (.int p1), .val (.int ((p1 &&& (2147483647 : Int32)) % (3 : Int32))), .val (.ref b1), .val (.ref b59), .val (.ref b156), .val (.ref b292), .unset, .unset, .unset, .unset, .unset, .unset] []))
  refine own_go (fun _ k => XS.aload X327.here hx rfl (hb hby at_68) rfl rfl k) ?_
  show own_Go p e below s _ _ _ (T327.setTop (mkF m 70 #[.val (.int p1), .val (.int ((p1 &&& (2147483647 : Int32)) % (3 : Int32))), .val (.ref b1), .val (.ref b59), .val (.ref b156), .val (.ref b292), .unset, .unset, .unset, .unset, .unset, .unset] [(.ref b292)]))
  refine own_go (fun _ k => XS.aloadN X327.here hx rfl (hb hby at_70) rfl rfl k) ?_
  show own_Go p e below s _ _ _ (T327.setTop (mkF m 71 #[.val (.int p1), .val (.int ((p1 &&& (2147483647 : Int32)) % (3 : Int32))), .val (.ref b1), .val (.ref b59), .val (.ref b156), .val (.ref b292), .unset, .unset, .unset, .unset, .unset, .unset] [(.ref b1), (.ref b292)]))
  obtain ⟨v362, T362, L362, X362, hSn, hZn, hownn, hQ362, st362⟩ := own_callV (y := (⟨"java/util/ArrayList", "add", "(Ljava/lang/Object;)Z"⟩ : MethodName)) (z := (⟨"java/util/ArrayList", "add", "(Ljava/lang/Object;)Z"⟩ : MethodName)) X327 hS hx hZ hown (hw _ (List.mem_of_getElem? (i := 53) rfl)) (hw _ (List.mem_of_getElem? (i := 54) rfl)) (notFace_of_selects (args := #[]) (mvT hZ (hw _ (List.mem_of_getElem? (i := 56) rfl)))) (hw _ (List.mem_of_getElem? (i := 56) rfl)) (hw _ (List.mem_of_getElem? (i := 55) rfl)) (hw _ (List.mem_of_getElem? (i := 14) rfl)) (hw _ (List.mem_of_getElem? (i := 57) rfl)) (rm_add1_0 l Z a0 hw oDE oDV oS0 oS1 oS2 oSE0 oSE1 oSE2 oSF0 oSF1 oSF2 oSM oSV [] b292 b1 (0 : Int32) T327.heap O360 f328 f329 f330 f331 (Ins.of_exa f335 (hw _ (List.mem_of_getElem? (i := 83) rfl))) big299) 0 1 10 rfl rfl (by decide) (by decide) (by decide) (by show _ ≤ 48; omega) (by show _ ≤ 6400; omega) (rfl : T327.heap = T327.heap) f328 (g := (mkF m 71 #[.val (.int p1), .val (.int ((p1 &&& (2147483647 : Int32)) % (3 : Int32))), .val (.ref b1), .val (.ref b59), .val (.ref b156), .val (.ref b292), .unset, .unset, .unset, .unset, .unset, .unset] [(.ref b1), (.ref b292)])) rfl (by rw [hml]; rfl) [(.ref b1)] [] (lenOf own_pd_9 rfl) rfl rfl (by show 2 * 0 + _ ≤ _; exact Nat.le_of_eq rfl) (hb hby at_71)
  replace hS := hSn
  replace hZ := hZn
  replace hown := hownn
  clear hSn hZn hownn
  obtain ⟨w363, w364, rfl, Nc373, Kc372, hb365, f366, f367, f368, f369, f370, f371⟩ := hQ362
  refine own_go st362 ?_
  have N374 := Fr.app N334 Nc373
  have ne375 : b1 ≠ w363 := Nat.ne_of_lt (Nat.lt_of_lt_of_le f335.lt hb365)
  have ne376 : b14 ≠ w363 := Nat.ne_of_lt (Nat.lt_of_lt_of_le f336.lt hb365)
  have ne377 : b59 ≠ w363 := Nat.ne_of_lt (Nat.lt_of_lt_of_le f342.lt hb365)
  have ne378 : b88 ≠ w363 := Nat.ne_of_lt (Nat.lt_of_lt_of_le f343.lt hb365)
  have ne379 : b156 ≠ w363 := Nat.ne_of_lt (Nat.lt_of_lt_of_le f349.lt hb365)
  have ne380 : b201 ≠ w363 := Nat.ne_of_lt (Nat.lt_of_lt_of_le f350.lt hb365)
  have ne381 : b292 ≠ w363 := Nat.ne_of_lt (Nat.lt_of_lt_of_le f328.lt hb365)
  have big382 : Z.heap.size ≤ w363 := Nat.le_trans O360.1 hb365
  have sz383 : h0.size ≤ w363 := Nat.le_trans K361.1 hb365
  have f384 : Exa Z T362.heap b1 "com/example/slotsholmen/slotsholmen/schema/Group" := f335.keep Kc372
  have f385 : Exa Z T362.heap b14 "java/util/ArrayList" := f336.keep Kc372
  have f386 : Fld Z T362.heap b14 "java/util/ArrayList" "size" "I" (.int (0 : Int32)) := f337.keep Kc372 (ninS ne294 nin0)
  have f387 : Fld Z T362.heap b14 "java/util/ArrayList" "elementData" "[Ljava/lang/Object;" (.ref wd) := f338.keep Kc372 (ninS ne294 nin0)
  have f388 : Fld Z T362.heap b14 "java/util/AbstractList" "modCount" "I" (.int (0 : Int32)) := f339.keep Kc372 (ninS ne294 nin0)
  have f389 : Fld Z T362.heap b1 "com/example/slotsholmen/slotsholmen/schema/Group" "name" "Ljava/lang/String;" (.ref b8) := f340.keep Kc372 (ninS ne293 nin0)
  have f390 : Fld Z T362.heap b1 "com/example/slotsholmen/slotsholmen/schema/Group" "fields" "Ljava/util/List;" (.ref b14) := f341.keep Kc372 (ninS ne293 nin0)
  have f391 : Exa Z T362.heap b59 "com/example/slotsholmen/slotsholmen/schema/Group" := f342.keep Kc372
  have f392 : Exa Z T362.heap b88 "java/util/ArrayList" := f343.keep Kc372
  have f393 : Fld Z T362.heap b88 "java/util/ArrayList" "size" "I" (.int (0 : Int32)) := f344.keep Kc372 (ninS ne296 nin0)
  have f394 : Fld Z T362.heap b88 "java/util/ArrayList" "elementData" "[Ljava/lang/Object;" (.ref wd) := f345.keep Kc372 (ninS ne296 nin0)
  have f395 : Fld Z T362.heap b88 "java/util/AbstractList" "modCount" "I" (.int (0 : Int32)) := f346.keep Kc372 (ninS ne296 nin0)
  have f396 : Fld Z T362.heap b59 "com/example/slotsholmen/slotsholmen/schema/Group" "name" "Ljava/lang/String;" (.ref b75) := f347.keep Kc372 (ninS ne295 nin0)
  have f397 : Fld Z T362.heap b59 "com/example/slotsholmen/slotsholmen/schema/Group" "fields" "Ljava/util/List;" (.ref b88) := f348.keep Kc372 (ninS ne295 nin0)
  have f398 : Exa Z T362.heap b156 "com/example/slotsholmen/slotsholmen/schema/Group" := f349.keep Kc372
  have f399 : Exa Z T362.heap b201 "java/util/ArrayList" := f350.keep Kc372
  have f400 : Fld Z T362.heap b201 "java/util/ArrayList" "size" "I" (.int (0 : Int32)) := f351.keep Kc372 (ninS ne298 nin0)
  have f401 : Fld Z T362.heap b201 "java/util/ArrayList" "elementData" "[Ljava/lang/Object;" (.ref wd) := f352.keep Kc372 (ninS ne298 nin0)
  have f402 : Fld Z T362.heap b201 "java/util/AbstractList" "modCount" "I" (.int (0 : Int32)) := f353.keep Kc372 (ninS ne298 nin0)
  have f403 : Fld Z T362.heap b156 "com/example/slotsholmen/slotsholmen/schema/Group" "name" "Ljava/lang/String;" (.ref b181) := f354.keep Kc372 (ninS ne297 nin0)
  have f404 : Fld Z T362.heap b156 "com/example/slotsholmen/slotsholmen/schema/Group" "fields" "Ljava/util/List;" (.ref b201) := f355.keep Kc372 (ninS ne297 nin0)
  have f405 : Exa Z T362.heap b292 "java/util/ArrayList" := f328.keep Kc372
  have O409 := own_oldKeep O360 Kc372 (allS big299 all0)
  have K410 : Keep h0 T362.heap [] := K361.trans Kc372 (allS (Or.inr sz300) all0)
  show own_Go p e below s _ _ _ (T362.setTop (mkF m 74 #[.val (.int p1), .val (.int ((p1 &&& (2147483647 : Int32)) % (3 : Int32))), .val (.ref b1), .val (.ref b59), .val (.ref b156), .val (.ref b292), .unset, .unset, .unset, .unset, .unset, .unset] [(.int (1 : Int32))]))
  refine own_go (fun _ k => XS.pop X362.here hx rfl (hb hby at_74) rfl rfl k) ?_
  show own_Go p e below s _ _ _ (T362.setTop (mkF m 75 #[.val (.int p1), .val (.int ((p1 &&& (2147483647 : Int32)) % (3 : Int32))), .val (.ref b1), .val (.ref b59), .val (.ref b156), .val (.ref b292), .unset, .unset, .unset, .unset, .unset, .unset] []))
  obtain ⟨T411, h411, X411, e411, E411, A411, D411, -, st411⟩ := newO X362 hx hZ hown (hw _ (List.mem_of_getElem? (i := 12) rfl)) (hw _ (List.mem_of_getElem? (i := 13) rfl)) (hw _ (List.mem_of_getElem? (i := 14) rfl)) (rfl : T362.heap = T362.heap) (g := (mkF m 75 #[.val (.int p1), .val (.int ((p1 &&& (2147483647 : Int32)) % (3 : Int32))), .val (.ref b1), .val (.ref b59), .val (.ref b156), .val (.ref b292), .unset, .unset, .unset, .unset, .unset, .unset] [])) rfl (hb hby at_75) (by show _ ≤ 48; omega) (by show _ ≤ 6400; omega)
  obtain ⟨b411, g411⟩ : ∃ z, z = T362.heap.size := ⟨_, rfl⟩
  rw [← g411] at A411 D411 st411
  refine own_go st411 ?_
  have ge411 := Nat.le_of_eq g411.symm
  have ne412 : b1 ≠ b411 := Nat.ne_of_lt (Nat.lt_of_lt_of_le f384.lt ge411)
  have ne413 : b14 ≠ b411 := Nat.ne_of_lt (Nat.lt_of_lt_of_le f385.lt ge411)
  have ne414 : b59 ≠ b411 := Nat.ne_of_lt (Nat.lt_of_lt_of_le f391.lt ge411)
  have ne415 : b88 ≠ b411 := Nat.ne_of_lt (Nat.lt_of_lt_of_le f392.lt ge411)
  have ne416 : b156 ≠ b411 := Nat.ne_of_lt (Nat.lt_of_lt_of_le f398.lt ge411)
  have ne417 : b201 ≠ b411 := Nat.ne_of_lt (Nat.lt_of_lt_of_le f399.lt ge411)
  have ne418 : b292 ≠ b411 := Nat.ne_of_lt (Nat.lt_of_lt_of_le f366.lt ge411)
  have ne419 : w363 ≠ b411 := Nat.ne_of_lt (Nat.lt_of_lt_of_le f370.lt ge411)
  have big420 : Z.heap.size ≤ b411 := Nat.le_trans O409.1 ge411
  have sz421 : h0.size ≤ b411 := Nat.le_trans K410.1 ge411
  have f422 : Exa Z h411 b1 "com/example/slotsholmen/slotsholmen/schema/Group" := f384.ext E411
  have f423 : Exa Z h411 b14 "java/util/ArrayList" := f385.ext E411
  have f424 : Fld Z h411 b14 "java/util/ArrayList" "size" "I" (.int (0 : Int32)) := f386.ext E411
  have f425 : Fld Z h411 b14 "java/util/ArrayList" "elementData" "[Ljava/lang/Object;" (.ref wd) := f387.ext E411
  have f426 : Fld Z h411 b14 "java/util/AbstractList" "modCount" "I" (.int (0 : Int32)) := f388.ext E411
  have f427 : Fld Z h411 b1 "com/example/slotsholmen/slotsholmen/schema/Group" "name" "Ljava/lang/String;" (.ref b8) := f389.ext E411
  have f428 : Fld Z h411 b1 "com/example/slotsholmen/slotsholmen/schema/Group" "fields" "Ljava/util/List;" (.ref b14) := f390.ext E411
  have f429 : Exa Z h411 b59 "com/example/slotsholmen/slotsholmen/schema/Group" := f391.ext E411
  have f430 : Exa Z h411 b88 "java/util/ArrayList" := f392.ext E411
  have f431 : Fld Z h411 b88 "java/util/ArrayList" "size" "I" (.int (0 : Int32)) := f393.ext E411
  have f432 : Fld Z h411 b88 "java/util/ArrayList" "elementData" "[Ljava/lang/Object;" (.ref wd) := f394.ext E411
  have f433 : Fld Z h411 b88 "java/util/AbstractList" "modCount" "I" (.int (0 : Int32)) := f395.ext E411
  have f434 : Fld Z h411 b59 "com/example/slotsholmen/slotsholmen/schema/Group" "name" "Ljava/lang/String;" (.ref b75) := f396.ext E411
  have f435 : Fld Z h411 b59 "com/example/slotsholmen/slotsholmen/schema/Group" "fields" "Ljava/util/List;" (.ref b88) := f397.ext E411
  have f436 : Exa Z h411 b156 "com/example/slotsholmen/slotsholmen/schema/Group" := f398.ext E411
  have f437 : Exa Z h411 b201 "java/util/ArrayList" := f399.ext E411
  have f438 : Fld Z h411 b201 "java/util/ArrayList" "size" "I" (.int (0 : Int32)) := f400.ext E411
  have f439 : Fld Z h411 b201 "java/util/ArrayList" "elementData" "[Ljava/lang/Object;" (.ref wd) := f401.ext E411
  have f440 : Fld Z h411 b201 "java/util/AbstractList" "modCount" "I" (.int (0 : Int32)) := f402.ext E411
  have f441 : Fld Z h411 b156 "com/example/slotsholmen/slotsholmen/schema/Group" "name" "Ljava/lang/String;" (.ref b181) := f403.ext E411
  have f442 : Fld Z h411 b156 "com/example/slotsholmen/slotsholmen/schema/Group" "fields" "Ljava/util/List;" (.ref b201) := f404.ext E411
  have f443 : Exa Z h411 b292 "java/util/ArrayList" := f366.ext E411
  have f444 : Fld Z h411 b292 "java/util/ArrayList" "size" "I" (.int (1 : Int32)) := f367.ext E411
  have f445 : Fld Z h411 b292 "java/util/ArrayList" "elementData" "[Ljava/lang/Object;" (.ref w363) := f368.ext E411
  have f446 : Fld Z h411 b292 "java/util/AbstractList" "modCount" "I" (.int ((0 : Int32) + (1 : Int32))) := f369.ext E411
  have f447 : Arv Z h411 w363 w364 (.object "java/lang/Object") (10 : Int32) [(.ref b1), .null, .null, .null, .null, .null, .null, .null, .null, .null] .null := f370.ext E411
  have f448 : Ovr Z w364 "java/lang/Object" := f371
  have O449 := own_oldExt O409 E411
  replace hS := own_since hS E411.1
  have K450 := K410.ext E411
  have f451 : Fld Z h411 b411 "java/util/AbstractList" "modCount" "I" (.int (0 : Int32)) := D411 (Or.inl (hw _ (List.mem_of_getElem? (i := 34) rfl))) (ty := .int) (by decide)
  have f452 : Fld Z h411 b411 "java/util/ArrayList" "elementData" "[Ljava/lang/Object;" .null := D411 (Or.inl (hw _ (List.mem_of_getElem? (i := 37) rfl))) (ty := (.array (.object "java/lang/Object"))) (by decide)
  have f453 : Fld Z h411 b411 "java/util/ArrayList" "size" "I" (.int (0 : Int32)) := D411 (Or.inl (hw _ (List.mem_of_getElem? (i := 61) rfl))) (ty := .int) (by decide)
  show own_Go p e below s _ _ _ (T411.setTop (mkF m 78 #[.val (.int p1), .val (.int ((p1 &&& (2147483647 : Int32)) % (3 : Int32))), .val (.ref b1), .val (.ref b59), .val (.ref b156), .val (.ref b292), .unset, .unset, .unset, .unset, .unset, .unset] [(.ref b411)]))
  refine own_go (fun _ k => XS.dup X411.here hx rfl (hb hby at_78) rfl rfl k) ?_
  show own_Go p e below s _ _ _ (T411.setTop (mkF m 79 #[.val (.int p1), .val (.int ((p1 &&& (2147483647 : Int32)) % (3 : Int32))), .val (.ref b1), .val (.ref b59), .val (.ref b156), .val (.ref b292), .unset, .unset, .unset, .unset, .unset, .unset] [(.ref b411), (.ref b411)]))
  obtain ⟨v454, T454, L454, X454, hSn, hZn, hownn, hQ454, st454⟩ := own_callI (y := (⟨"java/util/ArrayList", "<init>", "()V"⟩ : MethodName)) X411 hS hx hZ hown (hw _ (List.mem_of_getElem? (i := 15) rfl)) (hw _ (List.mem_of_getElem? (i := 16) rfl)) (hw _ (List.mem_of_getElem? (i := 14) rfl)) (hw _ (List.mem_of_getElem? (i := 17) rfl)) (rm_alinit l Z a0 hw oDE oDV oS0 oS1 oS2 oSE0 oSE1 oSE2 oSF0 oSF1 oSF2 oSM oSV [] b411 h411 O449 A411 f453 f452 f451 big420) 1 0 0 rfl rfl rfl (by decide) (by decide) (by decide) (by show _ ≤ 48; omega) (by show _ ≤ 6400; omega) e411 (g := (mkF m 79 #[.val (.int p1), .val (.int ((p1 &&& (2147483647 : Int32)) % (3 : Int32))), .val (.ref b1), .val (.ref b59), .val (.ref b156), .val (.ref b292), .unset, .unset, .unset, .unset, .unset, .unset] [(.ref b411), (.ref b411)])) rfl (by rw [hml]; rfl) b411 [] [(.ref b411)] (lenOf own_pd_0 rfl) rfl rfl (by show 2 * 0 + _ ≤ _; exact Nat.le_of_eq rfl) (hb hby at_79)
  replace hS := hSn
  replace hZ := hZn
  replace hown := hownn
  clear hSn hZn hownn
  obtain ⟨rfl, Nc460, Kc459, f455, f456, f457, f458⟩ := hQ454
  refine own_go st454 ?_
  have N461 := Fr.app N374 Nc460
  have f462 : Exa Z T454.heap b1 "com/example/slotsholmen/slotsholmen/schema/Group" := f422.keep Kc459
  have f463 : Exa Z T454.heap b14 "java/util/ArrayList" := f423.keep Kc459
  have f464 : Fld Z T454.heap b14 "java/util/ArrayList" "size" "I" (.int (0 : Int32)) := f424.keep Kc459 (ninS ne413 nin0)
  have f465 : Fld Z T454.heap b14 "java/util/ArrayList" "elementData" "[Ljava/lang/Object;" (.ref wd) := f425.keep Kc459 (ninS ne413 nin0)
  have f466 : Fld Z T454.heap b14 "java/util/AbstractList" "modCount" "I" (.int (0 : Int32)) := f426.keep Kc459 (ninS ne413 nin0)
  have f467 : Fld Z T454.heap b1 "com/example/slotsholmen/slotsholmen/schema/Group" "name" "Ljava/lang/String;" (.ref b8) := f427.keep Kc459 (ninS ne412 nin0)
  have f468 : Fld Z T454.heap b1 "com/example/slotsholmen/slotsholmen/schema/Group" "fields" "Ljava/util/List;" (.ref b14) := f428.keep Kc459 (ninS ne412 nin0)
  have f469 : Exa Z T454.heap b59 "com/example/slotsholmen/slotsholmen/schema/Group" := f429.keep Kc459
  have f470 : Exa Z T454.heap b88 "java/util/ArrayList" := f430.keep Kc459
  have f471 : Fld Z T454.heap b88 "java/util/ArrayList" "size" "I" (.int (0 : Int32)) := f431.keep Kc459 (ninS ne415 nin0)
  have f472 : Fld Z T454.heap b88 "java/util/ArrayList" "elementData" "[Ljava/lang/Object;" (.ref wd) := f432.keep Kc459 (ninS ne415 nin0)
  have f473 : Fld Z T454.heap b88 "java/util/AbstractList" "modCount" "I" (.int (0 : Int32)) := f433.keep Kc459 (ninS ne415 nin0)
  have f474 : Fld Z T454.heap b59 "com/example/slotsholmen/slotsholmen/schema/Group" "name" "Ljava/lang/String;" (.ref b75) := f434.keep Kc459 (ninS ne414 nin0)
  have f475 : Fld Z T454.heap b59 "com/example/slotsholmen/slotsholmen/schema/Group" "fields" "Ljava/util/List;" (.ref b88) := f435.keep Kc459 (ninS ne414 nin0)
  have f476 : Exa Z T454.heap b156 "com/example/slotsholmen/slotsholmen/schema/Group" := f436.keep Kc459
  have f477 : Exa Z T454.heap b201 "java/util/ArrayList" := f437.keep Kc459
  have f478 : Fld Z T454.heap b201 "java/util/ArrayList" "size" "I" (.int (0 : Int32)) := f438.keep Kc459 (ninS ne417 nin0)
  have f479 : Fld Z T454.heap b201 "java/util/ArrayList" "elementData" "[Ljava/lang/Object;" (.ref wd) := f439.keep Kc459 (ninS ne417 nin0)
  have f480 : Fld Z T454.heap b201 "java/util/AbstractList" "modCount" "I" (.int (0 : Int32)) := f440.keep Kc459 (ninS ne417 nin0)
  have f481 : Fld Z T454.heap b156 "com/example/slotsholmen/slotsholmen/schema/Group" "name" "Ljava/lang/String;" (.ref b181) := f441.keep Kc459 (ninS ne416 nin0)
  have f482 : Fld Z T454.heap b156 "com/example/slotsholmen/slotsholmen/schema/Group" "fields" "Ljava/util/List;" (.ref b201) := f442.keep Kc459 (ninS ne416 nin0)
  have f483 : Exa Z T454.heap b292 "java/util/ArrayList" := f443.keep Kc459
  have f484 : Fld Z T454.heap b292 "java/util/ArrayList" "size" "I" (.int (1 : Int32)) := f444.keep Kc459 (ninS ne418 nin0)
  have f485 : Fld Z T454.heap b292 "java/util/ArrayList" "elementData" "[Ljava/lang/Object;" (.ref w363) := f445.keep Kc459 (ninS ne418 nin0)
  have f486 : Fld Z T454.heap b292 "java/util/AbstractList" "modCount" "I" (.int ((0 : Int32) + (1 : Int32))) := f446.keep Kc459 (ninS ne418 nin0)
  have f487 : Arv Z T454.heap w363 w364 (.object "java/lang/Object") (10 : Int32) [(.ref b1), .null, .null, .null, .null, .null, .null, .null, .null, .null] .null := f447.keep Kc459 (ninS ne419 nin0)
  have f488 : Ovr Z w364 "java/lang/Object" := f448
  have f489 : Exa Z T454.heap b411 "java/util/ArrayList" := A411.keep Kc459
  have O493 := own_oldKeep O449 Kc459 (allS big420 all0)
  have K494 : Keep h0 T454.heap [] := K450.trans Kc459 (allS (Or.inr sz421) all0)
  show own_Go p e below s _ _ _ (T454.setTop (mkF m 82 #[.val (.int p1), .val (.int ((p1 &&& (2147483647 : Int32)) % (3 : Int32))), .val (.ref b1), .val (.ref b59), .val (.ref b156), .val (.ref b292), .unset, .unset, .unset, .unset, .unset, .unset] [(.ref b411)]))
  refine own_go (fun _ k => XS.astore X454.here hx rfl (hb hby at_82) rfl rfl (l' := #[.val (.int p1), .val (.int ((p1 &&& (2147483647 : Int32)) % (3 : Int32))), .val (.ref b1), .val (.ref b59), .val (.ref b156), .val (.ref b292), .val (.ref b411), .unset, .unset, .unset, .unset, .unset]) rfl k) ?_
  show own_Go p e below s _ _ _ (T454.setTop (mkF m 84 #[.val (.int p1), .val (.int ((p1 &&& (2147483647 : Int32)) % (3 : Int32))), .val (.ref b1), .val (.ref b59), .val (.ref b156), .val (.ref b292), .val (.ref b411), .unset, .unset, .unset, .unset, .unset] []))
  refine own_go (fun _ k => XS.aload X454.here hx rfl (hb hby at_84) rfl rfl k) ?_
  show own_Go p e below s _ _ _ (T454.setTop (mkF m 86 #[.val (.int p1), .val (.int ((p1 &&& (2147483647 : Int32)) % (3 : Int32))), .val (.ref b1), .val (.ref b59), .val (.ref b156), .val (.ref b292), .val (.ref b411), .unset, .unset, .unset, .unset, .unset] [(.ref b411)]))
  refine own_go (fun _ k => XS.aloadN X454.here hx rfl (hb hby at_86) rfl rfl k) ?_
  show own_Go p e below s _ _ _ (T454.setTop (mkF m 87 #[.val (.int p1), .val (.int ((p1 &&& (2147483647 : Int32)) % (3 : Int32))), .val (.ref b1), .val (.ref b59), .val (.ref b156), .val (.ref b292), .val (.ref b411), .unset, .unset, .unset, .unset, .unset] [(.ref b59), (.ref b411)]))
  obtain ⟨v495, T495, L495, X495, hSn, hZn, hownn, hQ495, st495⟩ := own_callV (y := (⟨"java/util/ArrayList", "add", "(Ljava/lang/Object;)Z"⟩ : MethodName)) (z := (⟨"java/util/ArrayList", "add", "(Ljava/lang/Object;)Z"⟩ : MethodName)) X454 hS hx hZ hown (hw _ (List.mem_of_getElem? (i := 53) rfl)) (hw _ (List.mem_of_getElem? (i := 54) rfl)) (notFace_of_selects (args := #[]) (mvT hZ (hw _ (List.mem_of_getElem? (i := 56) rfl)))) (hw _ (List.mem_of_getElem? (i := 56) rfl)) (hw _ (List.mem_of_getElem? (i := 55) rfl)) (hw _ (List.mem_of_getElem? (i := 14) rfl)) (hw _ (List.mem_of_getElem? (i := 57) rfl)) (rm_add1_0 l Z a0 hw oDE oDV oS0 oS1 oS2 oSE0 oSE1 oSE2 oSF0 oSF1 oSF2 oSM oSV [] b411 b59 (0 : Int32) T454.heap O493 f455 f456 f457 f458 (Ins.of_exa f469 (hw _ (List.mem_of_getElem? (i := 83) rfl))) big420) 0 1 10 rfl rfl (by decide) (by decide) (by decide) (by show _ ≤ 48; omega) (by show _ ≤ 6400; omega) (rfl : T454.heap = T454.heap) f455 (g := (mkF m 87 #[.val (.int p1), .val (.int ((p1 &&& (2147483647 : Int32)) % (3 : Int32))), .val (.ref b1), .val (.ref b59), .val (.ref b156), .val (.ref b292), .val (.ref b411), .unset, .unset, .unset, .unset, .unset] [(.ref b59), (.ref b411)])) rfl (by rw [hml]; rfl) [(.ref b59)] [] (lenOf own_pd_9 rfl) rfl rfl (by show 2 * 0 + _ ≤ _; exact Nat.le_of_eq rfl) (hb hby at_87)
  replace hS := hSn
  replace hZ := hZn
  replace hown := hownn
  clear hSn hZn hownn
  obtain ⟨w496, w497, rfl, Nc506, Kc505, hb498, f499, f500, f501, f502, f503, f504⟩ := hQ495
  refine own_go st495 ?_
  have N507 := Fr.app N461 Nc506
  have ne508 : b1 ≠ w496 := Nat.ne_of_lt (Nat.lt_of_lt_of_le f462.lt hb498)
  have ne509 : b14 ≠ w496 := Nat.ne_of_lt (Nat.lt_of_lt_of_le f463.lt hb498)
  have ne510 : b59 ≠ w496 := Nat.ne_of_lt (Nat.lt_of_lt_of_le f469.lt hb498)
  have ne511 : b88 ≠ w496 := Nat.ne_of_lt (Nat.lt_of_lt_of_le f470.lt hb498)
  have ne512 : b156 ≠ w496 := Nat.ne_of_lt (Nat.lt_of_lt_of_le f476.lt hb498)
  have ne513 : b201 ≠ w496 := Nat.ne_of_lt (Nat.lt_of_lt_of_le f477.lt hb498)
  have ne514 : b292 ≠ w496 := Nat.ne_of_lt (Nat.lt_of_lt_of_le f483.lt hb498)
  have ne515 : w363 ≠ w496 := Nat.ne_of_lt (Nat.lt_of_lt_of_le f487.lt hb498)
  have ne516 : b411 ≠ w496 := Nat.ne_of_lt (Nat.lt_of_lt_of_le f455.lt hb498)
  have big517 : Z.heap.size ≤ w496 := Nat.le_trans O493.1 hb498
  have sz518 : h0.size ≤ w496 := Nat.le_trans K494.1 hb498
  have f519 : Exa Z T495.heap b1 "com/example/slotsholmen/slotsholmen/schema/Group" := f462.keep Kc505
  have f520 : Exa Z T495.heap b14 "java/util/ArrayList" := f463.keep Kc505
  have f521 : Fld Z T495.heap b14 "java/util/ArrayList" "size" "I" (.int (0 : Int32)) := f464.keep Kc505 (ninS ne413 nin0)
  have f522 : Fld Z T495.heap b14 "java/util/ArrayList" "elementData" "[Ljava/lang/Object;" (.ref wd) := f465.keep Kc505 (ninS ne413 nin0)
  have f523 : Fld Z T495.heap b14 "java/util/AbstractList" "modCount" "I" (.int (0 : Int32)) := f466.keep Kc505 (ninS ne413 nin0)
  have f524 : Fld Z T495.heap b1 "com/example/slotsholmen/slotsholmen/schema/Group" "name" "Ljava/lang/String;" (.ref b8) := f467.keep Kc505 (ninS ne412 nin0)
  have f525 : Fld Z T495.heap b1 "com/example/slotsholmen/slotsholmen/schema/Group" "fields" "Ljava/util/List;" (.ref b14) := f468.keep Kc505 (ninS ne412 nin0)
  have f526 : Exa Z T495.heap b59 "com/example/slotsholmen/slotsholmen/schema/Group" := f469.keep Kc505
  have f527 : Exa Z T495.heap b88 "java/util/ArrayList" := f470.keep Kc505
  have f528 : Fld Z T495.heap b88 "java/util/ArrayList" "size" "I" (.int (0 : Int32)) := f471.keep Kc505 (ninS ne415 nin0)
  have f529 : Fld Z T495.heap b88 "java/util/ArrayList" "elementData" "[Ljava/lang/Object;" (.ref wd) := f472.keep Kc505 (ninS ne415 nin0)
  have f530 : Fld Z T495.heap b88 "java/util/AbstractList" "modCount" "I" (.int (0 : Int32)) := f473.keep Kc505 (ninS ne415 nin0)
  have f531 : Fld Z T495.heap b59 "com/example/slotsholmen/slotsholmen/schema/Group" "name" "Ljava/lang/String;" (.ref b75) := f474.keep Kc505 (ninS ne414 nin0)
  have f532 : Fld Z T495.heap b59 "com/example/slotsholmen/slotsholmen/schema/Group" "fields" "Ljava/util/List;" (.ref b88) := f475.keep Kc505 (ninS ne414 nin0)
  have f533 : Exa Z T495.heap b156 "com/example/slotsholmen/slotsholmen/schema/Group" := f476.keep Kc505
  have f534 : Exa Z T495.heap b201 "java/util/ArrayList" := f477.keep Kc505
  have f535 : Fld Z T495.heap b201 "java/util/ArrayList" "size" "I" (.int (0 : Int32)) := f478.keep Kc505 (ninS ne417 nin0)
  have f536 : Fld Z T495.heap b201 "java/util/ArrayList" "elementData" "[Ljava/lang/Object;" (.ref wd) := f479.keep Kc505 (ninS ne417 nin0)
  have f537 : Fld Z T495.heap b201 "java/util/AbstractList" "modCount" "I" (.int (0 : Int32)) := f480.keep Kc505 (ninS ne417 nin0)
  have f538 : Fld Z T495.heap b156 "com/example/slotsholmen/slotsholmen/schema/Group" "name" "Ljava/lang/String;" (.ref b181) := f481.keep Kc505 (ninS ne416 nin0)
  have f539 : Fld Z T495.heap b156 "com/example/slotsholmen/slotsholmen/schema/Group" "fields" "Ljava/util/List;" (.ref b201) := f482.keep Kc505 (ninS ne416 nin0)
  have f540 : Exa Z T495.heap b292 "java/util/ArrayList" := f483.keep Kc505
  have f541 : Fld Z T495.heap b292 "java/util/ArrayList" "size" "I" (.int (1 : Int32)) := f484.keep Kc505 (ninS ne418 nin0)
  have f542 : Fld Z T495.heap b292 "java/util/ArrayList" "elementData" "[Ljava/lang/Object;" (.ref w363) := f485.keep Kc505 (ninS ne418 nin0)
  have f543 : Fld Z T495.heap b292 "java/util/AbstractList" "modCount" "I" (.int ((0 : Int32) + (1 : Int32))) := f486.keep Kc505 (ninS ne418 nin0)
  have f544 : Arv Z T495.heap w363 w364 (.object "java/lang/Object") (10 : Int32) [(.ref b1), .null, .null, .null, .null, .null, .null, .null, .null, .null] .null := f487.keep Kc505 (ninS ne419 nin0)
  have f545 : Ovr Z w364 "java/lang/Object" := f488
  have f546 : Exa Z T495.heap b411 "java/util/ArrayList" := f455.keep Kc505
  have O550 := own_oldKeep O493 Kc505 (allS big420 all0)
  have K551 : Keep h0 T495.heap [] := K494.trans Kc505 (allS (Or.inr sz421) all0)
  show own_Go p e below s _ _ _ (T495.setTop (mkF m 90 #[.val (.int p1), .val (.int ((p1 &&& (2147483647 : Int32)) % (3 : Int32))), .val (.ref b1), .val (.ref b59), .val (.ref b156), .val (.ref b292), .val (.ref b411), .unset, .unset, .unset, .unset, .unset] [(.int (1 : Int32))]))
  refine own_go (fun _ k => XS.pop X495.here hx rfl (hb hby at_90) rfl rfl k) ?_
  show own_Go p e below s _ _ _ (T495.setTop (mkF m 91 #[.val (.int p1), .val (.int ((p1 &&& (2147483647 : Int32)) % (3 : Int32))), .val (.ref b1), .val (.ref b59), .val (.ref b156), .val (.ref b292), .val (.ref b411), .unset, .unset, .unset, .unset, .unset] []))
  obtain ⟨T552, h552, X552, e552, E552, A552, D552, -, st552⟩ := newO X495 hx hZ hown (hw _ (List.mem_of_getElem? (i := 12) rfl)) (hw _ (List.mem_of_getElem? (i := 13) rfl)) (hw _ (List.mem_of_getElem? (i := 14) rfl)) (rfl : T495.heap = T495.heap) (g := (mkF m 91 #[.val (.int p1), .val (.int ((p1 &&& (2147483647 : Int32)) % (3 : Int32))), .val (.ref b1), .val (.ref b59), .val (.ref b156), .val (.ref b292), .val (.ref b411), .unset, .unset, .unset, .unset, .unset] [])) rfl (hb hby at_91) (by show _ ≤ 48; omega) (by show _ ≤ 6400; omega)
  obtain ⟨b552, g552⟩ : ∃ z, z = T495.heap.size := ⟨_, rfl⟩
  rw [← g552] at A552 D552 st552
  refine own_go st552 ?_
  have ge552 := Nat.le_of_eq g552.symm
  have ne553 : b1 ≠ b552 := Nat.ne_of_lt (Nat.lt_of_lt_of_le f519.lt ge552)
  have ne554 : b14 ≠ b552 := Nat.ne_of_lt (Nat.lt_of_lt_of_le f520.lt ge552)
  have ne555 : b59 ≠ b552 := Nat.ne_of_lt (Nat.lt_of_lt_of_le f526.lt ge552)
  have ne556 : b88 ≠ b552 := Nat.ne_of_lt (Nat.lt_of_lt_of_le f527.lt ge552)
  have ne557 : b156 ≠ b552 := Nat.ne_of_lt (Nat.lt_of_lt_of_le f533.lt ge552)
  have ne558 : b201 ≠ b552 := Nat.ne_of_lt (Nat.lt_of_lt_of_le f534.lt ge552)
  have ne559 : b292 ≠ b552 := Nat.ne_of_lt (Nat.lt_of_lt_of_le f540.lt ge552)
  have ne560 : w363 ≠ b552 := Nat.ne_of_lt (Nat.lt_of_lt_of_le f544.lt ge552)
  have ne561 : b411 ≠ b552 := Nat.ne_of_lt (Nat.lt_of_lt_of_le f499.lt ge552)
  have ne562 : w496 ≠ b552 := Nat.ne_of_lt (Nat.lt_of_lt_of_le f503.lt ge552)
  have big563 : Z.heap.size ≤ b552 := Nat.le_trans O550.1 ge552
  have sz564 : h0.size ≤ b552 := Nat.le_trans K551.1 ge552
  have f565 : Exa Z h552 b1 "com/example/slotsholmen/slotsholmen/schema/Group" := f519.ext E552
  have f566 : Exa Z h552 b14 "java/util/ArrayList" := f520.ext E552
  have f567 : Fld Z h552 b14 "java/util/ArrayList" "size" "I" (.int (0 : Int32)) := f521.ext E552
  have f568 : Fld Z h552 b14 "java/util/ArrayList" "elementData" "[Ljava/lang/Object;" (.ref wd) := f522.ext E552
  have f569 : Fld Z h552 b14 "java/util/AbstractList" "modCount" "I" (.int (0 : Int32)) := f523.ext E552
  have f570 : Fld Z h552 b1 "com/example/slotsholmen/slotsholmen/schema/Group" "name" "Ljava/lang/String;" (.ref b8) := f524.ext E552
  have f571 : Fld Z h552 b1 "com/example/slotsholmen/slotsholmen/schema/Group" "fields" "Ljava/util/List;" (.ref b14) := f525.ext E552
  have f572 : Exa Z h552 b59 "com/example/slotsholmen/slotsholmen/schema/Group" := f526.ext E552
  have f573 : Exa Z h552 b88 "java/util/ArrayList" := f527.ext E552
  have f574 : Fld Z h552 b88 "java/util/ArrayList" "size" "I" (.int (0 : Int32)) := f528.ext E552
  have f575 : Fld Z h552 b88 "java/util/ArrayList" "elementData" "[Ljava/lang/Object;" (.ref wd) := f529.ext E552
  have f576 : Fld Z h552 b88 "java/util/AbstractList" "modCount" "I" (.int (0 : Int32)) := f530.ext E552
  have f577 : Fld Z h552 b59 "com/example/slotsholmen/slotsholmen/schema/Group" "name" "Ljava/lang/String;" (.ref b75) := f531.ext E552
  have f578 : Fld Z h552 b59 "com/example/slotsholmen/slotsholmen/schema/Group" "fields" "Ljava/util/List;" (.ref b88) := f532.ext E552
  have f579 : Exa Z h552 b156 "com/example/slotsholmen/slotsholmen/schema/Group" := f533.ext E552
  have f580 : Exa Z h552 b201 "java/util/ArrayList" := f534.ext E552
  have f581 : Fld Z h552 b201 "java/util/ArrayList" "size" "I" (.int (0 : Int32)) := f535.ext E552
  have f582 : Fld Z h552 b201 "java/util/ArrayList" "elementData" "[Ljava/lang/Object;" (.ref wd) := f536.ext E552
  have f583 : Fld Z h552 b201 "java/util/AbstractList" "modCount" "I" (.int (0 : Int32)) := f537.ext E552
  have f584 : Fld Z h552 b156 "com/example/slotsholmen/slotsholmen/schema/Group" "name" "Ljava/lang/String;" (.ref b181) := f538.ext E552
  have f585 : Fld Z h552 b156 "com/example/slotsholmen/slotsholmen/schema/Group" "fields" "Ljava/util/List;" (.ref b201) := f539.ext E552
  have f586 : Exa Z h552 b292 "java/util/ArrayList" := f540.ext E552
  have f587 : Fld Z h552 b292 "java/util/ArrayList" "size" "I" (.int (1 : Int32)) := f541.ext E552
  have f588 : Fld Z h552 b292 "java/util/ArrayList" "elementData" "[Ljava/lang/Object;" (.ref w363) := f542.ext E552
  have f589 : Fld Z h552 b292 "java/util/AbstractList" "modCount" "I" (.int ((0 : Int32) + (1 : Int32))) := f543.ext E552
  have f590 : Arv Z h552 w363 w364 (.object "java/lang/Object") (10 : Int32) [(.ref b1), .null, .null, .null, .null, .null, .null, .null, .null, .null] .null := f544.ext E552
  have f591 : Ovr Z w364 "java/lang/Object" := f545
  have f592 : Exa Z h552 b411 "java/util/ArrayList" := f499.ext E552
  have f593 : Fld Z h552 b411 "java/util/ArrayList" "size" "I" (.int (1 : Int32)) := f500.ext E552
  have f594 : Fld Z h552 b411 "java/util/ArrayList" "elementData" "[Ljava/lang/Object;" (.ref w496) := f501.ext E552
  have f595 : Fld Z h552 b411 "java/util/AbstractList" "modCount" "I" (.int ((0 : Int32) + (1 : Int32))) := f502.ext E552
  have f596 : Arv Z h552 w496 w497 (.object "java/lang/Object") (10 : Int32) [(.ref b59), .null, .null, .null, .null, .null, .null, .null, .null, .null] .null := f503.ext E552
  have f597 : Ovr Z w497 "java/lang/Object" := f504
  have O598 := own_oldExt O550 E552
  replace hS := own_since hS E552.1
  have K599 := K551.ext E552
  have f600 : Fld Z h552 b552 "java/util/AbstractList" "modCount" "I" (.int (0 : Int32)) := D552 (Or.inl (hw _ (List.mem_of_getElem? (i := 34) rfl))) (ty := .int) (by decide)
  have f601 : Fld Z h552 b552 "java/util/ArrayList" "elementData" "[Ljava/lang/Object;" .null := D552 (Or.inl (hw _ (List.mem_of_getElem? (i := 37) rfl))) (ty := (.array (.object "java/lang/Object"))) (by decide)
  have f602 : Fld Z h552 b552 "java/util/ArrayList" "size" "I" (.int (0 : Int32)) := D552 (Or.inl (hw _ (List.mem_of_getElem? (i := 61) rfl))) (ty := .int) (by decide)
  show own_Go p e below s _ _ _ (T552.setTop (mkF m 94 #[.val (.int p1), .val (.int ((p1 &&& (2147483647 : Int32)) % (3 : Int32))), .val (.ref b1), .val (.ref b59), .val (.ref b156), .val (.ref b292), .val (.ref b411), .unset, .unset, .unset, .unset, .unset] [(.ref b552)]))
  refine own_go (fun _ k => XS.dup X552.here hx rfl (hb hby at_94) rfl rfl k) ?_
  show own_Go p e below s _ _ _ (T552.setTop (mkF m 95 #[.val (.int p1), .val (.int ((p1 &&& (2147483647 : Int32)) % (3 : Int32))), .val (.ref b1), .val (.ref b59), .val (.ref b156), .val (.ref b292), .val (.ref b411), .unset, .unset, .unset, .unset, .unset] [(.ref b552), (.ref b552)]))
  obtain ⟨v603, T603, L603, X603, hSn, hZn, hownn, hQ603, st603⟩ := own_callI (y := (⟨"java/util/ArrayList", "<init>", "()V"⟩ : MethodName)) X552 hS hx hZ hown (hw _ (List.mem_of_getElem? (i := 15) rfl)) (hw _ (List.mem_of_getElem? (i := 16) rfl)) (hw _ (List.mem_of_getElem? (i := 14) rfl)) (hw _ (List.mem_of_getElem? (i := 17) rfl)) (rm_alinit l Z a0 hw oDE oDV oS0 oS1 oS2 oSE0 oSE1 oSE2 oSF0 oSF1 oSF2 oSM oSV [] b552 h552 O598 A552 f602 f601 f600 big563) 1 0 0 rfl rfl rfl (by decide) (by decide) (by decide) (by show _ ≤ 48; omega) (by show _ ≤ 6400; omega) e552 (g := (mkF m 95 #[.val (.int p1), .val (.int ((p1 &&& (2147483647 : Int32)) % (3 : Int32))), .val (.ref b1), .val (.ref b59), .val (.ref b156), .val (.ref b292), .val (.ref b411), .unset, .unset, .unset, .unset, .unset] [(.ref b552), (.ref b552)])) rfl (by rw [hml]; rfl) b552 [] [(.ref b552)] (lenOf own_pd_0 rfl) rfl rfl (by show 2 * 0 + _ ≤ _; exact Nat.le_of_eq rfl) (hb hby at_95)
  replace hS := hSn
  replace hZ := hZn
  replace hown := hownn
  clear hSn hZn hownn
  obtain ⟨rfl, Nc609, Kc608, f604, f605, f606, f607⟩ := hQ603
  refine own_go st603 ?_
  have N610 := Fr.app N507 Nc609
  have f611 : Exa Z T603.heap b1 "com/example/slotsholmen/slotsholmen/schema/Group" := f565.keep Kc608
  have f612 : Exa Z T603.heap b14 "java/util/ArrayList" := f566.keep Kc608
  have f613 : Fld Z T603.heap b14 "java/util/ArrayList" "size" "I" (.int (0 : Int32)) := f567.keep Kc608 (ninS ne554 nin0)
  have f614 : Fld Z T603.heap b14 "java/util/ArrayList" "elementData" "[Ljava/lang/Object;" (.ref wd) := f568.keep Kc608 (ninS ne554 nin0)
  have f615 : Fld Z T603.heap b14 "java/util/AbstractList" "modCount" "I" (.int (0 : Int32)) := f569.keep Kc608 (ninS ne554 nin0)
  have f616 : Fld Z T603.heap b1 "com/example/slotsholmen/slotsholmen/schema/Group" "name" "Ljava/lang/String;" (.ref b8) := f570.keep Kc608 (ninS ne553 nin0)
  have f617 : Fld Z T603.heap b1 "com/example/slotsholmen/slotsholmen/schema/Group" "fields" "Ljava/util/List;" (.ref b14) := f571.keep Kc608 (ninS ne553 nin0)
  have f618 : Exa Z T603.heap b59 "com/example/slotsholmen/slotsholmen/schema/Group" := f572.keep Kc608
  have f619 : Exa Z T603.heap b88 "java/util/ArrayList" := f573.keep Kc608
  have f620 : Fld Z T603.heap b88 "java/util/ArrayList" "size" "I" (.int (0 : Int32)) := f574.keep Kc608 (ninS ne556 nin0)
  have f621 : Fld Z T603.heap b88 "java/util/ArrayList" "elementData" "[Ljava/lang/Object;" (.ref wd) := f575.keep Kc608 (ninS ne556 nin0)
  have f622 : Fld Z T603.heap b88 "java/util/AbstractList" "modCount" "I" (.int (0 : Int32)) := f576.keep Kc608 (ninS ne556 nin0)
  have f623 : Fld Z T603.heap b59 "com/example/slotsholmen/slotsholmen/schema/Group" "name" "Ljava/lang/String;" (.ref b75) := f577.keep Kc608 (ninS ne555 nin0)
  have f624 : Fld Z T603.heap b59 "com/example/slotsholmen/slotsholmen/schema/Group" "fields" "Ljava/util/List;" (.ref b88) := f578.keep Kc608 (ninS ne555 nin0)
  have f625 : Exa Z T603.heap b156 "com/example/slotsholmen/slotsholmen/schema/Group" := f579.keep Kc608
  have f626 : Exa Z T603.heap b201 "java/util/ArrayList" := f580.keep Kc608
  have f627 : Fld Z T603.heap b201 "java/util/ArrayList" "size" "I" (.int (0 : Int32)) := f581.keep Kc608 (ninS ne558 nin0)
  have f628 : Fld Z T603.heap b201 "java/util/ArrayList" "elementData" "[Ljava/lang/Object;" (.ref wd) := f582.keep Kc608 (ninS ne558 nin0)
  have f629 : Fld Z T603.heap b201 "java/util/AbstractList" "modCount" "I" (.int (0 : Int32)) := f583.keep Kc608 (ninS ne558 nin0)
  have f630 : Fld Z T603.heap b156 "com/example/slotsholmen/slotsholmen/schema/Group" "name" "Ljava/lang/String;" (.ref b181) := f584.keep Kc608 (ninS ne557 nin0)
  have f631 : Fld Z T603.heap b156 "com/example/slotsholmen/slotsholmen/schema/Group" "fields" "Ljava/util/List;" (.ref b201) := f585.keep Kc608 (ninS ne557 nin0)
  have f632 : Exa Z T603.heap b292 "java/util/ArrayList" := f586.keep Kc608
  have f633 : Fld Z T603.heap b292 "java/util/ArrayList" "size" "I" (.int (1 : Int32)) := f587.keep Kc608 (ninS ne559 nin0)
  have f634 : Fld Z T603.heap b292 "java/util/ArrayList" "elementData" "[Ljava/lang/Object;" (.ref w363) := f588.keep Kc608 (ninS ne559 nin0)
  have f635 : Fld Z T603.heap b292 "java/util/AbstractList" "modCount" "I" (.int ((0 : Int32) + (1 : Int32))) := f589.keep Kc608 (ninS ne559 nin0)
  have f636 : Arv Z T603.heap w363 w364 (.object "java/lang/Object") (10 : Int32) [(.ref b1), .null, .null, .null, .null, .null, .null, .null, .null, .null] .null := f590.keep Kc608 (ninS ne560 nin0)
  have f637 : Ovr Z w364 "java/lang/Object" := f591
  have f638 : Exa Z T603.heap b411 "java/util/ArrayList" := f592.keep Kc608
  have f639 : Fld Z T603.heap b411 "java/util/ArrayList" "size" "I" (.int (1 : Int32)) := f593.keep Kc608 (ninS ne561 nin0)
  have f640 : Fld Z T603.heap b411 "java/util/ArrayList" "elementData" "[Ljava/lang/Object;" (.ref w496) := f594.keep Kc608 (ninS ne561 nin0)
  have f641 : Fld Z T603.heap b411 "java/util/AbstractList" "modCount" "I" (.int ((0 : Int32) + (1 : Int32))) := f595.keep Kc608 (ninS ne561 nin0)
  have f642 : Arv Z T603.heap w496 w497 (.object "java/lang/Object") (10 : Int32) [(.ref b59), .null, .null, .null, .null, .null, .null, .null, .null, .null] .null := f596.keep Kc608 (ninS ne562 nin0)
  have f643 : Ovr Z w497 "java/lang/Object" := f597
  have f644 : Exa Z T603.heap b552 "java/util/ArrayList" := A552.keep Kc608
  have O648 := own_oldKeep O598 Kc608 (allS big563 all0)
  have K649 : Keep h0 T603.heap [] := K599.trans Kc608 (allS (Or.inr sz564) all0)
  show own_Go p e below s _ _ _ (T603.setTop (mkF m 98 #[.val (.int p1), .val (.int ((p1 &&& (2147483647 : Int32)) % (3 : Int32))), .val (.ref b1), .val (.ref b59), .val (.ref b156), .val (.ref b292), .val (.ref b411), .unset, .unset, .unset, .unset, .unset] [(.ref b552)]))
  refine own_go (fun _ k => XS.astore X603.here hx rfl (hb hby at_98) rfl rfl (l' := #[.val (.int p1), .val (.int ((p1 &&& (2147483647 : Int32)) % (3 : Int32))), .val (.ref b1), .val (.ref b59), .val (.ref b156), .val (.ref b292), .val (.ref b411), .val (.ref b552), .unset, .unset, .unset, .unset]) rfl k) ?_
  show own_Go p e below s _ _ _ (T603.setTop (mkF m 100 #[.val (.int p1), .val (.int ((p1 &&& (2147483647 : Int32)) % (3 : Int32))), .val (.ref b1), .val (.ref b59), .val (.ref b156), .val (.ref b292), .val (.ref b411), .val (.ref b552), .unset, .unset, .unset, .unset] []))
  refine own_go (fun _ k => XS.aload X603.here hx rfl (hb hby at_100) rfl rfl k) ?_
  show own_Go p e below s _ _ _ (T603.setTop (mkF m 102 #[.val (.int p1), .val (.int ((p1 &&& (2147483647 : Int32)) % (3 : Int32))), .val (.ref b1), .val (.ref b59), .val (.ref b156), .val (.ref b292), .val (.ref b411), .val (.ref b552), .unset, .unset, .unset, .unset] [(.ref b552)]))
  refine own_go (fun _ k => XS.aload X603.here hx rfl (hb hby at_102) rfl rfl k) ?_
  show own_Go p e below s _ _ _ (T603.setTop (mkF m 104 #[.val (.int p1), .val (.int ((p1 &&& (2147483647 : Int32)) % (3 : Int32))), .val (.ref b1), .val (.ref b59), .val (.ref b156), .val (.ref b292), .val (.ref b411), .val (.ref b552), .unset, .unset, .unset, .unset] [(.ref b156), (.ref b552)]))
  obtain ⟨v650, T650, L650, X650, hSn, hZn, hownn, hQ650, st650⟩ := own_callV (y := (⟨"java/util/ArrayList", "add", "(Ljava/lang/Object;)Z"⟩ : MethodName)) (z := (⟨"java/util/ArrayList", "add", "(Ljava/lang/Object;)Z"⟩ : MethodName)) X603 hS hx hZ hown (hw _ (List.mem_of_getElem? (i := 53) rfl)) (hw _ (List.mem_of_getElem? (i := 54) rfl)) (notFace_of_selects (args := #[]) (mvT hZ (hw _ (List.mem_of_getElem? (i := 56) rfl)))) (hw _ (List.mem_of_getElem? (i := 56) rfl)) (hw _ (List.mem_of_getElem? (i := 55) rfl)) (hw _ (List.mem_of_getElem? (i := 14) rfl)) (hw _ (List.mem_of_getElem? (i := 57) rfl)) (rm_add1_0 l Z a0 hw oDE oDV oS0 oS1 oS2 oSE0 oSE1 oSE2 oSF0 oSF1 oSF2 oSM oSV [] b552 b156 (0 : Int32) T603.heap O648 f604 f605 f606 f607 (Ins.of_exa f625 (hw _ (List.mem_of_getElem? (i := 83) rfl))) big563) 0 1 10 rfl rfl (by decide) (by decide) (by decide) (by show _ ≤ 48; omega) (by show _ ≤ 6400; omega) (rfl : T603.heap = T603.heap) f604 (g := (mkF m 104 #[.val (.int p1), .val (.int ((p1 &&& (2147483647 : Int32)) % (3 : Int32))), .val (.ref b1), .val (.ref b59), .val (.ref b156), .val (.ref b292), .val (.ref b411), .val (.ref b552), .unset, .unset, .unset, .unset] [(.ref b156), (.ref b552)])) rfl (by rw [hml]; rfl) [(.ref b156)] [] (lenOf own_pd_9 rfl) rfl rfl (by show 2 * 0 + _ ≤ _; exact Nat.le_of_eq rfl) (hb hby at_104)
  replace hS := hSn
  replace hZ := hZn
  replace hown := hownn
  clear hSn hZn hownn
  obtain ⟨w651, w652, rfl, Nc661, Kc660, hb653, f654, f655, f656, f657, f658, f659⟩ := hQ650
  refine own_go st650 ?_
  have N662 := Fr.app N610 Nc661
  have ne663 : b1 ≠ w651 := Nat.ne_of_lt (Nat.lt_of_lt_of_le f611.lt hb653)
  have ne664 : b14 ≠ w651 := Nat.ne_of_lt (Nat.lt_of_lt_of_le f612.lt hb653)
  have ne665 : b59 ≠ w651 := Nat.ne_of_lt (Nat.lt_of_lt_of_le f618.lt hb653)
  have ne666 : b88 ≠ w651 := Nat.ne_of_lt (Nat.lt_of_lt_of_le f619.lt hb653)
  have ne667 : b156 ≠ w651 := Nat.ne_of_lt (Nat.lt_of_lt_of_le f625.lt hb653)
  have ne668 : b201 ≠ w651 := Nat.ne_of_lt (Nat.lt_of_lt_of_le f626.lt hb653)
  have ne669 : b292 ≠ w651 := Nat.ne_of_lt (Nat.lt_of_lt_of_le f632.lt hb653)
  have ne670 : w363 ≠ w651 := Nat.ne_of_lt (Nat.lt_of_lt_of_le f636.lt hb653)
  have ne671 : b411 ≠ w651 := Nat.ne_of_lt (Nat.lt_of_lt_of_le f638.lt hb653)
  have ne672 : w496 ≠ w651 := Nat.ne_of_lt (Nat.lt_of_lt_of_le f642.lt hb653)
  have ne673 : b552 ≠ w651 := Nat.ne_of_lt (Nat.lt_of_lt_of_le f604.lt hb653)
  have big674 : Z.heap.size ≤ w651 := Nat.le_trans O648.1 hb653
  have sz675 : h0.size ≤ w651 := Nat.le_trans K649.1 hb653
  have f676 : Exa Z T650.heap b1 "com/example/slotsholmen/slotsholmen/schema/Group" := f611.keep Kc660
  have f677 : Exa Z T650.heap b14 "java/util/ArrayList" := f612.keep Kc660
  have f678 : Fld Z T650.heap b14 "java/util/ArrayList" "size" "I" (.int (0 : Int32)) := f613.keep Kc660 (ninS ne554 nin0)
  have f679 : Fld Z T650.heap b14 "java/util/ArrayList" "elementData" "[Ljava/lang/Object;" (.ref wd) := f614.keep Kc660 (ninS ne554 nin0)
  have f680 : Fld Z T650.heap b14 "java/util/AbstractList" "modCount" "I" (.int (0 : Int32)) := f615.keep Kc660 (ninS ne554 nin0)
  have f681 : Fld Z T650.heap b1 "com/example/slotsholmen/slotsholmen/schema/Group" "name" "Ljava/lang/String;" (.ref b8) := f616.keep Kc660 (ninS ne553 nin0)
  have f682 : Fld Z T650.heap b1 "com/example/slotsholmen/slotsholmen/schema/Group" "fields" "Ljava/util/List;" (.ref b14) := f617.keep Kc660 (ninS ne553 nin0)
  have f683 : Exa Z T650.heap b59 "com/example/slotsholmen/slotsholmen/schema/Group" := f618.keep Kc660
  have f684 : Exa Z T650.heap b88 "java/util/ArrayList" := f619.keep Kc660
  have f685 : Fld Z T650.heap b88 "java/util/ArrayList" "size" "I" (.int (0 : Int32)) := f620.keep Kc660 (ninS ne556 nin0)
  have f686 : Fld Z T650.heap b88 "java/util/ArrayList" "elementData" "[Ljava/lang/Object;" (.ref wd) := f621.keep Kc660 (ninS ne556 nin0)
  have f687 : Fld Z T650.heap b88 "java/util/AbstractList" "modCount" "I" (.int (0 : Int32)) := f622.keep Kc660 (ninS ne556 nin0)
  have f688 : Fld Z T650.heap b59 "com/example/slotsholmen/slotsholmen/schema/Group" "name" "Ljava/lang/String;" (.ref b75) := f623.keep Kc660 (ninS ne555 nin0)
  have f689 : Fld Z T650.heap b59 "com/example/slotsholmen/slotsholmen/schema/Group" "fields" "Ljava/util/List;" (.ref b88) := f624.keep Kc660 (ninS ne555 nin0)
  have f690 : Exa Z T650.heap b156 "com/example/slotsholmen/slotsholmen/schema/Group" := f625.keep Kc660
  have f691 : Exa Z T650.heap b201 "java/util/ArrayList" := f626.keep Kc660
  have f692 : Fld Z T650.heap b201 "java/util/ArrayList" "size" "I" (.int (0 : Int32)) := f627.keep Kc660 (ninS ne558 nin0)
  have f693 : Fld Z T650.heap b201 "java/util/ArrayList" "elementData" "[Ljava/lang/Object;" (.ref wd) := f628.keep Kc660 (ninS ne558 nin0)
  have f694 : Fld Z T650.heap b201 "java/util/AbstractList" "modCount" "I" (.int (0 : Int32)) := f629.keep Kc660 (ninS ne558 nin0)
  have f695 : Fld Z T650.heap b156 "com/example/slotsholmen/slotsholmen/schema/Group" "name" "Ljava/lang/String;" (.ref b181) := f630.keep Kc660 (ninS ne557 nin0)
  have f696 : Fld Z T650.heap b156 "com/example/slotsholmen/slotsholmen/schema/Group" "fields" "Ljava/util/List;" (.ref b201) := f631.keep Kc660 (ninS ne557 nin0)
  have f697 : Exa Z T650.heap b292 "java/util/ArrayList" := f632.keep Kc660
  have f698 : Fld Z T650.heap b292 "java/util/ArrayList" "size" "I" (.int (1 : Int32)) := f633.keep Kc660 (ninS ne559 nin0)
  have f699 : Fld Z T650.heap b292 "java/util/ArrayList" "elementData" "[Ljava/lang/Object;" (.ref w363) := f634.keep Kc660 (ninS ne559 nin0)
  have f700 : Fld Z T650.heap b292 "java/util/AbstractList" "modCount" "I" (.int ((0 : Int32) + (1 : Int32))) := f635.keep Kc660 (ninS ne559 nin0)
  have f701 : Arv Z T650.heap w363 w364 (.object "java/lang/Object") (10 : Int32) [(.ref b1), .null, .null, .null, .null, .null, .null, .null, .null, .null] .null := f636.keep Kc660 (ninS ne560 nin0)
  have f702 : Ovr Z w364 "java/lang/Object" := f637
  have f703 : Exa Z T650.heap b411 "java/util/ArrayList" := f638.keep Kc660
  have f704 : Fld Z T650.heap b411 "java/util/ArrayList" "size" "I" (.int (1 : Int32)) := f639.keep Kc660 (ninS ne561 nin0)
  have f705 : Fld Z T650.heap b411 "java/util/ArrayList" "elementData" "[Ljava/lang/Object;" (.ref w496) := f640.keep Kc660 (ninS ne561 nin0)
  have f706 : Fld Z T650.heap b411 "java/util/AbstractList" "modCount" "I" (.int ((0 : Int32) + (1 : Int32))) := f641.keep Kc660 (ninS ne561 nin0)
  have f707 : Arv Z T650.heap w496 w497 (.object "java/lang/Object") (10 : Int32) [(.ref b59), .null, .null, .null, .null, .null, .null, .null, .null, .null] .null := f642.keep Kc660 (ninS ne562 nin0)
  have f708 : Ovr Z w497 "java/lang/Object" := f643
  have f709 : Exa Z T650.heap b552 "java/util/ArrayList" := f604.keep Kc660
  have O713 := own_oldKeep O648 Kc660 (allS big563 all0)
  have K714 : Keep h0 T650.heap [] := K649.trans Kc660 (allS (Or.inr sz564) all0)
  show own_Go p e below s _ _ _ (T650.setTop (mkF m 107 #[.val (.int p1), .val (.int ((p1 &&& (2147483647 : Int32)) % (3 : Int32))), .val (.ref b1), .val (.ref b59), .val (.ref b156), .val (.ref b292), .val (.ref b411), .val (.ref b552), .unset, .unset, .unset, .unset] [(.int (1 : Int32))]))
  refine own_go (fun _ k => XS.pop X650.here hx rfl (hb hby at_107) rfl rfl k) ?_
  show own_Go p e below s _ _ _ (T650.setTop (mkF m 108 #[.val (.int p1), .val (.int ((p1 &&& (2147483647 : Int32)) % (3 : Int32))), .val (.ref b1), .val (.ref b59), .val (.ref b156), .val (.ref b292), .val (.ref b411), .val (.ref b552), .unset, .unset, .unset, .unset] []))
  obtain ⟨T715, h715, X715, e715, E715, A715, D715, -, st715⟩ := newO X650 hx hZ hown (hw _ (List.mem_of_getElem? (i := 84) rfl)) (hw _ (List.mem_of_getElem? (i := 85) rfl)) (hw _ (List.mem_of_getElem? (i := 86) rfl)) (rfl : T650.heap = T650.heap) (g := (mkF m 108 #[.val (.int p1), .val (.int ((p1 &&& (2147483647 : Int32)) % (3 : Int32))), .val (.ref b1), .val (.ref b59), .val (.ref b156), .val (.ref b292), .val (.ref b411), .val (.ref b552), .unset, .unset, .unset, .unset] [])) rfl (hb hby at_108) (by show _ ≤ 48; omega) (by show _ ≤ 6400; omega)
  obtain ⟨b715, g715⟩ : ∃ z, z = T650.heap.size := ⟨_, rfl⟩
  rw [← g715] at A715 D715 st715
  refine own_go st715 ?_
  have ge715 := Nat.le_of_eq g715.symm
  have ne716 : b1 ≠ b715 := Nat.ne_of_lt (Nat.lt_of_lt_of_le f676.lt ge715)
  have ne717 : b14 ≠ b715 := Nat.ne_of_lt (Nat.lt_of_lt_of_le f677.lt ge715)
  have ne718 : b59 ≠ b715 := Nat.ne_of_lt (Nat.lt_of_lt_of_le f683.lt ge715)
  have ne719 : b88 ≠ b715 := Nat.ne_of_lt (Nat.lt_of_lt_of_le f684.lt ge715)
  have ne720 : b156 ≠ b715 := Nat.ne_of_lt (Nat.lt_of_lt_of_le f690.lt ge715)
  have ne721 : b201 ≠ b715 := Nat.ne_of_lt (Nat.lt_of_lt_of_le f691.lt ge715)
  have ne722 : b292 ≠ b715 := Nat.ne_of_lt (Nat.lt_of_lt_of_le f697.lt ge715)
  have ne723 : w363 ≠ b715 := Nat.ne_of_lt (Nat.lt_of_lt_of_le f701.lt ge715)
  have ne724 : b411 ≠ b715 := Nat.ne_of_lt (Nat.lt_of_lt_of_le f703.lt ge715)
  have ne725 : w496 ≠ b715 := Nat.ne_of_lt (Nat.lt_of_lt_of_le f707.lt ge715)
  have ne726 : b552 ≠ b715 := Nat.ne_of_lt (Nat.lt_of_lt_of_le f654.lt ge715)
  have ne727 : w651 ≠ b715 := Nat.ne_of_lt (Nat.lt_of_lt_of_le f658.lt ge715)
  have big728 : Z.heap.size ≤ b715 := Nat.le_trans O713.1 ge715
  have sz729 : h0.size ≤ b715 := Nat.le_trans K714.1 ge715
  have f730 : Exa Z h715 b1 "com/example/slotsholmen/slotsholmen/schema/Group" := f676.ext E715
  have f731 : Exa Z h715 b14 "java/util/ArrayList" := f677.ext E715
  have f732 : Fld Z h715 b14 "java/util/ArrayList" "size" "I" (.int (0 : Int32)) := f678.ext E715
  have f733 : Fld Z h715 b14 "java/util/ArrayList" "elementData" "[Ljava/lang/Object;" (.ref wd) := f679.ext E715
  have f734 : Fld Z h715 b14 "java/util/AbstractList" "modCount" "I" (.int (0 : Int32)) := f680.ext E715
  have f735 : Fld Z h715 b1 "com/example/slotsholmen/slotsholmen/schema/Group" "name" "Ljava/lang/String;" (.ref b8) := f681.ext E715
  have f736 : Fld Z h715 b1 "com/example/slotsholmen/slotsholmen/schema/Group" "fields" "Ljava/util/List;" (.ref b14) := f682.ext E715
  have f737 : Exa Z h715 b59 "com/example/slotsholmen/slotsholmen/schema/Group" := f683.ext E715
  have f738 : Exa Z h715 b88 "java/util/ArrayList" := f684.ext E715
  have f739 : Fld Z h715 b88 "java/util/ArrayList" "size" "I" (.int (0 : Int32)) := f685.ext E715
  have f740 : Fld Z h715 b88 "java/util/ArrayList" "elementData" "[Ljava/lang/Object;" (.ref wd) := f686.ext E715
  have f741 : Fld Z h715 b88 "java/util/AbstractList" "modCount" "I" (.int (0 : Int32)) := f687.ext E715
  have f742 : Fld Z h715 b59 "com/example/slotsholmen/slotsholmen/schema/Group" "name" "Ljava/lang/String;" (.ref b75) := f688.ext E715
  have f743 : Fld Z h715 b59 "com/example/slotsholmen/slotsholmen/schema/Group" "fields" "Ljava/util/List;" (.ref b88) := f689.ext E715
  have f744 : Exa Z h715 b156 "com/example/slotsholmen/slotsholmen/schema/Group" := f690.ext E715
  have f745 : Exa Z h715 b201 "java/util/ArrayList" := f691.ext E715
  have f746 : Fld Z h715 b201 "java/util/ArrayList" "size" "I" (.int (0 : Int32)) := f692.ext E715
  have f747 : Fld Z h715 b201 "java/util/ArrayList" "elementData" "[Ljava/lang/Object;" (.ref wd) := f693.ext E715
  have f748 : Fld Z h715 b201 "java/util/AbstractList" "modCount" "I" (.int (0 : Int32)) := f694.ext E715
  have f749 : Fld Z h715 b156 "com/example/slotsholmen/slotsholmen/schema/Group" "name" "Ljava/lang/String;" (.ref b181) := f695.ext E715
  have f750 : Fld Z h715 b156 "com/example/slotsholmen/slotsholmen/schema/Group" "fields" "Ljava/util/List;" (.ref b201) := f696.ext E715
  have f751 : Exa Z h715 b292 "java/util/ArrayList" := f697.ext E715
  have f752 : Fld Z h715 b292 "java/util/ArrayList" "size" "I" (.int (1 : Int32)) := f698.ext E715
  have f753 : Fld Z h715 b292 "java/util/ArrayList" "elementData" "[Ljava/lang/Object;" (.ref w363) := f699.ext E715
  have f754 : Fld Z h715 b292 "java/util/AbstractList" "modCount" "I" (.int ((0 : Int32) + (1 : Int32))) := f700.ext E715
  have f755 : Arv Z h715 w363 w364 (.object "java/lang/Object") (10 : Int32) [(.ref b1), .null, .null, .null, .null, .null, .null, .null, .null, .null] .null := f701.ext E715
  have f756 : Ovr Z w364 "java/lang/Object" := f702
  have f757 : Exa Z h715 b411 "java/util/ArrayList" := f703.ext E715
  have f758 : Fld Z h715 b411 "java/util/ArrayList" "size" "I" (.int (1 : Int32)) := f704.ext E715
  have f759 : Fld Z h715 b411 "java/util/ArrayList" "elementData" "[Ljava/lang/Object;" (.ref w496) := f705.ext E715
  have f760 : Fld Z h715 b411 "java/util/AbstractList" "modCount" "I" (.int ((0 : Int32) + (1 : Int32))) := f706.ext E715
  have f761 : Arv Z h715 w496 w497 (.object "java/lang/Object") (10 : Int32) [(.ref b59), .null, .null, .null, .null, .null, .null, .null, .null, .null] .null := f707.ext E715
  have f762 : Ovr Z w497 "java/lang/Object" := f708
  have f763 : Exa Z h715 b552 "java/util/ArrayList" := f654.ext E715
  have f764 : Fld Z h715 b552 "java/util/ArrayList" "size" "I" (.int (1 : Int32)) := f655.ext E715
  have f765 : Fld Z h715 b552 "java/util/ArrayList" "elementData" "[Ljava/lang/Object;" (.ref w651) := f656.ext E715
  have f766 : Fld Z h715 b552 "java/util/AbstractList" "modCount" "I" (.int ((0 : Int32) + (1 : Int32))) := f657.ext E715
  have f767 : Arv Z h715 w651 w652 (.object "java/lang/Object") (10 : Int32) [(.ref b156), .null, .null, .null, .null, .null, .null, .null, .null, .null] .null := f658.ext E715
  have f768 : Ovr Z w652 "java/lang/Object" := f659
  have O769 := own_oldExt O713 E715
  replace hS := own_since hS E715.1
  have K770 := K714.ext E715
  have f771 : Fld Z h715 b715 "com/example/slotsholmen/slotsholmen/schema/ObjectClass" "service" "Ljava/lang/String;" .null := D715 (Or.inr (hw _ (List.mem_of_getElem? (i := 95) rfl))) (ty := (.object "java/lang/String")) (by decide)
  have f772 : Fld Z h715 b715 "com/example/slotsholmen/slotsholmen/schema/ObjectClass" "name" "Ljava/lang/String;" .null := D715 (Or.inr (hw _ (List.mem_of_getElem? (i := 97) rfl))) (ty := (.object "java/lang/String")) (by decide)
  have f773 : Fld Z h715 b715 "com/example/slotsholmen/slotsholmen/schema/ObjectClass" "title" "Ljava/lang/String;" .null := D715 (Or.inr (hw _ (List.mem_of_getElem? (i := 99) rfl))) (ty := (.object "java/lang/String")) (by decide)
  have f774 : Fld Z h715 b715 "com/example/slotsholmen/slotsholmen/schema/ObjectClass" "attributes" "Ljava/util/List;" .null := D715 (Or.inr (hw _ (List.mem_of_getElem? (i := 101) rfl))) (ty := (.object "java/util/List")) (by decide)
  have f775 : Fld Z h715 b715 "com/example/slotsholmen/slotsholmen/schema/ObjectClass" "states" "Ljava/util/List;" .null := D715 (Or.inr (hw _ (List.mem_of_getElem? (i := 103) rfl))) (ty := (.object "java/util/List")) (by decide)
  have f776 : Fld Z h715 b715 "com/example/slotsholmen/slotsholmen/schema/ObjectClass" "relations" "Ljava/util/List;" .null := D715 (Or.inr (hw _ (List.mem_of_getElem? (i := 105) rfl))) (ty := (.object "java/util/List")) (by decide)
  show own_Go p e below s _ _ _ (T715.setTop (mkF m 111 #[.val (.int p1), .val (.int ((p1 &&& (2147483647 : Int32)) % (3 : Int32))), .val (.ref b1), .val (.ref b59), .val (.ref b156), .val (.ref b292), .val (.ref b411), .val (.ref b552), .unset, .unset, .unset, .unset] [(.ref b715)]))
  refine own_go (fun _ k => XS.dup X715.here hx rfl (hb hby at_111) rfl rfl k) ?_
  show own_Go p e below s _ _ _ (T715.setTop (mkF m 112 #[.val (.int p1), .val (.int ((p1 &&& (2147483647 : Int32)) % (3 : Int32))), .val (.ref b1), .val (.ref b59), .val (.ref b156), .val (.ref b292), .val (.ref b411), .val (.ref b552), .unset, .unset, .unset, .unset] [(.ref b715), (.ref b715)]))
  obtain ⟨b777, T777, h777, k777, X777, e777, E777, hSn, hkn, hZn, hownn, st777⟩ := ldcS X715 hx hZ hown (hw _ (List.mem_of_getElem? (i := 87) rfl)) (own_wS hw) e715 hS (Nat.le_refl _) (g := (mkF m 112 #[.val (.int p1), .val (.int ((p1 &&& (2147483647 : Int32)) % (3 : Int32))), .val (.ref b1), .val (.ref b59), .val (.ref b156), .val (.ref b292), .val (.ref b411), .val (.ref b552), .unset, .unset, .unset, .unset] [(.ref b715), (.ref b715)])) rfl (hb hby at_112) (n := 12) (by decide) (by decide) (by show _ ≤ 48; omega) (by show _ ≤ 6400; omega)
  refine own_go st777 ?_
  replace hS := own_since hSn hkn
  replace hZ := hZn
  replace hown := hownn
  clear hSn hZn hownn
  have f778 : Exa Z h777 b1 "com/example/slotsholmen/slotsholmen/schema/Group" := f730.ext E777
  have f779 : Exa Z h777 b14 "java/util/ArrayList" := f731.ext E777
  have f780 : Fld Z h777 b14 "java/util/ArrayList" "size" "I" (.int (0 : Int32)) := f732.ext E777
  have f781 : Fld Z h777 b14 "java/util/ArrayList" "elementData" "[Ljava/lang/Object;" (.ref wd) := f733.ext E777
  have f782 : Fld Z h777 b14 "java/util/AbstractList" "modCount" "I" (.int (0 : Int32)) := f734.ext E777
  have f783 : Fld Z h777 b1 "com/example/slotsholmen/slotsholmen/schema/Group" "name" "Ljava/lang/String;" (.ref b8) := f735.ext E777
  have f784 : Fld Z h777 b1 "com/example/slotsholmen/slotsholmen/schema/Group" "fields" "Ljava/util/List;" (.ref b14) := f736.ext E777
  have f785 : Exa Z h777 b59 "com/example/slotsholmen/slotsholmen/schema/Group" := f737.ext E777
  have f786 : Exa Z h777 b88 "java/util/ArrayList" := f738.ext E777
  have f787 : Fld Z h777 b88 "java/util/ArrayList" "size" "I" (.int (0 : Int32)) := f739.ext E777
  have f788 : Fld Z h777 b88 "java/util/ArrayList" "elementData" "[Ljava/lang/Object;" (.ref wd) := f740.ext E777
  have f789 : Fld Z h777 b88 "java/util/AbstractList" "modCount" "I" (.int (0 : Int32)) := f741.ext E777
  have f790 : Fld Z h777 b59 "com/example/slotsholmen/slotsholmen/schema/Group" "name" "Ljava/lang/String;" (.ref b75) := f742.ext E777
  have f791 : Fld Z h777 b59 "com/example/slotsholmen/slotsholmen/schema/Group" "fields" "Ljava/util/List;" (.ref b88) := f743.ext E777
  have f792 : Exa Z h777 b156 "com/example/slotsholmen/slotsholmen/schema/Group" := f744.ext E777
  have f793 : Exa Z h777 b201 "java/util/ArrayList" := f745.ext E777
  have f794 : Fld Z h777 b201 "java/util/ArrayList" "size" "I" (.int (0 : Int32)) := f746.ext E777
  have f795 : Fld Z h777 b201 "java/util/ArrayList" "elementData" "[Ljava/lang/Object;" (.ref wd) := f747.ext E777
  have f796 : Fld Z h777 b201 "java/util/AbstractList" "modCount" "I" (.int (0 : Int32)) := f748.ext E777
  have f797 : Fld Z h777 b156 "com/example/slotsholmen/slotsholmen/schema/Group" "name" "Ljava/lang/String;" (.ref b181) := f749.ext E777
  have f798 : Fld Z h777 b156 "com/example/slotsholmen/slotsholmen/schema/Group" "fields" "Ljava/util/List;" (.ref b201) := f750.ext E777
  have f799 : Exa Z h777 b292 "java/util/ArrayList" := f751.ext E777
  have f800 : Fld Z h777 b292 "java/util/ArrayList" "size" "I" (.int (1 : Int32)) := f752.ext E777
  have f801 : Fld Z h777 b292 "java/util/ArrayList" "elementData" "[Ljava/lang/Object;" (.ref w363) := f753.ext E777
  have f802 : Fld Z h777 b292 "java/util/AbstractList" "modCount" "I" (.int ((0 : Int32) + (1 : Int32))) := f754.ext E777
  have f803 : Arv Z h777 w363 w364 (.object "java/lang/Object") (10 : Int32) [(.ref b1), .null, .null, .null, .null, .null, .null, .null, .null, .null] .null := f755.ext E777
  have f804 : Ovr Z w364 "java/lang/Object" := f756
  have f805 : Exa Z h777 b411 "java/util/ArrayList" := f757.ext E777
  have f806 : Fld Z h777 b411 "java/util/ArrayList" "size" "I" (.int (1 : Int32)) := f758.ext E777
  have f807 : Fld Z h777 b411 "java/util/ArrayList" "elementData" "[Ljava/lang/Object;" (.ref w496) := f759.ext E777
  have f808 : Fld Z h777 b411 "java/util/AbstractList" "modCount" "I" (.int ((0 : Int32) + (1 : Int32))) := f760.ext E777
  have f809 : Arv Z h777 w496 w497 (.object "java/lang/Object") (10 : Int32) [(.ref b59), .null, .null, .null, .null, .null, .null, .null, .null, .null] .null := f761.ext E777
  have f810 : Ovr Z w497 "java/lang/Object" := f762
  have f811 : Exa Z h777 b552 "java/util/ArrayList" := f763.ext E777
  have f812 : Fld Z h777 b552 "java/util/ArrayList" "size" "I" (.int (1 : Int32)) := f764.ext E777
  have f813 : Fld Z h777 b552 "java/util/ArrayList" "elementData" "[Ljava/lang/Object;" (.ref w651) := f765.ext E777
  have f814 : Fld Z h777 b552 "java/util/AbstractList" "modCount" "I" (.int ((0 : Int32) + (1 : Int32))) := f766.ext E777
  have f815 : Arv Z h777 w651 w652 (.object "java/lang/Object") (10 : Int32) [(.ref b156), .null, .null, .null, .null, .null, .null, .null, .null, .null] .null := f767.ext E777
  have f816 : Ovr Z w652 "java/lang/Object" := f768
  have f817 : Exa Z h777 b715 "com/example/slotsholmen/slotsholmen/schema/ObjectClass" := A715.ext E777
  have f818 : Fld Z h777 b715 "com/example/slotsholmen/slotsholmen/schema/ObjectClass" "service" "Ljava/lang/String;" .null := f771.ext E777
  have f819 : Fld Z h777 b715 "com/example/slotsholmen/slotsholmen/schema/ObjectClass" "name" "Ljava/lang/String;" .null := f772.ext E777
  have f820 : Fld Z h777 b715 "com/example/slotsholmen/slotsholmen/schema/ObjectClass" "title" "Ljava/lang/String;" .null := f773.ext E777
  have f821 : Fld Z h777 b715 "com/example/slotsholmen/slotsholmen/schema/ObjectClass" "attributes" "Ljava/util/List;" .null := f774.ext E777
  have f822 : Fld Z h777 b715 "com/example/slotsholmen/slotsholmen/schema/ObjectClass" "states" "Ljava/util/List;" .null := f775.ext E777
  have f823 : Fld Z h777 b715 "com/example/slotsholmen/slotsholmen/schema/ObjectClass" "relations" "Ljava/util/List;" .null := f776.ext E777
  have O824 := own_oldExt O769 E777
  have K825 := K770.ext E777
  show own_Go p e below s _ _ _ (T777.setTop (mkF m 114 #[.val (.int p1), .val (.int ((p1 &&& (2147483647 : Int32)) % (3 : Int32))), .val (.ref b1), .val (.ref b59), .val (.ref b156), .val (.ref b292), .val (.ref b411), .val (.ref b552), .unset, .unset, .unset, .unset] [(.ref b777), (.ref b715), (.ref b715)]))
  obtain ⟨b826, T826, h826, k826, X826, e826, E826, hSn, hkn, hZn, hownn, st826⟩ := ldcS X777 hx hZ hown (hw _ (List.mem_of_getElem? (i := 88) rfl)) (own_wS hw) e777 hS (Nat.le_refl _) (g := (mkF m 114 #[.val (.int p1), .val (.int ((p1 &&& (2147483647 : Int32)) % (3 : Int32))), .val (.ref b1), .val (.ref b59), .val (.ref b156), .val (.ref b292), .val (.ref b411), .val (.ref b552), .unset, .unset, .unset, .unset] [(.ref b777), (.ref b715), (.ref b715)])) rfl (hb hby at_114) (n := 8) (by decide) (by decide) (by show _ ≤ 48; omega) (by show _ ≤ 6400; omega)
  refine own_go st826 ?_
  replace hS := own_since hSn hkn
  replace hZ := hZn
  replace hown := hownn
  clear hSn hZn hownn
  have f827 : Exa Z h826 b1 "com/example/slotsholmen/slotsholmen/schema/Group" := f778.ext E826
  have f828 : Exa Z h826 b14 "java/util/ArrayList" := f779.ext E826
  have f829 : Fld Z h826 b14 "java/util/ArrayList" "size" "I" (.int (0 : Int32)) := f780.ext E826
  have f830 : Fld Z h826 b14 "java/util/ArrayList" "elementData" "[Ljava/lang/Object;" (.ref wd) := f781.ext E826
  have f831 : Fld Z h826 b14 "java/util/AbstractList" "modCount" "I" (.int (0 : Int32)) := f782.ext E826
  have f832 : Fld Z h826 b1 "com/example/slotsholmen/slotsholmen/schema/Group" "name" "Ljava/lang/String;" (.ref b8) := f783.ext E826
  have f833 : Fld Z h826 b1 "com/example/slotsholmen/slotsholmen/schema/Group" "fields" "Ljava/util/List;" (.ref b14) := f784.ext E826
  have f834 : Exa Z h826 b59 "com/example/slotsholmen/slotsholmen/schema/Group" := f785.ext E826
  have f835 : Exa Z h826 b88 "java/util/ArrayList" := f786.ext E826
  have f836 : Fld Z h826 b88 "java/util/ArrayList" "size" "I" (.int (0 : Int32)) := f787.ext E826
  have f837 : Fld Z h826 b88 "java/util/ArrayList" "elementData" "[Ljava/lang/Object;" (.ref wd) := f788.ext E826
  have f838 : Fld Z h826 b88 "java/util/AbstractList" "modCount" "I" (.int (0 : Int32)) := f789.ext E826
  have f839 : Fld Z h826 b59 "com/example/slotsholmen/slotsholmen/schema/Group" "name" "Ljava/lang/String;" (.ref b75) := f790.ext E826
  have f840 : Fld Z h826 b59 "com/example/slotsholmen/slotsholmen/schema/Group" "fields" "Ljava/util/List;" (.ref b88) := f791.ext E826
  have f841 : Exa Z h826 b156 "com/example/slotsholmen/slotsholmen/schema/Group" := f792.ext E826
  have f842 : Exa Z h826 b201 "java/util/ArrayList" := f793.ext E826
  have f843 : Fld Z h826 b201 "java/util/ArrayList" "size" "I" (.int (0 : Int32)) := f794.ext E826
  have f844 : Fld Z h826 b201 "java/util/ArrayList" "elementData" "[Ljava/lang/Object;" (.ref wd) := f795.ext E826
  have f845 : Fld Z h826 b201 "java/util/AbstractList" "modCount" "I" (.int (0 : Int32)) := f796.ext E826
  have f846 : Fld Z h826 b156 "com/example/slotsholmen/slotsholmen/schema/Group" "name" "Ljava/lang/String;" (.ref b181) := f797.ext E826
  have f847 : Fld Z h826 b156 "com/example/slotsholmen/slotsholmen/schema/Group" "fields" "Ljava/util/List;" (.ref b201) := f798.ext E826
  have f848 : Exa Z h826 b292 "java/util/ArrayList" := f799.ext E826
  have f849 : Fld Z h826 b292 "java/util/ArrayList" "size" "I" (.int (1 : Int32)) := f800.ext E826
  have f850 : Fld Z h826 b292 "java/util/ArrayList" "elementData" "[Ljava/lang/Object;" (.ref w363) := f801.ext E826
  have f851 : Fld Z h826 b292 "java/util/AbstractList" "modCount" "I" (.int ((0 : Int32) + (1 : Int32))) := f802.ext E826
  have f852 : Arv Z h826 w363 w364 (.object "java/lang/Object") (10 : Int32) [(.ref b1), .null, .null, .null, .null, .null, .null, .null, .null, .null] .null := f803.ext E826
  have f853 : Ovr Z w364 "java/lang/Object" := f804
  have f854 : Exa Z h826 b411 "java/util/ArrayList" := f805.ext E826
  have f855 : Fld Z h826 b411 "java/util/ArrayList" "size" "I" (.int (1 : Int32)) := f806.ext E826
  have f856 : Fld Z h826 b411 "java/util/ArrayList" "elementData" "[Ljava/lang/Object;" (.ref w496) := f807.ext E826
  have f857 : Fld Z h826 b411 "java/util/AbstractList" "modCount" "I" (.int ((0 : Int32) + (1 : Int32))) := f808.ext E826
  have f858 : Arv Z h826 w496 w497 (.object "java/lang/Object") (10 : Int32) [(.ref b59), .null, .null, .null, .null, .null, .null, .null, .null, .null] .null := f809.ext E826
  have f859 : Ovr Z w497 "java/lang/Object" := f810
  have f860 : Exa Z h826 b552 "java/util/ArrayList" := f811.ext E826
  have f861 : Fld Z h826 b552 "java/util/ArrayList" "size" "I" (.int (1 : Int32)) := f812.ext E826
  have f862 : Fld Z h826 b552 "java/util/ArrayList" "elementData" "[Ljava/lang/Object;" (.ref w651) := f813.ext E826
  have f863 : Fld Z h826 b552 "java/util/AbstractList" "modCount" "I" (.int ((0 : Int32) + (1 : Int32))) := f814.ext E826
  have f864 : Arv Z h826 w651 w652 (.object "java/lang/Object") (10 : Int32) [(.ref b156), .null, .null, .null, .null, .null, .null, .null, .null, .null] .null := f815.ext E826
  have f865 : Ovr Z w652 "java/lang/Object" := f816
  have f866 : Exa Z h826 b715 "com/example/slotsholmen/slotsholmen/schema/ObjectClass" := f817.ext E826
  have f867 : Fld Z h826 b715 "com/example/slotsholmen/slotsholmen/schema/ObjectClass" "service" "Ljava/lang/String;" .null := f818.ext E826
  have f868 : Fld Z h826 b715 "com/example/slotsholmen/slotsholmen/schema/ObjectClass" "name" "Ljava/lang/String;" .null := f819.ext E826
  have f869 : Fld Z h826 b715 "com/example/slotsholmen/slotsholmen/schema/ObjectClass" "title" "Ljava/lang/String;" .null := f820.ext E826
  have f870 : Fld Z h826 b715 "com/example/slotsholmen/slotsholmen/schema/ObjectClass" "attributes" "Ljava/util/List;" .null := f821.ext E826
  have f871 : Fld Z h826 b715 "com/example/slotsholmen/slotsholmen/schema/ObjectClass" "states" "Ljava/util/List;" .null := f822.ext E826
  have f872 : Fld Z h826 b715 "com/example/slotsholmen/slotsholmen/schema/ObjectClass" "relations" "Ljava/util/List;" .null := f823.ext E826
  have O873 := own_oldExt O824 E826
  have K874 := K825.ext E826
  show own_Go p e below s _ _ _ (T826.setTop (mkF m 116 #[.val (.int p1), .val (.int ((p1 &&& (2147483647 : Int32)) % (3 : Int32))), .val (.ref b1), .val (.ref b59), .val (.ref b156), .val (.ref b292), .val (.ref b411), .val (.ref b552), .unset, .unset, .unset, .unset] [(.ref b826), (.ref b777), (.ref b715), (.ref b715)]))
  obtain ⟨b875, T875, h875, k875, X875, e875, E875, hSn, hkn, hZn, hownn, st875⟩ := ldcS X826 hx hZ hown (hw _ (List.mem_of_getElem? (i := 89) rfl)) (own_wS hw) e826 hS (Nat.le_refl _) (g := (mkF m 116 #[.val (.int p1), .val (.int ((p1 &&& (2147483647 : Int32)) % (3 : Int32))), .val (.ref b1), .val (.ref b59), .val (.ref b156), .val (.ref b292), .val (.ref b411), .val (.ref b552), .unset, .unset, .unset, .unset] [(.ref b826), (.ref b777), (.ref b715), (.ref b715)])) rfl (hb hby at_116) (n := 20) (by decide) (by decide) (by show _ ≤ 48; omega) (by show _ ≤ 6400; omega)
  refine own_go st875 ?_
  replace hS := own_since hSn hkn
  replace hZ := hZn
  replace hown := hownn
  clear hSn hZn hownn
  have f876 : Exa Z h875 b1 "com/example/slotsholmen/slotsholmen/schema/Group" := f827.ext E875
  have f877 : Exa Z h875 b14 "java/util/ArrayList" := f828.ext E875
  have f878 : Fld Z h875 b14 "java/util/ArrayList" "size" "I" (.int (0 : Int32)) := f829.ext E875
  have f879 : Fld Z h875 b14 "java/util/ArrayList" "elementData" "[Ljava/lang/Object;" (.ref wd) := f830.ext E875
  have f880 : Fld Z h875 b14 "java/util/AbstractList" "modCount" "I" (.int (0 : Int32)) := f831.ext E875
  have f881 : Fld Z h875 b1 "com/example/slotsholmen/slotsholmen/schema/Group" "name" "Ljava/lang/String;" (.ref b8) := f832.ext E875
  have f882 : Fld Z h875 b1 "com/example/slotsholmen/slotsholmen/schema/Group" "fields" "Ljava/util/List;" (.ref b14) := f833.ext E875
  have f883 : Exa Z h875 b59 "com/example/slotsholmen/slotsholmen/schema/Group" := f834.ext E875
  have f884 : Exa Z h875 b88 "java/util/ArrayList" := f835.ext E875
  have f885 : Fld Z h875 b88 "java/util/ArrayList" "size" "I" (.int (0 : Int32)) := f836.ext E875
  have f886 : Fld Z h875 b88 "java/util/ArrayList" "elementData" "[Ljava/lang/Object;" (.ref wd) := f837.ext E875
  have f887 : Fld Z h875 b88 "java/util/AbstractList" "modCount" "I" (.int (0 : Int32)) := f838.ext E875
  have f888 : Fld Z h875 b59 "com/example/slotsholmen/slotsholmen/schema/Group" "name" "Ljava/lang/String;" (.ref b75) := f839.ext E875
  have f889 : Fld Z h875 b59 "com/example/slotsholmen/slotsholmen/schema/Group" "fields" "Ljava/util/List;" (.ref b88) := f840.ext E875
  have f890 : Exa Z h875 b156 "com/example/slotsholmen/slotsholmen/schema/Group" := f841.ext E875
  have f891 : Exa Z h875 b201 "java/util/ArrayList" := f842.ext E875
  have f892 : Fld Z h875 b201 "java/util/ArrayList" "size" "I" (.int (0 : Int32)) := f843.ext E875
  have f893 : Fld Z h875 b201 "java/util/ArrayList" "elementData" "[Ljava/lang/Object;" (.ref wd) := f844.ext E875
  have f894 : Fld Z h875 b201 "java/util/AbstractList" "modCount" "I" (.int (0 : Int32)) := f845.ext E875
  have f895 : Fld Z h875 b156 "com/example/slotsholmen/slotsholmen/schema/Group" "name" "Ljava/lang/String;" (.ref b181) := f846.ext E875
  have f896 : Fld Z h875 b156 "com/example/slotsholmen/slotsholmen/schema/Group" "fields" "Ljava/util/List;" (.ref b201) := f847.ext E875
  have f897 : Exa Z h875 b292 "java/util/ArrayList" := f848.ext E875
  have f898 : Fld Z h875 b292 "java/util/ArrayList" "size" "I" (.int (1 : Int32)) := f849.ext E875
  have f899 : Fld Z h875 b292 "java/util/ArrayList" "elementData" "[Ljava/lang/Object;" (.ref w363) := f850.ext E875
  have f900 : Fld Z h875 b292 "java/util/AbstractList" "modCount" "I" (.int ((0 : Int32) + (1 : Int32))) := f851.ext E875
  have f901 : Arv Z h875 w363 w364 (.object "java/lang/Object") (10 : Int32) [(.ref b1), .null, .null, .null, .null, .null, .null, .null, .null, .null] .null := f852.ext E875
  have f902 : Ovr Z w364 "java/lang/Object" := f853
  have f903 : Exa Z h875 b411 "java/util/ArrayList" := f854.ext E875
  have f904 : Fld Z h875 b411 "java/util/ArrayList" "size" "I" (.int (1 : Int32)) := f855.ext E875
  have f905 : Fld Z h875 b411 "java/util/ArrayList" "elementData" "[Ljava/lang/Object;" (.ref w496) := f856.ext E875
  have f906 : Fld Z h875 b411 "java/util/AbstractList" "modCount" "I" (.int ((0 : Int32) + (1 : Int32))) := f857.ext E875
  have f907 : Arv Z h875 w496 w497 (.object "java/lang/Object") (10 : Int32) [(.ref b59), .null, .null, .null, .null, .null, .null, .null, .null, .null] .null := f858.ext E875
  have f908 : Ovr Z w497 "java/lang/Object" := f859
  have f909 : Exa Z h875 b552 "java/util/ArrayList" := f860.ext E875
  have f910 : Fld Z h875 b552 "java/util/ArrayList" "size" "I" (.int (1 : Int32)) := f861.ext E875
  have f911 : Fld Z h875 b552 "java/util/ArrayList" "elementData" "[Ljava/lang/Object;" (.ref w651) := f862.ext E875
  have f912 : Fld Z h875 b552 "java/util/AbstractList" "modCount" "I" (.int ((0 : Int32) + (1 : Int32))) := f863.ext E875
  have f913 : Arv Z h875 w651 w652 (.object "java/lang/Object") (10 : Int32) [(.ref b156), .null, .null, .null, .null, .null, .null, .null, .null, .null] .null := f864.ext E875
  have f914 : Ovr Z w652 "java/lang/Object" := f865
  have f915 : Exa Z h875 b715 "com/example/slotsholmen/slotsholmen/schema/ObjectClass" := f866.ext E875
  have f916 : Fld Z h875 b715 "com/example/slotsholmen/slotsholmen/schema/ObjectClass" "service" "Ljava/lang/String;" .null := f867.ext E875
  have f917 : Fld Z h875 b715 "com/example/slotsholmen/slotsholmen/schema/ObjectClass" "name" "Ljava/lang/String;" .null := f868.ext E875
  have f918 : Fld Z h875 b715 "com/example/slotsholmen/slotsholmen/schema/ObjectClass" "title" "Ljava/lang/String;" .null := f869.ext E875
  have f919 : Fld Z h875 b715 "com/example/slotsholmen/slotsholmen/schema/ObjectClass" "attributes" "Ljava/util/List;" .null := f870.ext E875
  have f920 : Fld Z h875 b715 "com/example/slotsholmen/slotsholmen/schema/ObjectClass" "states" "Ljava/util/List;" .null := f871.ext E875
  have f921 : Fld Z h875 b715 "com/example/slotsholmen/slotsholmen/schema/ObjectClass" "relations" "Ljava/util/List;" .null := f872.ext E875
  have O922 := own_oldExt O873 E875
  have K923 := K874.ext E875
  show own_Go p e below s _ _ _ (T875.setTop (mkF m 118 #[.val (.int p1), .val (.int ((p1 &&& (2147483647 : Int32)) % (3 : Int32))), .val (.ref b1), .val (.ref b59), .val (.ref b156), .val (.ref b292), .val (.ref b411), .val (.ref b552), .unset, .unset, .unset, .unset] [(.ref b875), (.ref b826), (.ref b777), (.ref b715), (.ref b715)]))
  refine own_go (fun _ k => XS.aload X875.here hx rfl (hb hby at_118) rfl rfl k) ?_
  show own_Go p e below s _ _ _ (T875.setTop (mkF m 120 #[.val (.int p1), .val (.int ((p1 &&& (2147483647 : Int32)) % (3 : Int32))), .val (.ref b1), .val (.ref b59), .val (.ref b156), .val (.ref b292), .val (.ref b411), .val (.ref b552), .unset, .unset, .unset, .unset] [(.ref b292), (.ref b875), (.ref b826), (.ref b777), (.ref b715), (.ref b715)]))
  refine own_go (fun _ k => XS.aload X875.here hx rfl (hb hby at_120) rfl rfl k) ?_
  show own_Go p e below s _ _ _ (T875.setTop (mkF m 122 #[.val (.int p1), .val (.int ((p1 &&& (2147483647 : Int32)) % (3 : Int32))), .val (.ref b1), .val (.ref b59), .val (.ref b156), .val (.ref b292), .val (.ref b411), .val (.ref b552), .unset, .unset, .unset, .unset] [(.ref b411), (.ref b292), (.ref b875), (.ref b826), (.ref b777), (.ref b715), (.ref b715)]))
  refine own_go (fun _ k => XS.aload X875.here hx rfl (hb hby at_122) rfl rfl k) ?_
  show own_Go p e below s _ _ _ (T875.setTop (mkF m 124 #[.val (.int p1), .val (.int ((p1 &&& (2147483647 : Int32)) % (3 : Int32))), .val (.ref b1), .val (.ref b59), .val (.ref b156), .val (.ref b292), .val (.ref b411), .val (.ref b552), .unset, .unset, .unset, .unset] [(.ref b552), (.ref b411), (.ref b292), (.ref b875), (.ref b826), (.ref b777), (.ref b715), (.ref b715)]))
  obtain ⟨v924, T924, L924, X924, hSn, hZn, hownn, hQ924, st924⟩ := own_callI (y := (⟨"com/example/slotsholmen/slotsholmen/schema/ObjectClass", "<init>", "(Ljava/lang/String;Ljava/lang/String;Ljava/lang/String;Ljava/util/List;Ljava/util/List;Ljava/util/List;)V"⟩ : MethodName)) X875 hS hx hZ hown (hw _ (List.mem_of_getElem? (i := 90) rfl)) (hw _ (List.mem_of_getElem? (i := 91) rfl)) (hw _ (List.mem_of_getElem? (i := 86) rfl)) (hw _ (List.mem_of_getElem? (i := 92) rfl)) (rm_ocinit l Z a0 hw oDE oDV oS0 oS1 oS2 oSE0 oSE1 oSE2 oSF0 oSF1 oSF2 oSM oSV [] b715 (.ref b777) (.ref b826) (.ref b875) (.ref b292) (.ref b411) (.ref b552) h875 O922 (rfl : ((.ref b777) : Value).isRef = true) (rfl : ((.ref b826) : Value).isRef = true) (rfl : ((.ref b875) : Value).isRef = true) (rfl : ((.ref b292) : Value).isRef = true) (rfl : ((.ref b411) : Value).isRef = true) (rfl : ((.ref b552) : Value).isRef = true) f915 f916 f917 f918 f919 f920 f921 big728) 1 0 0 rfl rfl rfl (by decide) (by decide) (by decide) (by show _ ≤ 48; omega) (by show _ ≤ 6400; omega) e875 (g := (mkF m 124 #[.val (.int p1), .val (.int ((p1 &&& (2147483647 : Int32)) % (3 : Int32))), .val (.ref b1), .val (.ref b59), .val (.ref b156), .val (.ref b292), .val (.ref b411), .val (.ref b552), .unset, .unset, .unset, .unset] [(.ref b552), (.ref b411), (.ref b292), (.ref b875), (.ref b826), (.ref b777), (.ref b715), (.ref b715)])) rfl (by rw [hml]; rfl) b715 [(.ref b777), (.ref b826), (.ref b875), (.ref b292), (.ref b411), (.ref b552)] [(.ref b715)] (lenOf own_pd_10 rfl) rfl rfl (by show 2 * 0 + _ ≤ _; exact Nat.le_of_eq rfl) (hb hby at_124)
  replace hS := hSn
  replace hZ := hZn
  replace hown := hownn
  clear hSn hZn hownn
  obtain ⟨rfl, Nc933, Kc932, f925, f926, f927, f928, f929, f930, f931⟩ := hQ924
  refine own_go st924 ?_
  have N934 := Fr.app N662 Nc933
  have f935 : Exa Z T924.heap b1 "com/example/slotsholmen/slotsholmen/schema/Group" := f876.keep Kc932
  have f936 : Exa Z T924.heap b14 "java/util/ArrayList" := f877.keep Kc932
  have f937 : Fld Z T924.heap b14 "java/util/ArrayList" "size" "I" (.int (0 : Int32)) := f878.keep Kc932 (ninS ne717 nin0)
  have f938 : Fld Z T924.heap b14 "java/util/ArrayList" "elementData" "[Ljava/lang/Object;" (.ref wd) := f879.keep Kc932 (ninS ne717 nin0)
  have f939 : Fld Z T924.heap b14 "java/util/AbstractList" "modCount" "I" (.int (0 : Int32)) := f880.keep Kc932 (ninS ne717 nin0)
  have f940 : Fld Z T924.heap b1 "com/example/slotsholmen/slotsholmen/schema/Group" "name" "Ljava/lang/String;" (.ref b8) := f881.keep Kc932 (ninS ne716 nin0)
  have f941 : Fld Z T924.heap b1 "com/example/slotsholmen/slotsholmen/schema/Group" "fields" "Ljava/util/List;" (.ref b14) := f882.keep Kc932 (ninS ne716 nin0)
  have f942 : Exa Z T924.heap b59 "com/example/slotsholmen/slotsholmen/schema/Group" := f883.keep Kc932
  have f943 : Exa Z T924.heap b88 "java/util/ArrayList" := f884.keep Kc932
  have f944 : Fld Z T924.heap b88 "java/util/ArrayList" "size" "I" (.int (0 : Int32)) := f885.keep Kc932 (ninS ne719 nin0)
  have f945 : Fld Z T924.heap b88 "java/util/ArrayList" "elementData" "[Ljava/lang/Object;" (.ref wd) := f886.keep Kc932 (ninS ne719 nin0)
  have f946 : Fld Z T924.heap b88 "java/util/AbstractList" "modCount" "I" (.int (0 : Int32)) := f887.keep Kc932 (ninS ne719 nin0)
  have f947 : Fld Z T924.heap b59 "com/example/slotsholmen/slotsholmen/schema/Group" "name" "Ljava/lang/String;" (.ref b75) := f888.keep Kc932 (ninS ne718 nin0)
  have f948 : Fld Z T924.heap b59 "com/example/slotsholmen/slotsholmen/schema/Group" "fields" "Ljava/util/List;" (.ref b88) := f889.keep Kc932 (ninS ne718 nin0)
  have f949 : Exa Z T924.heap b156 "com/example/slotsholmen/slotsholmen/schema/Group" := f890.keep Kc932
  have f950 : Exa Z T924.heap b201 "java/util/ArrayList" := f891.keep Kc932
  have f951 : Fld Z T924.heap b201 "java/util/ArrayList" "size" "I" (.int (0 : Int32)) := f892.keep Kc932 (ninS ne721 nin0)
  have f952 : Fld Z T924.heap b201 "java/util/ArrayList" "elementData" "[Ljava/lang/Object;" (.ref wd) := f893.keep Kc932 (ninS ne721 nin0)
  have f953 : Fld Z T924.heap b201 "java/util/AbstractList" "modCount" "I" (.int (0 : Int32)) := f894.keep Kc932 (ninS ne721 nin0)
  have f954 : Fld Z T924.heap b156 "com/example/slotsholmen/slotsholmen/schema/Group" "name" "Ljava/lang/String;" (.ref b181) := f895.keep Kc932 (ninS ne720 nin0)
  have f955 : Fld Z T924.heap b156 "com/example/slotsholmen/slotsholmen/schema/Group" "fields" "Ljava/util/List;" (.ref b201) := f896.keep Kc932 (ninS ne720 nin0)
  have f956 : Exa Z T924.heap b292 "java/util/ArrayList" := f897.keep Kc932
  have f957 : Fld Z T924.heap b292 "java/util/ArrayList" "size" "I" (.int (1 : Int32)) := f898.keep Kc932 (ninS ne722 nin0)
  have f958 : Fld Z T924.heap b292 "java/util/ArrayList" "elementData" "[Ljava/lang/Object;" (.ref w363) := f899.keep Kc932 (ninS ne722 nin0)
  have f959 : Fld Z T924.heap b292 "java/util/AbstractList" "modCount" "I" (.int ((0 : Int32) + (1 : Int32))) := f900.keep Kc932 (ninS ne722 nin0)
  have f960 : Arv Z T924.heap w363 w364 (.object "java/lang/Object") (10 : Int32) [(.ref b1), .null, .null, .null, .null, .null, .null, .null, .null, .null] .null := f901.keep Kc932 (ninS ne723 nin0)
  have f961 : Ovr Z w364 "java/lang/Object" := f902
  have f962 : Exa Z T924.heap b411 "java/util/ArrayList" := f903.keep Kc932
  have f963 : Fld Z T924.heap b411 "java/util/ArrayList" "size" "I" (.int (1 : Int32)) := f904.keep Kc932 (ninS ne724 nin0)
  have f964 : Fld Z T924.heap b411 "java/util/ArrayList" "elementData" "[Ljava/lang/Object;" (.ref w496) := f905.keep Kc932 (ninS ne724 nin0)
  have f965 : Fld Z T924.heap b411 "java/util/AbstractList" "modCount" "I" (.int ((0 : Int32) + (1 : Int32))) := f906.keep Kc932 (ninS ne724 nin0)
  have f966 : Arv Z T924.heap w496 w497 (.object "java/lang/Object") (10 : Int32) [(.ref b59), .null, .null, .null, .null, .null, .null, .null, .null, .null] .null := f907.keep Kc932 (ninS ne725 nin0)
  have f967 : Ovr Z w497 "java/lang/Object" := f908
  have f968 : Exa Z T924.heap b552 "java/util/ArrayList" := f909.keep Kc932
  have f969 : Fld Z T924.heap b552 "java/util/ArrayList" "size" "I" (.int (1 : Int32)) := f910.keep Kc932 (ninS ne726 nin0)
  have f970 : Fld Z T924.heap b552 "java/util/ArrayList" "elementData" "[Ljava/lang/Object;" (.ref w651) := f911.keep Kc932 (ninS ne726 nin0)
  have f971 : Fld Z T924.heap b552 "java/util/AbstractList" "modCount" "I" (.int ((0 : Int32) + (1 : Int32))) := f912.keep Kc932 (ninS ne726 nin0)
  have f972 : Arv Z T924.heap w651 w652 (.object "java/lang/Object") (10 : Int32) [(.ref b156), .null, .null, .null, .null, .null, .null, .null, .null, .null] .null := f913.keep Kc932 (ninS ne727 nin0)
  have f973 : Ovr Z w652 "java/lang/Object" := f914
  have f974 : Exa Z T924.heap b715 "com/example/slotsholmen/slotsholmen/schema/ObjectClass" := f915.keep Kc932
  have O981 := own_oldKeep O922 Kc932 (allS big728 all0)
  have K982 : Keep h0 T924.heap [] := K923.trans Kc932 (allS (Or.inr sz729) all0)
  show own_Go p e below s _ _ _ (T924.setTop (mkF m 127 #[.val (.int p1), .val (.int ((p1 &&& (2147483647 : Int32)) % (3 : Int32))), .val (.ref b1), .val (.ref b59), .val (.ref b156), .val (.ref b292), .val (.ref b411), .val (.ref b552), .unset, .unset, .unset, .unset] [(.ref b715)]))
  refine own_go (fun _ k => XS.astore X924.here hx rfl (hb hby at_127) rfl rfl (l' := #[.val (.int p1), .val (.int ((p1 &&& (2147483647 : Int32)) % (3 : Int32))), .val (.ref b1), .val (.ref b59), .val (.ref b156), .val (.ref b292), .val (.ref b411), .val (.ref b552), .val (.ref b715), .unset, .unset, .unset]) rfl k) ?_
  show own_Go p e below s _ _ _ (T924.setTop (mkF m 129 #[.val (.int p1), .val (.int ((p1 &&& (2147483647 : Int32)) % (3 : Int32))), .val (.ref b1), .val (.ref b59), .val (.ref b156), .val (.ref b292), .val (.ref b411), .val (.ref b552), .val (.ref b715), .unset, .unset, .unset] []))
  refine own_go (fun _ k => XS.iloadN X924.here hx rfl (hb hby at_129) rfl k) ?_
  show own_Go p e below s _ _ _ (T924.setTop (mkF m 130 #[.val (.int p1), .val (.int ((p1 &&& (2147483647 : Int32)) % (3 : Int32))), .val (.ref b1), .val (.ref b59), .val (.ref b156), .val (.ref b292), .val (.ref b411), .val (.ref b552), .val (.ref b715), .unset, .unset, .unset] [(.int ((p1 &&& (2147483647 : Int32)) % (3 : Int32)))]))
  by_cases hc983 : ((p1 &&& (2147483647 : Int32)) % (3 : Int32)) = (0 : Int32)
  · refine own_go (fun _ k => XS.ifNo X924.here hx rfl (hb hby at_130) rfl ((if0 _ _).trans (teq hc983).2) k) ?_
    show own_Go p e below s _ _ _ (T924.setTop (mkF m 133 #[.val (.int p1), .val (.int ((p1 &&& (2147483647 : Int32)) % (3 : Int32))), .val (.ref b1), .val (.ref b59), .val (.ref b156), .val (.ref b292), .val (.ref b411), .val (.ref b552), .val (.ref b715), .unset, .unset, .unset] []))
    obtain ⟨T984, X984, e984, st984⟩ := getS2 X924 hx hZ hown (host := "") (Or.inl (hw _ (List.mem_of_getElem? (i := 106) rfl))) Via.refl (rfl : T924.heap = T924.heap) (oS0.ext O981) (g := (mkF m 133 #[.val (.int p1), .val (.int ((p1 &&& (2147483647 : Int32)) % (3 : Int32))), .val (.ref b1), .val (.ref b59), .val (.ref b156), .val (.ref b292), .val (.ref b411), .val (.ref b552), .val (.ref b715), .unset, .unset, .unset] [])) rfl (hb hby at_133)
    refine own_go st984 ?_
    show own_Go p e below s _ _ _ (T984.setTop (mkF m 136 #[.val (.int p1), .val (.int ((p1 &&& (2147483647 : Int32)) % (3 : Int32))), .val (.ref b1), .val (.ref b59), .val (.ref b156), .val (.ref b292), .val (.ref b411), .val (.ref b552), .val (.ref b715), .unset, .unset, .unset] [(.ref ws0)]))
    refine own_go (fun _ k => XS.astore X984.here hx rfl (hb hby at_136) rfl rfl (l' := #[.val (.int p1), .val (.int ((p1 &&& (2147483647 : Int32)) % (3 : Int32))), .val (.ref b1), .val (.ref b59), .val (.ref b156), .val (.ref b292), .val (.ref b411), .val (.ref b552), .val (.ref b715), .val (.ref ws0), .unset, .unset]) rfl k) ?_
    show own_Go p e below s _ _ _ (T984.setTop (mkF m 138 #[.val (.int p1), .val (.int ((p1 &&& (2147483647 : Int32)) % (3 : Int32))), .val (.ref b1), .val (.ref b59), .val (.ref b156), .val (.ref b292), .val (.ref b411), .val (.ref b552), .val (.ref b715), .val (.ref ws0), .unset, .unset] []))
    refine own_go (fun _ k => XS.aloadN X984.here hx rfl (hb hby at_138) rfl rfl k) ?_
    show own_Go p e below s _ _ _ (T984.setTop (mkF m 139 #[.val (.int p1), .val (.int ((p1 &&& (2147483647 : Int32)) % (3 : Int32))), .val (.ref b1), .val (.ref b59), .val (.ref b156), .val (.ref b292), .val (.ref b411), .val (.ref b552), .val (.ref b715), .val (.ref ws0), .unset, .unset] [(.ref b1)]))
    refine own_go (fun _ k => XS.astore X984.here hx rfl (hb hby at_139) rfl rfl (l' := #[.val (.int p1), .val (.int ((p1 &&& (2147483647 : Int32)) % (3 : Int32))), .val (.ref b1), .val (.ref b59), .val (.ref b156), .val (.ref b292), .val (.ref b411), .val (.ref b552), .val (.ref b715), .val (.ref ws0), .val (.ref b1), .unset]) rfl k) ?_
    show own_Go p e below s _ _ _ (T984.setTop (mkF m 141 #[.val (.int p1), .val (.int ((p1 &&& (2147483647 : Int32)) % (3 : Int32))), .val (.ref b1), .val (.ref b59), .val (.ref b156), .val (.ref b292), .val (.ref b411), .val (.ref b552), .val (.ref b715), .val (.ref ws0), .val (.ref b1), .unset] []))
    refine own_go (fun _ k => XS.goto X984.here hx rfl (pc0 := 141) (pc' := 169) rfl (hb hby at_141) (by decide) (by decide) k) ?_
    show own_Go p e below s _ _ _ (T984.setTop (mkF m 169 #[.val (.int p1), .val (.int ((p1 &&& (2147483647 : Int32)) % (3 : Int32))), .val (.ref b1), .val (.ref b59), .val (.ref b156), .val (.ref b292), .val (.ref b411), .val (.ref b552), .val (.ref b715), .val (.ref ws0), .val (.ref b1), .unset] []))
    refine own_go (fun _ k => XS.aload X984.here hx rfl (hb hby at_169) rfl rfl k) ?_
    show own_Go p e below s _ _ _ (T984.setTop (mkF m 171 #[.val (.int p1), .val (.int ((p1 &&& (2147483647 : Int32)) % (3 : Int32))), .val (.ref b1), .val (.ref b59), .val (.ref b156), .val (.ref b292), .val (.ref b411), .val (.ref b552), .val (.ref b715), .val (.ref ws0), .val (.ref b1), .unset] [(.ref b715)]))
    refine own_go (fun _ k => XS.aload X984.here hx rfl (hb hby at_171) rfl rfl k) ?_
    show own_Go p e below s _ _ _ (T984.setTop (mkF m 173 #[.val (.int p1), .val (.int ((p1 &&& (2147483647 : Int32)) % (3 : Int32))), .val (.ref b1), .val (.ref b59), .val (.ref b156), .val (.ref b292), .val (.ref b411), .val (.ref b552), .val (.ref b715), .val (.ref ws0), .val (.ref b1), .unset] [(.ref ws0), (.ref b715)]))
    obtain ⟨v985, T985, L985, X985, hSn, hZn, hownn, hQ985, st985⟩ := own_callV (y := (⟨"com/example/slotsholmen/slotsholmen/schema/ObjectClass", "groups", "(Lcom/example/slotsholmen/slotsholmen/schema/Section;)Ljava/util/List;"⟩ : MethodName)) (z := (⟨"com/example/slotsholmen/slotsholmen/schema/ObjectClass", "groups", "(Lcom/example/slotsholmen/slotsholmen/schema/Section;)Ljava/util/List;"⟩ : MethodName)) X984 hS hx hZ hown (hw _ (List.mem_of_getElem? (i := 109) rfl)) (hw _ (List.mem_of_getElem? (i := 110) rfl)) (notFace_of_selects (args := #[]) (mvT hZ (hw _ (List.mem_of_getElem? (i := 112) rfl)))) (hw _ (List.mem_of_getElem? (i := 112) rfl)) (hw _ (List.mem_of_getElem? (i := 111) rfl)) (hw _ (List.mem_of_getElem? (i := 86) rfl)) (hw _ (List.mem_of_getElem? (i := 113) rfl)) (rm_groups0 l Z a0 hw oDE oDV oS0 oS1 oS2 oSE0 oSE1 oSE2 oSF0 oSF1 oSF2 oSM oSV [] b715 b292 T924.heap O981 f929) 0 0 0 rfl rfl (by decide) (by decide) (by decide) (by show _ ≤ 48; omega) (by show _ ≤ 6400; omega) e984 f925 (g := (mkF m 173 #[.val (.int p1), .val (.int ((p1 &&& (2147483647 : Int32)) % (3 : Int32))), .val (.ref b1), .val (.ref b59), .val (.ref b156), .val (.ref b292), .val (.ref b411), .val (.ref b552), .val (.ref b715), .val (.ref ws0), .val (.ref b1), .unset] [(.ref ws0), (.ref b715)])) rfl (by rw [hml]; rfl) [(.ref ws0)] [] (lenOf own_pd_11 rfl) rfl rfl (by show 2 * 0 + _ ≤ _; exact Nat.le_of_eq rfl) (hb hby at_173)
    replace hS := hSn
    replace hZ := hZn
    replace hown := hownn
    clear hSn hZn hownn
    obtain ⟨rfl, Nc987, Kc986⟩ := hQ985
    refine own_go st985 ?_
    have N988 := Fr.app N934 Nc987
    rw [Kc986] at hS
    show own_Go p e below s _ _ _ (T985.setTop (mkF m 176 #[.val (.int p1), .val (.int ((p1 &&& (2147483647 : Int32)) % (3 : Int32))), .val (.ref b1), .val (.ref b59), .val (.ref b156), .val (.ref b292), .val (.ref b411), .val (.ref b552), .val (.ref b715), .val (.ref ws0), .val (.ref b1), .unset] [(.ref b292)]))
    refine own_go (fun _ k => XS.astore X985.here hx rfl (hb hby at_176) rfl rfl (l' := #[.val (.int p1), .val (.int ((p1 &&& (2147483647 : Int32)) % (3 : Int32))), .val (.ref b1), .val (.ref b59), .val (.ref b156), .val (.ref b292), .val (.ref b411), .val (.ref b552), .val (.ref b715), .val (.ref ws0), .val (.ref b1), .val (.ref b292)]) rfl k) ?_
    show own_Go p e below s _ _ _ (T985.setTop (mkF m 178 #[.val (.int p1), .val (.int ((p1 &&& (2147483647 : Int32)) % (3 : Int32))), .val (.ref b1), .val (.ref b59), .val (.ref b156), .val (.ref b292), .val (.ref b411), .val (.ref b552), .val (.ref b715), .val (.ref ws0), .val (.ref b1), .val (.ref b292)] []))
    refine own_go (fun _ k => XS.aload X985.here hx rfl (hb hby at_178) rfl rfl k) ?_
    show own_Go p e below s _ _ _ (T985.setTop (mkF m 180 #[.val (.int p1), .val (.int ((p1 &&& (2147483647 : Int32)) % (3 : Int32))), .val (.ref b1), .val (.ref b59), .val (.ref b156), .val (.ref b292), .val (.ref b411), .val (.ref b552), .val (.ref b715), .val (.ref ws0), .val (.ref b1), .val (.ref b292)] [(.ref b292)]))
    refine own_go (fun _ k => XS.ifnullNo X985.here hx rfl (hb hby at_180) rfl k) ?_
    show own_Go p e below s _ _ _ (T985.setTop (mkF m 183 #[.val (.int p1), .val (.int ((p1 &&& (2147483647 : Int32)) % (3 : Int32))), .val (.ref b1), .val (.ref b59), .val (.ref b156), .val (.ref b292), .val (.ref b411), .val (.ref b552), .val (.ref b715), .val (.ref ws0), .val (.ref b1), .val (.ref b292)] []))
    refine own_go (fun _ k => XS.aload X985.here hx rfl (hb hby at_183) rfl rfl k) ?_
    show own_Go p e below s _ _ _ (T985.setTop (mkF m 185 #[.val (.int p1), .val (.int ((p1 &&& (2147483647 : Int32)) % (3 : Int32))), .val (.ref b1), .val (.ref b59), .val (.ref b156), .val (.ref b292), .val (.ref b411), .val (.ref b552), .val (.ref b715), .val (.ref ws0), .val (.ref b1), .val (.ref b292)] [(.ref b292)]))
    obtain ⟨v989, T989, L989, X989, hSn, hZn, hownn, hQ989, st989⟩ := own_callF (xi := (⟨"java/util/List", "size", "()I"⟩ : MethodName)) (y := (⟨"java/util/ArrayList", "size", "()I"⟩ : MethodName)) X985 hS hx hZ hown (hw _ (List.mem_of_getElem? (i := 126) rfl)) (hw _ (List.mem_of_getElem? (i := 127) rfl)) (hw _ (List.mem_of_getElem? (i := 128) rfl)) (hw _ (List.mem_of_getElem? (i := 129) rfl)) (hw _ (List.mem_of_getElem? (i := 130) rfl)) (hw _ (List.mem_of_getElem? (i := 131) rfl)) (hw _ (List.mem_of_getElem? (i := 132) rfl)) (hw _ (List.mem_of_getElem? (i := 133) rfl)) (hw _ (List.mem_of_getElem? (i := 14) rfl)) (hw _ (List.mem_of_getElem? (i := 134) rfl)) (by decide) (rm_alsize l Z a0 hw oDE oDV oS0 oS1 oS2 oSE0 oSE1 oSE2 oSF0 oSF1 oSF2 oSM oSV [] b292 (1 : Int32) T924.heap O981 f957) 0 0 0 rfl rfl (by decide) (by decide) (by decide) (by show _ ≤ 48; omega) (by show _ ≤ 6400; omega) Kc986 f956 (g := (mkF m 185 #[.val (.int p1), .val (.int ((p1 &&& (2147483647 : Int32)) % (3 : Int32))), .val (.ref b1), .val (.ref b59), .val (.ref b156), .val (.ref b292), .val (.ref b411), .val (.ref b552), .val (.ref b715), .val (.ref ws0), .val (.ref b1), .val (.ref b292)] [(.ref b292)])) rfl (by rw [hml]; rfl) [] [] (lenOf own_pd_7 rfl) rfl rfl (by show 2 * 0 + _ ≤ _; exact Nat.le_of_eq rfl) (hb hby at_185)
    replace hS := hSn
    replace hZ := hZn
    replace hown := hownn
    clear hSn hZn hownn
    obtain ⟨rfl, Nc991, Kc990⟩ := hQ989
    refine own_go st989 ?_
    have N992 := Fr.app N988 Nc991
    rw [Kc990] at hS
    show own_Go p e below s _ _ _ (T989.setTop (mkF m 190 #[.val (.int p1), .val (.int ((p1 &&& (2147483647 : Int32)) % (3 : Int32))), .val (.ref b1), .val (.ref b59), .val (.ref b156), .val (.ref b292), .val (.ref b411), .val (.ref b552), .val (.ref b715), .val (.ref ws0), .val (.ref b1), .val (.ref b292)] [(.int (1 : Int32))]))
    refine own_go (fun _ k => XS.iconst X989.here hx rfl (hb hby at_190) k) ?_
    show own_Go p e below s _ _ _ (T989.setTop (mkF m 191 #[.val (.int p1), .val (.int ((p1 &&& (2147483647 : Int32)) % (3 : Int32))), .val (.ref b1), .val (.ref b59), .val (.ref b156), .val (.ref b292), .val (.ref b411), .val (.ref b552), .val (.ref b715), .val (.ref ws0), .val (.ref b1), .val (.ref b292)] [(.int (1 : Int32)), (.int (1 : Int32))]))
    refine own_go (fun _ k => XS.icmpNo X989.here hx rfl (hb hby at_191) rfl (teq (by decide : (1 : Int32) = (1 : Int32))).2 k) ?_
    show own_Go p e below s _ _ _ (T989.setTop (mkF m 194 #[.val (.int p1), .val (.int ((p1 &&& (2147483647 : Int32)) % (3 : Int32))), .val (.ref b1), .val (.ref b59), .val (.ref b156), .val (.ref b292), .val (.ref b411), .val (.ref b552), .val (.ref b715), .val (.ref ws0), .val (.ref b1), .val (.ref b292)] []))
    refine own_go (fun _ k => XS.aload X989.here hx rfl (hb hby at_194) rfl rfl k) ?_
    show own_Go p e below s _ _ _ (T989.setTop (mkF m 196 #[.val (.int p1), .val (.int ((p1 &&& (2147483647 : Int32)) % (3 : Int32))), .val (.ref b1), .val (.ref b59), .val (.ref b156), .val (.ref b292), .val (.ref b411), .val (.ref b552), .val (.ref b715), .val (.ref ws0), .val (.ref b1), .val (.ref b292)] [(.ref b292)]))
    refine own_go (fun _ k => XS.iconst X989.here hx rfl (hb hby at_196) k) ?_
    show own_Go p e below s _ _ _ (T989.setTop (mkF m 197 #[.val (.int p1), .val (.int ((p1 &&& (2147483647 : Int32)) % (3 : Int32))), .val (.ref b1), .val (.ref b59), .val (.ref b156), .val (.ref b292), .val (.ref b411), .val (.ref b552), .val (.ref b715), .val (.ref ws0), .val (.ref b1), .val (.ref b292)] [(.int (0 : Int32)), (.ref b292)]))
    obtain ⟨v993, T993, L993, X993, hSn, hZn, hownn, hQ993, st993⟩ := own_callF (xi := (⟨"java/util/List", "get", "(I)Ljava/lang/Object;"⟩ : MethodName)) (y := (⟨"java/util/ArrayList", "get", "(I)Ljava/lang/Object;"⟩ : MethodName)) X989 hS hx hZ hown (hw _ (List.mem_of_getElem? (i := 135) rfl)) (hw _ (List.mem_of_getElem? (i := 136) rfl)) (hw _ (List.mem_of_getElem? (i := 137) rfl)) (hw _ (List.mem_of_getElem? (i := 138) rfl)) (hw _ (List.mem_of_getElem? (i := 139) rfl)) (hw _ (List.mem_of_getElem? (i := 140) rfl)) (hw _ (List.mem_of_getElem? (i := 141) rfl)) (hw _ (List.mem_of_getElem? (i := 133) rfl)) (hw _ (List.mem_of_getElem? (i := 14) rfl)) (hw _ (List.mem_of_getElem? (i := 142) rfl)) (by decide) (rm_alget_1_0 l Z a0 hw oDE oDV oS0 oS1 oS2 oSE0 oSE1 oSE2 oSF0 oSF1 oSF2 oSM oSV [] b292 w363 w364 b1 T924.heap O981 f956 f957 f958 f960) 0 0 0 rfl rfl (by decide) (by decide) (by decide) (by show _ ≤ 48; omega) (by show _ ≤ 6400; omega) Kc990 f956 (g := (mkF m 197 #[.val (.int p1), .val (.int ((p1 &&& (2147483647 : Int32)) % (3 : Int32))), .val (.ref b1), .val (.ref b59), .val (.ref b156), .val (.ref b292), .val (.ref b411), .val (.ref b552), .val (.ref b715), .val (.ref ws0), .val (.ref b1), .val (.ref b292)] [(.int (0 : Int32)), (.ref b292)])) rfl (by rw [hml]; rfl) [(.int (0 : Int32))] [] (lenOf own_pd_6 rfl) rfl rfl (by show 2 * 0 + _ ≤ _; exact Nat.le_of_eq rfl) (hb hby at_197)
    replace hS := hSn
    replace hZ := hZn
    replace hown := hownn
    clear hSn hZn hownn
    obtain ⟨rfl, Nc995, Kc994⟩ := hQ993
    refine own_go st993 ?_
    have N996 := Fr.app N992 Nc995
    rw [Kc994] at hS
    show own_Go p e below s _ _ _ (T993.setTop (mkF m 202 #[.val (.int p1), .val (.int ((p1 &&& (2147483647 : Int32)) % (3 : Int32))), .val (.ref b1), .val (.ref b59), .val (.ref b156), .val (.ref b292), .val (.ref b411), .val (.ref b552), .val (.ref b715), .val (.ref ws0), .val (.ref b1), .val (.ref b292)] [(.ref b1)]))
    refine own_go (fun _ k => XS.aload X993.here hx rfl (hb hby at_202) rfl rfl k) ?_
    show own_Go p e below s _ _ _ (T993.setTop (mkF m 204 #[.val (.int p1), .val (.int ((p1 &&& (2147483647 : Int32)) % (3 : Int32))), .val (.ref b1), .val (.ref b59), .val (.ref b156), .val (.ref b292), .val (.ref b411), .val (.ref b552), .val (.ref b715), .val (.ref ws0), .val (.ref b1), .val (.ref b292)] [(.ref b1), (.ref b1)]))
    refine own_go (fun _ k => Jvm.RoadKit.acmp (g := (mkF m 204 #[.val (.int p1), .val (.int ((p1 &&& (2147483647 : Int32)) % (3 : Int32))), .val (.ref b1), .val (.ref b59), .val (.ref b156), .val (.ref b292), .val (.ref b411), .val (.ref b552), .val (.ref b715), .val (.ref ws0), .val (.ref b1), .val (.ref b292)] [(.ref b1), (.ref b1)])) X993 hx rfl rfl rfl (pc0 := 204) (pc' := 207) (same := true) rfl (hb hby at_204) rfl (decide_eq_true rfl) (by decide) (by decide) k) ?_
    show own_Go p e below s _ _ _ (T993.setTop (mkF m 207 #[.val (.int p1), .val (.int ((p1 &&& (2147483647 : Int32)) % (3 : Int32))), .val (.ref b1), .val (.ref b59), .val (.ref b156), .val (.ref b292), .val (.ref b411), .val (.ref b552), .val (.ref b715), .val (.ref ws0), .val (.ref b1), .val (.ref b292)] []))
    refine own_go (fun _ k => XS.iconst X993.here hx rfl (hb hby at_207) k) ?_
    show own_Go p e below s _ _ _ (T993.setTop (mkF m 208 #[.val (.int p1), .val (.int ((p1 &&& (2147483647 : Int32)) % (3 : Int32))), .val (.ref b1), .val (.ref b59), .val (.ref b156), .val (.ref b292), .val (.ref b411), .val (.ref b552), .val (.ref b715), .val (.ref ws0), .val (.ref b1), .val (.ref b292)] [(.int (1 : Int32))]))
    refine own_go (fun _ k => XS.goto X993.here hx rfl (pc0 := 208) (pc' := 212) rfl (hb hby at_208) (by decide) (by decide) k) ?_
    show own_Go p e below s _ _ _ (T993.setTop (mkF m 212 #[.val (.int p1), .val (.int ((p1 &&& (2147483647 : Int32)) % (3 : Int32))), .val (.ref b1), .val (.ref b59), .val (.ref b156), .val (.ref b292), .val (.ref b411), .val (.ref b552), .val (.ref b715), .val (.ref ws0), .val (.ref b1), .val (.ref b292)] [(.int (1 : Int32))]))
    refine own_retN X993 hS hx hlk Kc994 (t := .boolean) hret (by simp) (hb hby at_212) (by show _ ≤ 48; omega) (by show _ ≤ 6400; omega) ?_
    exact ⟨rfl, N996, K982⟩
  · refine own_go (fun _ k => XS.ifYes X924.here hx rfl (pc0 := 130) (pc' := 144) rfl (hb hby at_130) rfl ((if0 _ _).trans (feq hc983).2) (by decide) (by decide) k) ?_
    show own_Go p e below s _ _ _ (T924.setTop (mkF m 144 #[.val (.int p1), .val (.int ((p1 &&& (2147483647 : Int32)) % (3 : Int32))), .val (.ref b1), .val (.ref b59), .val (.ref b156), .val (.ref b292), .val (.ref b411), .val (.ref b552), .val (.ref b715), .unset, .unset, .unset] []))
    refine own_go (fun _ k => XS.iloadN X924.here hx rfl (hb hby at_144) rfl k) ?_
    show own_Go p e below s _ _ _ (T924.setTop (mkF m 145 #[.val (.int p1), .val (.int ((p1 &&& (2147483647 : Int32)) % (3 : Int32))), .val (.ref b1), .val (.ref b59), .val (.ref b156), .val (.ref b292), .val (.ref b411), .val (.ref b552), .val (.ref b715), .unset, .unset, .unset] [(.int ((p1 &&& (2147483647 : Int32)) % (3 : Int32)))]))
    refine own_go (fun _ k => XS.iconst X924.here hx rfl (hb hby at_145) k) ?_
    show own_Go p e below s _ _ _ (T924.setTop (mkF m 146 #[.val (.int p1), .val (.int ((p1 &&& (2147483647 : Int32)) % (3 : Int32))), .val (.ref b1), .val (.ref b59), .val (.ref b156), .val (.ref b292), .val (.ref b411), .val (.ref b552), .val (.ref b715), .unset, .unset, .unset] [(.int (1 : Int32)), (.int ((p1 &&& (2147483647 : Int32)) % (3 : Int32)))]))
    by_cases hc997 : ((p1 &&& (2147483647 : Int32)) % (3 : Int32)) = (1 : Int32)
    · refine own_go (fun _ k => XS.icmpNo X924.here hx rfl (hb hby at_146) rfl (teq hc997).2 k) ?_
      show own_Go p e below s _ _ _ (T924.setTop (mkF m 149 #[.val (.int p1), .val (.int ((p1 &&& (2147483647 : Int32)) % (3 : Int32))), .val (.ref b1), .val (.ref b59), .val (.ref b156), .val (.ref b292), .val (.ref b411), .val (.ref b552), .val (.ref b715), .unset, .unset, .unset] []))
      obtain ⟨T998, X998, e998, st998⟩ := getS2 X924 hx hZ hown (host := "") (Or.inl (hw _ (List.mem_of_getElem? (i := 158) rfl))) Via.refl (rfl : T924.heap = T924.heap) (oS1.ext O981) (g := (mkF m 149 #[.val (.int p1), .val (.int ((p1 &&& (2147483647 : Int32)) % (3 : Int32))), .val (.ref b1), .val (.ref b59), .val (.ref b156), .val (.ref b292), .val (.ref b411), .val (.ref b552), .val (.ref b715), .unset, .unset, .unset] [])) rfl (hb hby at_149)
      refine own_go st998 ?_
      show own_Go p e below s _ _ _ (T998.setTop (mkF m 152 #[.val (.int p1), .val (.int ((p1 &&& (2147483647 : Int32)) % (3 : Int32))), .val (.ref b1), .val (.ref b59), .val (.ref b156), .val (.ref b292), .val (.ref b411), .val (.ref b552), .val (.ref b715), .unset, .unset, .unset] [(.ref ws1)]))
      refine own_go (fun _ k => XS.astore X998.here hx rfl (hb hby at_152) rfl rfl (l' := #[.val (.int p1), .val (.int ((p1 &&& (2147483647 : Int32)) % (3 : Int32))), .val (.ref b1), .val (.ref b59), .val (.ref b156), .val (.ref b292), .val (.ref b411), .val (.ref b552), .val (.ref b715), .val (.ref ws1), .unset, .unset]) rfl k) ?_
      show own_Go p e below s _ _ _ (T998.setTop (mkF m 154 #[.val (.int p1), .val (.int ((p1 &&& (2147483647 : Int32)) % (3 : Int32))), .val (.ref b1), .val (.ref b59), .val (.ref b156), .val (.ref b292), .val (.ref b411), .val (.ref b552), .val (.ref b715), .val (.ref ws1), .unset, .unset] []))
      refine own_go (fun _ k => XS.aloadN X998.here hx rfl (hb hby at_154) rfl rfl k) ?_
      show own_Go p e below s _ _ _ (T998.setTop (mkF m 155 #[.val (.int p1), .val (.int ((p1 &&& (2147483647 : Int32)) % (3 : Int32))), .val (.ref b1), .val (.ref b59), .val (.ref b156), .val (.ref b292), .val (.ref b411), .val (.ref b552), .val (.ref b715), .val (.ref ws1), .unset, .unset] [(.ref b59)]))
      refine own_go (fun _ k => XS.astore X998.here hx rfl (hb hby at_155) rfl rfl (l' := #[.val (.int p1), .val (.int ((p1 &&& (2147483647 : Int32)) % (3 : Int32))), .val (.ref b1), .val (.ref b59), .val (.ref b156), .val (.ref b292), .val (.ref b411), .val (.ref b552), .val (.ref b715), .val (.ref ws1), .val (.ref b59), .unset]) rfl k) ?_
      show own_Go p e below s _ _ _ (T998.setTop (mkF m 157 #[.val (.int p1), .val (.int ((p1 &&& (2147483647 : Int32)) % (3 : Int32))), .val (.ref b1), .val (.ref b59), .val (.ref b156), .val (.ref b292), .val (.ref b411), .val (.ref b552), .val (.ref b715), .val (.ref ws1), .val (.ref b59), .unset] []))
      refine own_go (fun _ k => XS.goto X998.here hx rfl (pc0 := 157) (pc' := 169) rfl (hb hby at_157) (by decide) (by decide) k) ?_
      show own_Go p e below s _ _ _ (T998.setTop (mkF m 169 #[.val (.int p1), .val (.int ((p1 &&& (2147483647 : Int32)) % (3 : Int32))), .val (.ref b1), .val (.ref b59), .val (.ref b156), .val (.ref b292), .val (.ref b411), .val (.ref b552), .val (.ref b715), .val (.ref ws1), .val (.ref b59), .unset] []))
      refine own_go (fun _ k => XS.aload X998.here hx rfl (hb hby at_169) rfl rfl k) ?_
      show own_Go p e below s _ _ _ (T998.setTop (mkF m 171 #[.val (.int p1), .val (.int ((p1 &&& (2147483647 : Int32)) % (3 : Int32))), .val (.ref b1), .val (.ref b59), .val (.ref b156), .val (.ref b292), .val (.ref b411), .val (.ref b552), .val (.ref b715), .val (.ref ws1), .val (.ref b59), .unset] [(.ref b715)]))
      refine own_go (fun _ k => XS.aload X998.here hx rfl (hb hby at_171) rfl rfl k) ?_
      show own_Go p e below s _ _ _ (T998.setTop (mkF m 173 #[.val (.int p1), .val (.int ((p1 &&& (2147483647 : Int32)) % (3 : Int32))), .val (.ref b1), .val (.ref b59), .val (.ref b156), .val (.ref b292), .val (.ref b411), .val (.ref b552), .val (.ref b715), .val (.ref ws1), .val (.ref b59), .unset] [(.ref ws1), (.ref b715)]))
      obtain ⟨v999, T999, L999, X999, hSn, hZn, hownn, hQ999, st999⟩ := own_callV (y := (⟨"com/example/slotsholmen/slotsholmen/schema/ObjectClass", "groups", "(Lcom/example/slotsholmen/slotsholmen/schema/Section;)Ljava/util/List;"⟩ : MethodName)) (z := (⟨"com/example/slotsholmen/slotsholmen/schema/ObjectClass", "groups", "(Lcom/example/slotsholmen/slotsholmen/schema/Section;)Ljava/util/List;"⟩ : MethodName)) X998 hS hx hZ hown (hw _ (List.mem_of_getElem? (i := 109) rfl)) (hw _ (List.mem_of_getElem? (i := 110) rfl)) (notFace_of_selects (args := #[]) (mvT hZ (hw _ (List.mem_of_getElem? (i := 112) rfl)))) (hw _ (List.mem_of_getElem? (i := 112) rfl)) (hw _ (List.mem_of_getElem? (i := 111) rfl)) (hw _ (List.mem_of_getElem? (i := 86) rfl)) (hw _ (List.mem_of_getElem? (i := 113) rfl)) (rm_groups1 l Z a0 hw oDE oDV oS0 oS1 oS2 oSE0 oSE1 oSE2 oSF0 oSF1 oSF2 oSM oSV [] b715 b411 T924.heap O981 f930) 0 0 0 rfl rfl (by decide) (by decide) (by decide) (by show _ ≤ 48; omega) (by show _ ≤ 6400; omega) e998 f925 (g := (mkF m 173 #[.val (.int p1), .val (.int ((p1 &&& (2147483647 : Int32)) % (3 : Int32))), .val (.ref b1), .val (.ref b59), .val (.ref b156), .val (.ref b292), .val (.ref b411), .val (.ref b552), .val (.ref b715), .val (.ref ws1), .val (.ref b59), .unset] [(.ref ws1), (.ref b715)])) rfl (by rw [hml]; rfl) [(.ref ws1)] [] (lenOf own_pd_11 rfl) rfl rfl (by show 2 * 0 + _ ≤ _; exact Nat.le_of_eq rfl) (hb hby at_173)
      replace hS := hSn
      replace hZ := hZn
      replace hown := hownn
      clear hSn hZn hownn
      obtain ⟨rfl, Nc1001, Kc1000⟩ := hQ999
      refine own_go st999 ?_
      have N1002 := Fr.app N934 Nc1001
      rw [Kc1000] at hS
      show own_Go p e below s _ _ _ (T999.setTop (mkF m 176 #[.val (.int p1), .val (.int ((p1 &&& (2147483647 : Int32)) % (3 : Int32))), .val (.ref b1), .val (.ref b59), .val (.ref b156), .val (.ref b292), .val (.ref b411), .val (.ref b552), .val (.ref b715), .val (.ref ws1), .val (.ref b59), .unset] [(.ref b411)]))
      refine own_go (fun _ k => XS.astore X999.here hx rfl (hb hby at_176) rfl rfl (l' := #[.val (.int p1), .val (.int ((p1 &&& (2147483647 : Int32)) % (3 : Int32))), .val (.ref b1), .val (.ref b59), .val (.ref b156), .val (.ref b292), .val (.ref b411), .val (.ref b552), .val (.ref b715), .val (.ref ws1), .val (.ref b59), .val (.ref b411)]) rfl k) ?_
      show own_Go p e below s _ _ _ (T999.setTop (mkF m 178 #[.val (.int p1), .val (.int ((p1 &&& (2147483647 : Int32)) % (3 : Int32))), .val (.ref b1), .val (.ref b59), .val (.ref b156), .val (.ref b292), .val (.ref b411), .val (.ref b552), .val (.ref b715), .val (.ref ws1), .val (.ref b59), .val (.ref b411)] []))
      refine own_go (fun _ k => XS.aload X999.here hx rfl (hb hby at_178) rfl rfl k) ?_
      show own_Go p e below s _ _ _ (T999.setTop (mkF m 180 #[.val (.int p1), .val (.int ((p1 &&& (2147483647 : Int32)) % (3 : Int32))), .val (.ref b1), .val (.ref b59), .val (.ref b156), .val (.ref b292), .val (.ref b411), .val (.ref b552), .val (.ref b715), .val (.ref ws1), .val (.ref b59), .val (.ref b411)] [(.ref b411)]))
      refine own_go (fun _ k => XS.ifnullNo X999.here hx rfl (hb hby at_180) rfl k) ?_
      show own_Go p e below s _ _ _ (T999.setTop (mkF m 183 #[.val (.int p1), .val (.int ((p1 &&& (2147483647 : Int32)) % (3 : Int32))), .val (.ref b1), .val (.ref b59), .val (.ref b156), .val (.ref b292), .val (.ref b411), .val (.ref b552), .val (.ref b715), .val (.ref ws1), .val (.ref b59), .val (.ref b411)] []))
      refine own_go (fun _ k => XS.aload X999.here hx rfl (hb hby at_183) rfl rfl k) ?_
      show own_Go p e below s _ _ _ (T999.setTop (mkF m 185 #[.val (.int p1), .val (.int ((p1 &&& (2147483647 : Int32)) % (3 : Int32))), .val (.ref b1), .val (.ref b59), .val (.ref b156), .val (.ref b292), .val (.ref b411), .val (.ref b552), .val (.ref b715), .val (.ref ws1), .val (.ref b59), .val (.ref b411)] [(.ref b411)]))
      obtain ⟨v1003, T1003, L1003, X1003, hSn, hZn, hownn, hQ1003, st1003⟩ := own_callF (xi := (⟨"java/util/List", "size", "()I"⟩ : MethodName)) (y := (⟨"java/util/ArrayList", "size", "()I"⟩ : MethodName)) X999 hS hx hZ hown (hw _ (List.mem_of_getElem? (i := 126) rfl)) (hw _ (List.mem_of_getElem? (i := 127) rfl)) (hw _ (List.mem_of_getElem? (i := 128) rfl)) (hw _ (List.mem_of_getElem? (i := 129) rfl)) (hw _ (List.mem_of_getElem? (i := 130) rfl)) (hw _ (List.mem_of_getElem? (i := 131) rfl)) (hw _ (List.mem_of_getElem? (i := 132) rfl)) (hw _ (List.mem_of_getElem? (i := 133) rfl)) (hw _ (List.mem_of_getElem? (i := 14) rfl)) (hw _ (List.mem_of_getElem? (i := 134) rfl)) (by decide) (rm_alsize l Z a0 hw oDE oDV oS0 oS1 oS2 oSE0 oSE1 oSE2 oSF0 oSF1 oSF2 oSM oSV [] b411 (1 : Int32) T924.heap O981 f963) 0 0 0 rfl rfl (by decide) (by decide) (by decide) (by show _ ≤ 48; omega) (by show _ ≤ 6400; omega) Kc1000 f962 (g := (mkF m 185 #[.val (.int p1), .val (.int ((p1 &&& (2147483647 : Int32)) % (3 : Int32))), .val (.ref b1), .val (.ref b59), .val (.ref b156), .val (.ref b292), .val (.ref b411), .val (.ref b552), .val (.ref b715), .val (.ref ws1), .val (.ref b59), .val (.ref b411)] [(.ref b411)])) rfl (by rw [hml]; rfl) [] [] (lenOf own_pd_7 rfl) rfl rfl (by show 2 * 0 + _ ≤ _; exact Nat.le_of_eq rfl) (hb hby at_185)
      replace hS := hSn
      replace hZ := hZn
      replace hown := hownn
      clear hSn hZn hownn
      obtain ⟨rfl, Nc1005, Kc1004⟩ := hQ1003
      refine own_go st1003 ?_
      have N1006 := Fr.app N1002 Nc1005
      rw [Kc1004] at hS
      show own_Go p e below s _ _ _ (T1003.setTop (mkF m 190 #[.val (.int p1), .val (.int ((p1 &&& (2147483647 : Int32)) % (3 : Int32))), .val (.ref b1), .val (.ref b59), .val (.ref b156), .val (.ref b292), .val (.ref b411), .val (.ref b552), .val (.ref b715), .val (.ref ws1), .val (.ref b59), .val (.ref b411)] [(.int (1 : Int32))]))
      refine own_go (fun _ k => XS.iconst X1003.here hx rfl (hb hby at_190) k) ?_
      show own_Go p e below s _ _ _ (T1003.setTop (mkF m 191 #[.val (.int p1), .val (.int ((p1 &&& (2147483647 : Int32)) % (3 : Int32))), .val (.ref b1), .val (.ref b59), .val (.ref b156), .val (.ref b292), .val (.ref b411), .val (.ref b552), .val (.ref b715), .val (.ref ws1), .val (.ref b59), .val (.ref b411)] [(.int (1 : Int32)), (.int (1 : Int32))]))
      refine own_go (fun _ k => XS.icmpNo X1003.here hx rfl (hb hby at_191) rfl (teq (by decide : (1 : Int32) = (1 : Int32))).2 k) ?_
      show own_Go p e below s _ _ _ (T1003.setTop (mkF m 194 #[.val (.int p1), .val (.int ((p1 &&& (2147483647 : Int32)) % (3 : Int32))), .val (.ref b1), .val (.ref b59), .val (.ref b156), .val (.ref b292), .val (.ref b411), .val (.ref b552), .val (.ref b715), .val (.ref ws1), .val (.ref b59), .val (.ref b411)] []))
      refine own_go (fun _ k => XS.aload X1003.here hx rfl (hb hby at_194) rfl rfl k) ?_
      show own_Go p e below s _ _ _ (T1003.setTop (mkF m 196 #[.val (.int p1), .val (.int ((p1 &&& (2147483647 : Int32)) % (3 : Int32))), .val (.ref b1), .val (.ref b59), .val (.ref b156), .val (.ref b292), .val (.ref b411), .val (.ref b552), .val (.ref b715), .val (.ref ws1), .val (.ref b59), .val (.ref b411)] [(.ref b411)]))
      refine own_go (fun _ k => XS.iconst X1003.here hx rfl (hb hby at_196) k) ?_
      show own_Go p e below s _ _ _ (T1003.setTop (mkF m 197 #[.val (.int p1), .val (.int ((p1 &&& (2147483647 : Int32)) % (3 : Int32))), .val (.ref b1), .val (.ref b59), .val (.ref b156), .val (.ref b292), .val (.ref b411), .val (.ref b552), .val (.ref b715), .val (.ref ws1), .val (.ref b59), .val (.ref b411)] [(.int (0 : Int32)), (.ref b411)]))
      obtain ⟨v1007, T1007, L1007, X1007, hSn, hZn, hownn, hQ1007, st1007⟩ := own_callF (xi := (⟨"java/util/List", "get", "(I)Ljava/lang/Object;"⟩ : MethodName)) (y := (⟨"java/util/ArrayList", "get", "(I)Ljava/lang/Object;"⟩ : MethodName)) X1003 hS hx hZ hown (hw _ (List.mem_of_getElem? (i := 135) rfl)) (hw _ (List.mem_of_getElem? (i := 136) rfl)) (hw _ (List.mem_of_getElem? (i := 137) rfl)) (hw _ (List.mem_of_getElem? (i := 138) rfl)) (hw _ (List.mem_of_getElem? (i := 139) rfl)) (hw _ (List.mem_of_getElem? (i := 140) rfl)) (hw _ (List.mem_of_getElem? (i := 141) rfl)) (hw _ (List.mem_of_getElem? (i := 133) rfl)) (hw _ (List.mem_of_getElem? (i := 14) rfl)) (hw _ (List.mem_of_getElem? (i := 142) rfl)) (by decide) (rm_alget_1_0 l Z a0 hw oDE oDV oS0 oS1 oS2 oSE0 oSE1 oSE2 oSF0 oSF1 oSF2 oSM oSV [] b411 w496 w497 b59 T924.heap O981 f962 f963 f964 f966) 0 0 0 rfl rfl (by decide) (by decide) (by decide) (by show _ ≤ 48; omega) (by show _ ≤ 6400; omega) Kc1004 f962 (g := (mkF m 197 #[.val (.int p1), .val (.int ((p1 &&& (2147483647 : Int32)) % (3 : Int32))), .val (.ref b1), .val (.ref b59), .val (.ref b156), .val (.ref b292), .val (.ref b411), .val (.ref b552), .val (.ref b715), .val (.ref ws1), .val (.ref b59), .val (.ref b411)] [(.int (0 : Int32)), (.ref b411)])) rfl (by rw [hml]; rfl) [(.int (0 : Int32))] [] (lenOf own_pd_6 rfl) rfl rfl (by show 2 * 0 + _ ≤ _; exact Nat.le_of_eq rfl) (hb hby at_197)
      replace hS := hSn
      replace hZ := hZn
      replace hown := hownn
      clear hSn hZn hownn
      obtain ⟨rfl, Nc1009, Kc1008⟩ := hQ1007
      refine own_go st1007 ?_
      have N1010 := Fr.app N1006 Nc1009
      rw [Kc1008] at hS
      show own_Go p e below s _ _ _ (T1007.setTop (mkF m 202 #[.val (.int p1), .val (.int ((p1 &&& (2147483647 : Int32)) % (3 : Int32))), .val (.ref b1), .val (.ref b59), .val (.ref b156), .val (.ref b292), .val (.ref b411), .val (.ref b552), .val (.ref b715), .val (.ref ws1), .val (.ref b59), .val (.ref b411)] [(.ref b59)]))
      refine own_go (fun _ k => XS.aload X1007.here hx rfl (hb hby at_202) rfl rfl k) ?_
      show own_Go p e below s _ _ _ (T1007.setTop (mkF m 204 #[.val (.int p1), .val (.int ((p1 &&& (2147483647 : Int32)) % (3 : Int32))), .val (.ref b1), .val (.ref b59), .val (.ref b156), .val (.ref b292), .val (.ref b411), .val (.ref b552), .val (.ref b715), .val (.ref ws1), .val (.ref b59), .val (.ref b411)] [(.ref b59), (.ref b59)]))
      refine own_go (fun _ k => Jvm.RoadKit.acmp (g := (mkF m 204 #[.val (.int p1), .val (.int ((p1 &&& (2147483647 : Int32)) % (3 : Int32))), .val (.ref b1), .val (.ref b59), .val (.ref b156), .val (.ref b292), .val (.ref b411), .val (.ref b552), .val (.ref b715), .val (.ref ws1), .val (.ref b59), .val (.ref b411)] [(.ref b59), (.ref b59)])) X1007 hx rfl rfl rfl (pc0 := 204) (pc' := 207) (same := true) rfl (hb hby at_204) rfl (decide_eq_true rfl) (by decide) (by decide) k) ?_
      show own_Go p e below s _ _ _ (T1007.setTop (mkF m 207 #[.val (.int p1), .val (.int ((p1 &&& (2147483647 : Int32)) % (3 : Int32))), .val (.ref b1), .val (.ref b59), .val (.ref b156), .val (.ref b292), .val (.ref b411), .val (.ref b552), .val (.ref b715), .val (.ref ws1), .val (.ref b59), .val (.ref b411)] []))
      refine own_go (fun _ k => XS.iconst X1007.here hx rfl (hb hby at_207) k) ?_
      show own_Go p e below s _ _ _ (T1007.setTop (mkF m 208 #[.val (.int p1), .val (.int ((p1 &&& (2147483647 : Int32)) % (3 : Int32))), .val (.ref b1), .val (.ref b59), .val (.ref b156), .val (.ref b292), .val (.ref b411), .val (.ref b552), .val (.ref b715), .val (.ref ws1), .val (.ref b59), .val (.ref b411)] [(.int (1 : Int32))]))
      refine own_go (fun _ k => XS.goto X1007.here hx rfl (pc0 := 208) (pc' := 212) rfl (hb hby at_208) (by decide) (by decide) k) ?_
      show own_Go p e below s _ _ _ (T1007.setTop (mkF m 212 #[.val (.int p1), .val (.int ((p1 &&& (2147483647 : Int32)) % (3 : Int32))), .val (.ref b1), .val (.ref b59), .val (.ref b156), .val (.ref b292), .val (.ref b411), .val (.ref b552), .val (.ref b715), .val (.ref ws1), .val (.ref b59), .val (.ref b411)] [(.int (1 : Int32))]))
      refine own_retN X1007 hS hx hlk Kc1008 (t := .boolean) hret (by simp) (hb hby at_212) (by show _ ≤ 48; omega) (by show _ ≤ 6400; omega) ?_
      exact ⟨rfl, N1010, K982⟩
    · refine own_go (fun _ k => XS.icmpYes X924.here hx rfl (pc0 := 146) (pc' := 160) rfl (hb hby at_146) rfl (feq hc997).2 (by decide) (by decide) k) ?_
      show own_Go p e below s _ _ _ (T924.setTop (mkF m 160 #[.val (.int p1), .val (.int ((p1 &&& (2147483647 : Int32)) % (3 : Int32))), .val (.ref b1), .val (.ref b59), .val (.ref b156), .val (.ref b292), .val (.ref b411), .val (.ref b552), .val (.ref b715), .unset, .unset, .unset] []))
      obtain ⟨T1011, X1011, e1011, st1011⟩ := getS2 X924 hx hZ hown (host := "") (Or.inl (hw _ (List.mem_of_getElem? (i := 156) rfl))) Via.refl (rfl : T924.heap = T924.heap) (oS2.ext O981) (g := (mkF m 160 #[.val (.int p1), .val (.int ((p1 &&& (2147483647 : Int32)) % (3 : Int32))), .val (.ref b1), .val (.ref b59), .val (.ref b156), .val (.ref b292), .val (.ref b411), .val (.ref b552), .val (.ref b715), .unset, .unset, .unset] [])) rfl (hb hby at_160)
      refine own_go st1011 ?_
      show own_Go p e below s _ _ _ (T1011.setTop (mkF m 163 #[.val (.int p1), .val (.int ((p1 &&& (2147483647 : Int32)) % (3 : Int32))), .val (.ref b1), .val (.ref b59), .val (.ref b156), .val (.ref b292), .val (.ref b411), .val (.ref b552), .val (.ref b715), .unset, .unset, .unset] [(.ref ws2)]))
      refine own_go (fun _ k => XS.astore X1011.here hx rfl (hb hby at_163) rfl rfl (l' := #[.val (.int p1), .val (.int ((p1 &&& (2147483647 : Int32)) % (3 : Int32))), .val (.ref b1), .val (.ref b59), .val (.ref b156), .val (.ref b292), .val (.ref b411), .val (.ref b552), .val (.ref b715), .val (.ref ws2), .unset, .unset]) rfl k) ?_
      show own_Go p e below s _ _ _ (T1011.setTop (mkF m 165 #[.val (.int p1), .val (.int ((p1 &&& (2147483647 : Int32)) % (3 : Int32))), .val (.ref b1), .val (.ref b59), .val (.ref b156), .val (.ref b292), .val (.ref b411), .val (.ref b552), .val (.ref b715), .val (.ref ws2), .unset, .unset] []))
      refine own_go (fun _ k => XS.aload X1011.here hx rfl (hb hby at_165) rfl rfl k) ?_
      show own_Go p e below s _ _ _ (T1011.setTop (mkF m 167 #[.val (.int p1), .val (.int ((p1 &&& (2147483647 : Int32)) % (3 : Int32))), .val (.ref b1), .val (.ref b59), .val (.ref b156), .val (.ref b292), .val (.ref b411), .val (.ref b552), .val (.ref b715), .val (.ref ws2), .unset, .unset] [(.ref b156)]))
      refine own_go (fun _ k => XS.astore X1011.here hx rfl (hb hby at_167) rfl rfl (l' := #[.val (.int p1), .val (.int ((p1 &&& (2147483647 : Int32)) % (3 : Int32))), .val (.ref b1), .val (.ref b59), .val (.ref b156), .val (.ref b292), .val (.ref b411), .val (.ref b552), .val (.ref b715), .val (.ref ws2), .val (.ref b156), .unset]) rfl k) ?_
      show own_Go p e below s _ _ _ (T1011.setTop (mkF m 169 #[.val (.int p1), .val (.int ((p1 &&& (2147483647 : Int32)) % (3 : Int32))), .val (.ref b1), .val (.ref b59), .val (.ref b156), .val (.ref b292), .val (.ref b411), .val (.ref b552), .val (.ref b715), .val (.ref ws2), .val (.ref b156), .unset] []))
      refine own_go (fun _ k => XS.aload X1011.here hx rfl (hb hby at_169) rfl rfl k) ?_
      show own_Go p e below s _ _ _ (T1011.setTop (mkF m 171 #[.val (.int p1), .val (.int ((p1 &&& (2147483647 : Int32)) % (3 : Int32))), .val (.ref b1), .val (.ref b59), .val (.ref b156), .val (.ref b292), .val (.ref b411), .val (.ref b552), .val (.ref b715), .val (.ref ws2), .val (.ref b156), .unset] [(.ref b715)]))
      refine own_go (fun _ k => XS.aload X1011.here hx rfl (hb hby at_171) rfl rfl k) ?_
      show own_Go p e below s _ _ _ (T1011.setTop (mkF m 173 #[.val (.int p1), .val (.int ((p1 &&& (2147483647 : Int32)) % (3 : Int32))), .val (.ref b1), .val (.ref b59), .val (.ref b156), .val (.ref b292), .val (.ref b411), .val (.ref b552), .val (.ref b715), .val (.ref ws2), .val (.ref b156), .unset] [(.ref ws2), (.ref b715)]))
      obtain ⟨v1012, T1012, L1012, X1012, hSn, hZn, hownn, hQ1012, st1012⟩ := own_callV (y := (⟨"com/example/slotsholmen/slotsholmen/schema/ObjectClass", "groups", "(Lcom/example/slotsholmen/slotsholmen/schema/Section;)Ljava/util/List;"⟩ : MethodName)) (z := (⟨"com/example/slotsholmen/slotsholmen/schema/ObjectClass", "groups", "(Lcom/example/slotsholmen/slotsholmen/schema/Section;)Ljava/util/List;"⟩ : MethodName)) X1011 hS hx hZ hown (hw _ (List.mem_of_getElem? (i := 109) rfl)) (hw _ (List.mem_of_getElem? (i := 110) rfl)) (notFace_of_selects (args := #[]) (mvT hZ (hw _ (List.mem_of_getElem? (i := 112) rfl)))) (hw _ (List.mem_of_getElem? (i := 112) rfl)) (hw _ (List.mem_of_getElem? (i := 111) rfl)) (hw _ (List.mem_of_getElem? (i := 86) rfl)) (hw _ (List.mem_of_getElem? (i := 113) rfl)) (rm_groups2 l Z a0 hw oDE oDV oS0 oS1 oS2 oSE0 oSE1 oSE2 oSF0 oSF1 oSF2 oSM oSV [] b715 b552 T924.heap O981 f931) 0 0 0 rfl rfl (by decide) (by decide) (by decide) (by show _ ≤ 48; omega) (by show _ ≤ 6400; omega) e1011 f925 (g := (mkF m 173 #[.val (.int p1), .val (.int ((p1 &&& (2147483647 : Int32)) % (3 : Int32))), .val (.ref b1), .val (.ref b59), .val (.ref b156), .val (.ref b292), .val (.ref b411), .val (.ref b552), .val (.ref b715), .val (.ref ws2), .val (.ref b156), .unset] [(.ref ws2), (.ref b715)])) rfl (by rw [hml]; rfl) [(.ref ws2)] [] (lenOf own_pd_11 rfl) rfl rfl (by show 2 * 0 + _ ≤ _; exact Nat.le_of_eq rfl) (hb hby at_173)
      replace hS := hSn
      replace hZ := hZn
      replace hown := hownn
      clear hSn hZn hownn
      obtain ⟨rfl, Nc1014, Kc1013⟩ := hQ1012
      refine own_go st1012 ?_
      have N1015 := Fr.app N934 Nc1014
      rw [Kc1013] at hS
      show own_Go p e below s _ _ _ (T1012.setTop (mkF m 176 #[.val (.int p1), .val (.int ((p1 &&& (2147483647 : Int32)) % (3 : Int32))), .val (.ref b1), .val (.ref b59), .val (.ref b156), .val (.ref b292), .val (.ref b411), .val (.ref b552), .val (.ref b715), .val (.ref ws2), .val (.ref b156), .unset] [(.ref b552)]))
      refine own_go (fun _ k => XS.astore X1012.here hx rfl (hb hby at_176) rfl rfl (l' := #[.val (.int p1), .val (.int ((p1 &&& (2147483647 : Int32)) % (3 : Int32))), .val (.ref b1), .val (.ref b59), .val (.ref b156), .val (.ref b292), .val (.ref b411), .val (.ref b552), .val (.ref b715), .val (.ref ws2), .val (.ref b156), .val (.ref b552)]) rfl k) ?_
      show own_Go p e below s _ _ _ (T1012.setTop (mkF m 178 #[.val (.int p1), .val (.int ((p1 &&& (2147483647 : Int32)) % (3 : Int32))), .val (.ref b1), .val (.ref b59), .val (.ref b156), .val (.ref b292), .val (.ref b411), .val (.ref b552), .val (.ref b715), .val (.ref ws2), .val (.ref b156), .val (.ref b552)] []))
      refine own_go (fun _ k => XS.aload X1012.here hx rfl (hb hby at_178) rfl rfl k) ?_
      show own_Go p e below s _ _ _ (T1012.setTop (mkF m 180 #[.val (.int p1), .val (.int ((p1 &&& (2147483647 : Int32)) % (3 : Int32))), .val (.ref b1), .val (.ref b59), .val (.ref b156), .val (.ref b292), .val (.ref b411), .val (.ref b552), .val (.ref b715), .val (.ref ws2), .val (.ref b156), .val (.ref b552)] [(.ref b552)]))
      refine own_go (fun _ k => XS.ifnullNo X1012.here hx rfl (hb hby at_180) rfl k) ?_
      show own_Go p e below s _ _ _ (T1012.setTop (mkF m 183 #[.val (.int p1), .val (.int ((p1 &&& (2147483647 : Int32)) % (3 : Int32))), .val (.ref b1), .val (.ref b59), .val (.ref b156), .val (.ref b292), .val (.ref b411), .val (.ref b552), .val (.ref b715), .val (.ref ws2), .val (.ref b156), .val (.ref b552)] []))
      refine own_go (fun _ k => XS.aload X1012.here hx rfl (hb hby at_183) rfl rfl k) ?_
      show own_Go p e below s _ _ _ (T1012.setTop (mkF m 185 #[.val (.int p1), .val (.int ((p1 &&& (2147483647 : Int32)) % (3 : Int32))), .val (.ref b1), .val (.ref b59), .val (.ref b156), .val (.ref b292), .val (.ref b411), .val (.ref b552), .val (.ref b715), .val (.ref ws2), .val (.ref b156), .val (.ref b552)] [(.ref b552)]))
      obtain ⟨v1016, T1016, L1016, X1016, hSn, hZn, hownn, hQ1016, st1016⟩ := own_callF (xi := (⟨"java/util/List", "size", "()I"⟩ : MethodName)) (y := (⟨"java/util/ArrayList", "size", "()I"⟩ : MethodName)) X1012 hS hx hZ hown (hw _ (List.mem_of_getElem? (i := 126) rfl)) (hw _ (List.mem_of_getElem? (i := 127) rfl)) (hw _ (List.mem_of_getElem? (i := 128) rfl)) (hw _ (List.mem_of_getElem? (i := 129) rfl)) (hw _ (List.mem_of_getElem? (i := 130) rfl)) (hw _ (List.mem_of_getElem? (i := 131) rfl)) (hw _ (List.mem_of_getElem? (i := 132) rfl)) (hw _ (List.mem_of_getElem? (i := 133) rfl)) (hw _ (List.mem_of_getElem? (i := 14) rfl)) (hw _ (List.mem_of_getElem? (i := 134) rfl)) (by decide) (rm_alsize l Z a0 hw oDE oDV oS0 oS1 oS2 oSE0 oSE1 oSE2 oSF0 oSF1 oSF2 oSM oSV [] b552 (1 : Int32) T924.heap O981 f969) 0 0 0 rfl rfl (by decide) (by decide) (by decide) (by show _ ≤ 48; omega) (by show _ ≤ 6400; omega) Kc1013 f968 (g := (mkF m 185 #[.val (.int p1), .val (.int ((p1 &&& (2147483647 : Int32)) % (3 : Int32))), .val (.ref b1), .val (.ref b59), .val (.ref b156), .val (.ref b292), .val (.ref b411), .val (.ref b552), .val (.ref b715), .val (.ref ws2), .val (.ref b156), .val (.ref b552)] [(.ref b552)])) rfl (by rw [hml]; rfl) [] [] (lenOf own_pd_7 rfl) rfl rfl (by show 2 * 0 + _ ≤ _; exact Nat.le_of_eq rfl) (hb hby at_185)
      replace hS := hSn
      replace hZ := hZn
      replace hown := hownn
      clear hSn hZn hownn
      obtain ⟨rfl, Nc1018, Kc1017⟩ := hQ1016
      refine own_go st1016 ?_
      have N1019 := Fr.app N1015 Nc1018
      rw [Kc1017] at hS
      show own_Go p e below s _ _ _ (T1016.setTop (mkF m 190 #[.val (.int p1), .val (.int ((p1 &&& (2147483647 : Int32)) % (3 : Int32))), .val (.ref b1), .val (.ref b59), .val (.ref b156), .val (.ref b292), .val (.ref b411), .val (.ref b552), .val (.ref b715), .val (.ref ws2), .val (.ref b156), .val (.ref b552)] [(.int (1 : Int32))]))
      refine own_go (fun _ k => XS.iconst X1016.here hx rfl (hb hby at_190) k) ?_
      show own_Go p e below s _ _ _ (T1016.setTop (mkF m 191 #[.val (.int p1), .val (.int ((p1 &&& (2147483647 : Int32)) % (3 : Int32))), .val (.ref b1), .val (.ref b59), .val (.ref b156), .val (.ref b292), .val (.ref b411), .val (.ref b552), .val (.ref b715), .val (.ref ws2), .val (.ref b156), .val (.ref b552)] [(.int (1 : Int32)), (.int (1 : Int32))]))
      refine own_go (fun _ k => XS.icmpNo X1016.here hx rfl (hb hby at_191) rfl (teq (by decide : (1 : Int32) = (1 : Int32))).2 k) ?_
      show own_Go p e below s _ _ _ (T1016.setTop (mkF m 194 #[.val (.int p1), .val (.int ((p1 &&& (2147483647 : Int32)) % (3 : Int32))), .val (.ref b1), .val (.ref b59), .val (.ref b156), .val (.ref b292), .val (.ref b411), .val (.ref b552), .val (.ref b715), .val (.ref ws2), .val (.ref b156), .val (.ref b552)] []))
      refine own_go (fun _ k => XS.aload X1016.here hx rfl (hb hby at_194) rfl rfl k) ?_
      show own_Go p e below s _ _ _ (T1016.setTop (mkF m 196 #[.val (.int p1), .val (.int ((p1 &&& (2147483647 : Int32)) % (3 : Int32))), .val (.ref b1), .val (.ref b59), .val (.ref b156), .val (.ref b292), .val (.ref b411), .val (.ref b552), .val (.ref b715), .val (.ref ws2), .val (.ref b156), .val (.ref b552)] [(.ref b552)]))
      refine own_go (fun _ k => XS.iconst X1016.here hx rfl (hb hby at_196) k) ?_
      show own_Go p e below s _ _ _ (T1016.setTop (mkF m 197 #[.val (.int p1), .val (.int ((p1 &&& (2147483647 : Int32)) % (3 : Int32))), .val (.ref b1), .val (.ref b59), .val (.ref b156), .val (.ref b292), .val (.ref b411), .val (.ref b552), .val (.ref b715), .val (.ref ws2), .val (.ref b156), .val (.ref b552)] [(.int (0 : Int32)), (.ref b552)]))
      obtain ⟨v1020, T1020, L1020, X1020, hSn, hZn, hownn, hQ1020, st1020⟩ := own_callF (xi := (⟨"java/util/List", "get", "(I)Ljava/lang/Object;"⟩ : MethodName)) (y := (⟨"java/util/ArrayList", "get", "(I)Ljava/lang/Object;"⟩ : MethodName)) X1016 hS hx hZ hown (hw _ (List.mem_of_getElem? (i := 135) rfl)) (hw _ (List.mem_of_getElem? (i := 136) rfl)) (hw _ (List.mem_of_getElem? (i := 137) rfl)) (hw _ (List.mem_of_getElem? (i := 138) rfl)) (hw _ (List.mem_of_getElem? (i := 139) rfl)) (hw _ (List.mem_of_getElem? (i := 140) rfl)) (hw _ (List.mem_of_getElem? (i := 141) rfl)) (hw _ (List.mem_of_getElem? (i := 133) rfl)) (hw _ (List.mem_of_getElem? (i := 14) rfl)) (hw _ (List.mem_of_getElem? (i := 142) rfl)) (by decide) (rm_alget_1_0 l Z a0 hw oDE oDV oS0 oS1 oS2 oSE0 oSE1 oSE2 oSF0 oSF1 oSF2 oSM oSV [] b552 w651 w652 b156 T924.heap O981 f968 f969 f970 f972) 0 0 0 rfl rfl (by decide) (by decide) (by decide) (by show _ ≤ 48; omega) (by show _ ≤ 6400; omega) Kc1017 f968 (g := (mkF m 197 #[.val (.int p1), .val (.int ((p1 &&& (2147483647 : Int32)) % (3 : Int32))), .val (.ref b1), .val (.ref b59), .val (.ref b156), .val (.ref b292), .val (.ref b411), .val (.ref b552), .val (.ref b715), .val (.ref ws2), .val (.ref b156), .val (.ref b552)] [(.int (0 : Int32)), (.ref b552)])) rfl (by rw [hml]; rfl) [(.int (0 : Int32))] [] (lenOf own_pd_6 rfl) rfl rfl (by show 2 * 0 + _ ≤ _; exact Nat.le_of_eq rfl) (hb hby at_197)
      replace hS := hSn
      replace hZ := hZn
      replace hown := hownn
      clear hSn hZn hownn
      obtain ⟨rfl, Nc1022, Kc1021⟩ := hQ1020
      refine own_go st1020 ?_
      have N1023 := Fr.app N1019 Nc1022
      rw [Kc1021] at hS
      show own_Go p e below s _ _ _ (T1020.setTop (mkF m 202 #[.val (.int p1), .val (.int ((p1 &&& (2147483647 : Int32)) % (3 : Int32))), .val (.ref b1), .val (.ref b59), .val (.ref b156), .val (.ref b292), .val (.ref b411), .val (.ref b552), .val (.ref b715), .val (.ref ws2), .val (.ref b156), .val (.ref b552)] [(.ref b156)]))
      refine own_go (fun _ k => XS.aload X1020.here hx rfl (hb hby at_202) rfl rfl k) ?_
      show own_Go p e below s _ _ _ (T1020.setTop (mkF m 204 #[.val (.int p1), .val (.int ((p1 &&& (2147483647 : Int32)) % (3 : Int32))), .val (.ref b1), .val (.ref b59), .val (.ref b156), .val (.ref b292), .val (.ref b411), .val (.ref b552), .val (.ref b715), .val (.ref ws2), .val (.ref b156), .val (.ref b552)] [(.ref b156), (.ref b156)]))
      refine own_go (fun _ k => Jvm.RoadKit.acmp (g := (mkF m 204 #[.val (.int p1), .val (.int ((p1 &&& (2147483647 : Int32)) % (3 : Int32))), .val (.ref b1), .val (.ref b59), .val (.ref b156), .val (.ref b292), .val (.ref b411), .val (.ref b552), .val (.ref b715), .val (.ref ws2), .val (.ref b156), .val (.ref b552)] [(.ref b156), (.ref b156)])) X1020 hx rfl rfl rfl (pc0 := 204) (pc' := 207) (same := true) rfl (hb hby at_204) rfl (decide_eq_true rfl) (by decide) (by decide) k) ?_
      show own_Go p e below s _ _ _ (T1020.setTop (mkF m 207 #[.val (.int p1), .val (.int ((p1 &&& (2147483647 : Int32)) % (3 : Int32))), .val (.ref b1), .val (.ref b59), .val (.ref b156), .val (.ref b292), .val (.ref b411), .val (.ref b552), .val (.ref b715), .val (.ref ws2), .val (.ref b156), .val (.ref b552)] []))
      refine own_go (fun _ k => XS.iconst X1020.here hx rfl (hb hby at_207) k) ?_
      show own_Go p e below s _ _ _ (T1020.setTop (mkF m 208 #[.val (.int p1), .val (.int ((p1 &&& (2147483647 : Int32)) % (3 : Int32))), .val (.ref b1), .val (.ref b59), .val (.ref b156), .val (.ref b292), .val (.ref b411), .val (.ref b552), .val (.ref b715), .val (.ref ws2), .val (.ref b156), .val (.ref b552)] [(.int (1 : Int32))]))
      refine own_go (fun _ k => XS.goto X1020.here hx rfl (pc0 := 208) (pc' := 212) rfl (hb hby at_208) (by decide) (by decide) k) ?_
      show own_Go p e below s _ _ _ (T1020.setTop (mkF m 212 #[.val (.int p1), .val (.int ((p1 &&& (2147483647 : Int32)) % (3 : Int32))), .val (.ref b1), .val (.ref b59), .val (.ref b156), .val (.ref b292), .val (.ref b411), .val (.ref b552), .val (.ref b715), .val (.ref ws2), .val (.ref b156), .val (.ref b552)] [(.int (1 : Int32))]))
      refine own_retN X1020 hS hx hlk Kc1021 (t := .boolean) hret (by simp) (hb hby at_212) (by show _ ≤ 48; omega) (by show _ ≤ 6400; omega) ?_
      exact ⟨rfl, N1023, K982⟩
set_option maxRecDepth 65536 in
set_option maxHeartbeats 40000000 in
theorem comes_1 {Post : Tables → Env → Array Value → State → Outcome → State → Prop} (hpost : ∀ tb e args s v u, (limb_1_1.after args s (.returned v) u = true ∧ limb_1_2.after args s (.returned v) u = true ∧ True) → ReturnedEndW s (.returned v) u (Jvm.fieldLocs frame_1_writes args s ++ Jvm.arrayLocs frame_1_arrays args s ++ Jvm.staticLocs frame_1_statics s) 48 6400 → Post tb e args s (.returned v) u) :
    ArmFor flags0 classFile x code maxLocals ret World_1 tables_1 room_1 Calls_1 rest_1 Pre_1 Post := by
  intro l hfl _ _ p e ha hc hk s m args below hf hA hF happ hP
  obtain ⟨hcalls, hrest, hpre⟩ := hP
  obtain ⟨-, -, -, hnamed, -, -, -, hat⟩ := (Spec.applies_iff hf).mp happ
  obtain ⟨hg, hn⟩ := and_e (Cond.before_iff.mp (show (Jvm.Cond.and given_1 narrow_1).before args s = true from hpre))
  obtain ⟨gA0, gB0⟩ := and_e hg
  obtain ⟨w0, rfl⟩ : ∃ w0 : Value, args = #[w0] := by
    have hs : args.size = 1 := by simpa [Cond.value, given_1] using gA0
    obtain ⟨L⟩ := args
    match L, hs with
    | [w0], _ => exact ⟨w0, rfl⟩
  have hw := fun d (hd : d ∈ tables_1) => atoms_spec (ws := Jvm.Cond.code x code maxLocals ret :: tables_1) hat d (List.mem_cons_of_mem _ hd)
  have hfit : Fit s := fun {y c} hc i hi => by
    obtain ⟨ha, rfl⟩ := Array.getElem?_eq_some_iff.mp hc
    have q := List.all_eq_true.mp ((Array.all_eq_true_iff_forall_mem.mp hF) _ (Array.getElem_mem ha)) i (List.mem_range.mpr hi)
    simpa [Array.getElem?_eq_getElem hi] using q
  obtain ⟨hsets, hown0⟩ := atoms_of _ (rest_1_c_eq ▸ (show rest_1_c.before _ s = true from hrest))
  have hr0 := Cond.before_iff.mp hown0
  obtain ⟨i0, ei0⟩ := is_v gB0
  obtain rfl : w0 = (.int i0) := Option.some.inj ei0
  have al2 := Cond.before_iff.mp (hsets _ (List.mem_of_getElem? (i := 6) rfl))
  have al4 := Cond.before_iff.mp (hsets _ (List.mem_of_getElem? (i := 8) rfl))
  obtain ⟨wd, ale⟩ := arr_v al2
  obtain ⟨cld, alA⟩ := Arr.start ale al2
  have oDE := Sta.start ale (Or.inr ⟨(hw _ (List.mem_of_getElem? (i := 14) rfl)), (hsets _ (List.mem_of_getElem? (i := 2) rfl))⟩)
  have aln := own_lenOf ale (alA.fin (Vm.Alike.refl _)) al4
  have oDV : Arv s s.heap wd cld.cls (.object "java/lang/Object") (0 : Int32) [] .null := Arv.start hfit alA aln.1 aln.2 (by decide) rfl trivial
  obtain ⟨n0, hn⟩ := and_e hn
  obtain ⟨nA, hn⟩ := and_e hn
  obtain ⟨nL, hn⟩ := and_e hn
  obtain ⟨o0, hn⟩ := and_e hn
  obtain ⟨m0, hn⟩ := and_e hn
  obtain ⟨n2, hn⟩ := and_e hn
  obtain ⟨o2, hn⟩ := and_e hn
  obtain ⟨m2, hn⟩ := and_e hn
  obtain ⟨n1, hn⟩ := and_e hn
  obtain ⟨o1, m1⟩ := and_e hn
  obtain ⟨ws0, se0⟩ := exa_v n0
  have oSE0 := Exa.start se0 n0
  have oS0 := Sta.start se0 (Or.inr ⟨(hw _ (List.mem_of_getElem? (i := 107) rfl)), (hw _ (List.mem_of_getElem? (i := 108) rfl))⟩)
  have oSF0 := Fld.start (own_ordFld o0 se0)
  obtain ⟨ws1, se1⟩ := exa_v n1
  have oSE1 := Exa.start se1 n1
  have oS1 := Sta.start se1 (Or.inr ⟨(hw _ (List.mem_of_getElem? (i := 107) rfl)), (hw _ (List.mem_of_getElem? (i := 159) rfl))⟩)
  have oSF1 := Fld.start (own_ordFld o1 se1)
  obtain ⟨ws2, se2⟩ := exa_v n2
  have oSE2 := Exa.start se2 n2
  have oS2 := Sta.start se2 (Or.inr ⟨(hw _ (List.mem_of_getElem? (i := 107) rfl)), (hw _ (List.mem_of_getElem? (i := 157) rfl))⟩)
  have oSF2 := Fld.start (own_ordFld o2 se2)
  obtain ⟨wm, sme⟩ := arr_v nA
  obtain ⟨clm, smA⟩ := Arr.start sme nA
  have smn := own_lenOf sme (smA.fin (Vm.Alike.refl _)) nL
  have oSM := Sta.start sme (Or.inr ⟨(hw _ (List.mem_of_getElem? (i := 115) rfl)), (hw _ (List.mem_of_getElem? (i := 116) rfl))⟩)
  have oSV : Arv s s.heap wm clm.cls .int (3 : Int32) [.int (1 : Int32), .int (2 : Int32), .int (3 : Int32)] (.int (0 : Int32)) := Arv.start hfit smA smn.1 smn.2 (by decide) rfl ⟨own_elemI sme (smA.fin (Vm.Alike.refl _)) (by decide) m0, own_elemI sme (smA.fin (Vm.Alike.refl _)) (by decide) m1, own_elemI sme (smA.fin (Vm.Alike.refl _)) (by decide) m2, trivial⟩
  obtain ⟨n, o, h1, h2, h3, _, L, rfl, ⟨rfl, N, -⟩, hq⟩ := rm_law l s _ hw oDE oDV oS0 oS1 oS2 oSE0 oSE1 oSE2 oSF0 oSF1 oSF2 oSM oSV tables_1 i0  s.heap ⟨Nat.le_refl _, fun _ _ q => q⟩  p e ha hc hk s m _ below hf ((Spec.applies_iff_loose hf).mp happ).1 ⟨rfl, State.Warmed39.refl s, rfl⟩ trivial
  refine ⟨n, _, h1, h2, h3, hpost _ _ _ _ _ _ ⟨Cond.after_iff.mpr rfl, Cond.after_iff.mpr (eq_i res_at (Term.int_eval (1)) rfl), trivial⟩ ⟨hq.1, hq.2.1, hq.2.2.1, (hq.2.2.2.sift fun y hy => Or.inr (N y hy)).mono (by decide) (by decide)⟩⟩
theorem main_1_1 : Claimed_1_1 := comes_1 fun _ _ _ _ _ _ h hF => ⟨h.1, hF⟩
theorem main_1_2 : Claimed_1_2 := comes_1 fun _ _ _ _ _ _ h hF => ⟨h.2.1, hF⟩
end Jvm.Pilot.@@N@@
namespace Jvm.Pilot.@@N@@
open Jvm Jvm.ClassFile Sem Op Lib Jvm.Free Jvm.Stand Jvm.Pilot.@@N@@.Jvm.D
/-! MADE BY PROGRAM (witnessworld.py) out of the Statement's table words and the real class files: 31 classes; the members and pool entries that the words name. The judged class is class 1, her method 1. -/
namespace start1
open Jvm.ClassFile
def u (s : String) : CpInfo := .utf8 (stringToUtf16 s)
/-- a pool by its gaps: so many unusable entries, then the entry; so many at the end -/
def gap : Nat → List CpInfo → List CpInfo
  | 0, r => r
  | n + 1, r => .unusable :: gap n r
def poolList (es : List (Nat × CpInfo)) (last : Nat) : List CpInfo := es.foldr (fun e r => gap e.1 (e.2 :: r)) (gap last [])
def pool (es : List (Nat × CpInfo)) (last : Nat) : Array CpInfo := ⟨poolList es last⟩
def fileOf (pool : Array CpInfo) (this : Nat) (attrs : Array Attribute := #[]) (ms : Array MethodInfo := #[]) (fl : Nat := 33) (sup : Nat := 0) (ifs : Array Nat := #[]) (fds : Array FieldInfo := #[]) : ClassFile where
  minorVersion := 0
  majorVersion := 65
  constantPool := pool
  accessFlags := fl
  thisClass := this
  superClass := sup
  interfaces := ifs
  fields := fds
  methods := ms
  attributes := attrs
def plain (name : String) (sup : Option ClassId) : Class where
  name := name
  kind := .ordinary
  loader := none
  accessFlags := 33
  super := sup
  interfaces := #[]
  cf := none
  fields := #[]
  methods := #[]
  instanceTypes := #[]
  staticTypes := #[]
  resolved := #[]
  callSites := []
  init := .initialized
  statics := none
  mirror := none

def pool0 : Array CpInfo := pool [(5, u "<init>"), (0, u "()V"), (1, .class_ 10), (1, u "java/lang/Object")] 113

def k0c0 : Code := { maxStack := 0, maxLocals := 1, code := object_method_1_code, exceptionTable := #[], attributes := #[] }
def k0m0 : Method := { name := "<init>", desc := "()V", sig := { parameters := [], returnType := none }, accessFlags := 1, code := some k0c0 }
/-- java/lang/Object -/
def k0 : Class := { plain "java/lang/Object" none with
  accessFlags := 33
  interfaces := #[]
  cf := some (fileOf pool0 8 #[] #[{ accessFlags := 1, nameIndex := 5, descriptorIndex := 6, attributes := #[] }] 33 0 #[] #[])
  fields := #[]
  methods := #[k0m0]
  instanceTypes := #[]
  staticTypes := #[]
  resolved := Array.replicate 124 none
  statics := none }

def pool1 : Array CpInfo := pool [(2, .class_ 4), (0, .nameAndType 5 6), (0, u "java/lang/Object"), (0, u "<init>"), (0, u "()V"), (0, .integer 2147483647), (0, .class_ 9), (0, u "com/example/slotsholmen/slotsholmen/schema/Group"), (0, .string 11), (0, u "a"), (0, .class_ 13), (0, u "java/util/ArrayList"), (0, .methodref 12 3), (0, .methodref 8 16), (0, .nameAndType 5 17), (0, u "(Ljava/lang/String;Ljava/util/List;)V"), (0, .string 19), (0, u "s"), (0, .string 21), (0, u "r"), (0, .methodref 12 23), (0, .nameAndType 24 25), (0, u "add"), (0, u "(Ljava/lang/Object;)Z"), (0, .class_ 27), (0, u "com/example/slotsholmen/slotsholmen/schema/ObjectClass"), (0, .string 29), (0, u "svc"), (0, .string 31), (0, u "nm"), (0, .string 33), (0, u "titel"), (0, .methodref 26 35), (0, .nameAndType 5 36), (0, u "(Ljava/lang/String;Ljava/lang/String;Ljava/lang/String;Ljava/util/List;Ljava/util/List;Ljava/util/List;)V"), (0, .fieldref 38 39), (0, .class_ 40), (0, .nameAndType 41 42), (0, u "com/example/slotsholmen/slotsholmen/schema/Section"), (0, u "ATTRIBUTES"), (0, u "Lcom/example/slotsholmen/slotsholmen/schema/Section;"), (0, .fieldref 38 44), (0, .nameAndType 45 42), (0, u "STATES"), (0, .fieldref 38 47), (0, .nameAndType 48 42), (0, u "RELATIONS"), (0, .methodref 26 50), (0, .nameAndType 51 52), (0, u "groups"), (0, u "(Lcom/example/slotsholmen/slotsholmen/schema/Section;)Ljava/util/List;"), (0, .interfaceMethodref 54 55), (0, .class_ 56), (0, .nameAndType 57 58), (0, u "java/util/List"), (0, u "size"), (0, u "()I"), (0, .interfaceMethodref 54 60), (0, .nameAndType 61 62), (0, u "get"), (0, u "(I)Ljava/lang/Object;"), (0, .class_ 64), (0, u "com/example/slotsholmen/slotsholmen/schema/ObjectClassGroupsPinLaw"), (2, u "law"), (0, u "(I)Z")] 3

def k1m0 : Method := { name := "<init>", desc := "()V", sig := { parameters := [], returnType := none }, accessFlags := 1, code := none }
def k1c1 : Code := { maxStack := 8, maxLocals := 12, code := code, exceptionTable := #[], attributes := #[] }
def k1m1 : Method := { name := "law", desc := "(I)Z", sig := { parameters := [.int], returnType := some .boolean }, accessFlags := 9, code := some k1c1 }
/-- com/example/slotsholmen/slotsholmen/schema/ObjectClassGroupsPinLaw -/
def k1 : Class := { plain "com/example/slotsholmen/slotsholmen/schema/ObjectClassGroupsPinLaw" (some 0) with
  accessFlags := 49
  interfaces := #[]
  cf := some (fileOf pool1 63 #[] #[{ accessFlags := 1, nameIndex := 5, descriptorIndex := 6, attributes := #[] }, { accessFlags := 9, nameIndex := 67, descriptorIndex := 68, attributes := #[] }] 49 2 #[] #[])
  fields := #[]
  methods := #[k1m0, k1m1]
  instanceTypes := #[]
  staticTypes := #[]
  resolved := Array.replicate 72 none
  statics := none }

def pool2 : Array CpInfo := pool [(1, .methodref 2 3), (0, .class_ 4), (0, .nameAndType 5 6), (0, u "java/lang/Object"), (0, u "<init>"), (0, u "()V"), (0, .class_ 8), (0, u "java/lang/Record")] 13

def k2c0 : Code := { maxStack := 1, maxLocals := 1, code := jdk_30_method_1_code, exceptionTable := #[], attributes := #[] }
def k2m0 : Method := { name := "<init>", desc := "()V", sig := { parameters := [], returnType := none }, accessFlags := 4, code := some k2c0 }
/-- java/lang/Record -/
def k2 : Class := { plain "java/lang/Record" (some 0) with
  accessFlags := 1057
  interfaces := #[]
  cf := some (fileOf pool2 7 #[] #[{ accessFlags := 4, nameIndex := 5, descriptorIndex := 6, attributes := #[] }] 1057 2 #[] #[])
  fields := #[]
  methods := #[k2m0]
  instanceTypes := #[]
  staticTypes := #[]
  resolved := Array.replicate 22 none
  statics := none }

def pool3 : Array CpInfo := pool [(1, .methodref 2 3), (0, .class_ 4), (0, .nameAndType 5 6), (0, u "java/lang/Record"), (0, u "<init>"), (0, u "()V"), (0, .fieldref 8 9), (0, .class_ 10), (0, .nameAndType 11 12), (0, u "com/example/slotsholmen/slotsholmen/schema/Group"), (0, u "name"), (0, u "Ljava/lang/String;"), (0, .fieldref 8 14), (0, .nameAndType 15 16), (0, u "fields"), (0, u "Ljava/util/List;"), (8, u "(Ljava/lang/String;Ljava/util/List;)V"), (86, u "RELATION_UUID"), (1, u "RELATION_URN"), (0, u "RELATION_OBJECT_TYPE")] 65

def k3c0 : Code := { maxStack := 2, maxLocals := 3, code := prog_32_method_2_code, exceptionTable := #[], attributes := #[] }
def k3m0 : Method := { name := "<init>", desc := "(Ljava/lang/String;Ljava/util/List;)V", sig := { parameters := [(.object "java/lang/String"), (.object "java/util/List")], returnType := none }, accessFlags := 1, code := some k3c0 }
/-- com/example/slotsholmen/slotsholmen/schema/Group -/
def k3 : Class := { plain "com/example/slotsholmen/slotsholmen/schema/Group" (some 2) with
  accessFlags := 49
  interfaces := #[]
  cf := some (fileOf pool3 8 #[] #[{ accessFlags := 1, nameIndex := 5, descriptorIndex := 25, attributes := #[] }] 49 2 #[] #[{ accessFlags := 18, nameIndex := 11, descriptorIndex := 12, attributes := #[] }, { accessFlags := 18, nameIndex := 15, descriptorIndex := 16, attributes := #[] }, { accessFlags := 25, nameIndex := 112, descriptorIndex := 12, attributes := #[] }, { accessFlags := 25, nameIndex := 114, descriptorIndex := 12, attributes := #[] }, { accessFlags := 25, nameIndex := 115, descriptorIndex := 12, attributes := #[] }])
  fields := #[{ name := "name", type := (.object "java/lang/String"), accessFlags := 18, slot := 0, constantValue := 0 }, { name := "fields", type := (.object "java/util/List"), accessFlags := 18, slot := 1, constantValue := 0 }, { name := "RELATION_UUID", type := (.object "java/lang/String"), accessFlags := 25, slot := 0, constantValue := 0 }, { name := "RELATION_URN", type := (.object "java/lang/String"), accessFlags := 25, slot := 1, constantValue := 0 }, { name := "RELATION_OBJECT_TYPE", type := (.object "java/lang/String"), accessFlags := 25, slot := 2, constantValue := 0 }]
  methods := #[k3m0]
  instanceTypes := #[(.object "java/lang/String"), (.object "java/util/List")]
  staticTypes := #[(.object "java/lang/String"), (.object "java/lang/String"), (.object "java/lang/String")]
  resolved := Array.replicate 181 none
  statics := none }

def pool4 : Array CpInfo := pool [(1, .class_ 2), (0, u "java/io/Serializable"), (0, .class_ 4), (0, u "java/lang/Object")] 2

/-- java/io/Serializable -/
def k4 : Class := { plain "java/io/Serializable" (some 0) with
  accessFlags := 1537
  interfaces := #[]
  cf := some (fileOf pool4 1 #[] #[] 1537 3 #[] #[])
  fields := #[]
  methods := #[]
  instanceTypes := #[]
  staticTypes := #[]
  resolved := Array.replicate 7 none
  statics := none }

def pool5 : Array CpInfo := pool [(1, .class_ 2), (0, u "java/lang/Comparable"), (0, .class_ 4), (0, u "java/lang/Object")] 7

/-- java/lang/Comparable -/
def k5 : Class := { plain "java/lang/Comparable" (some 0) with
  accessFlags := 1537
  interfaces := #[]
  cf := some (fileOf pool5 1 #[] #[] 1537 3 #[] #[])
  fields := #[]
  methods := #[]
  instanceTypes := #[]
  staticTypes := #[]
  resolved := Array.replicate 12 none
  statics := none }

def pool6 : Array CpInfo := pool [(2, .class_ 4), (1, u "java/lang/CharSequence"), (42, .class_ 48), (0, u "java/lang/CharSequence$1CodePointIterator"), (10, .class_ 60), (0, u "java/lang/CharSequence$1CharIterator"), (5, .class_ 67), (0, u "java/lang/Object")] 63

/-- java/lang/CharSequence -/
def k6 : Class := { plain "java/lang/CharSequence" (some 0) with
  accessFlags := 1537
  interfaces := #[]
  cf := some (fileOf pool6 2 #[.nestMembers #[47, 59]] #[] 1537 66 #[] #[])
  fields := #[]
  methods := #[]
  instanceTypes := #[]
  staticTypes := #[]
  resolved := Array.replicate 131 none
  statics := none }

def pool7 : Array CpInfo := pool [(1, .class_ 2), (0, u "java/lang/constant/Constable"), (0, .class_ 4), (0, u "java/lang/Object")] 6

/-- java/lang/constant/Constable -/
def k7 : Class := { plain "java/lang/constant/Constable" (some 0) with
  accessFlags := 1537
  interfaces := #[]
  cf := some (fileOf pool7 1 #[] #[] 1537 3 #[] #[])
  fields := #[]
  methods := #[]
  instanceTypes := #[]
  staticTypes := #[]
  resolved := Array.replicate 11 none
  statics := none }

def pool8 : Array CpInfo := pool [(1, .class_ 2), (0, u "java/lang/constant/ConstantDesc"), (0, .class_ 4), (0, u "java/lang/Object")] 32

/-- java/lang/constant/ConstantDesc -/
def k8 : Class := { plain "java/lang/constant/ConstantDesc" (some 0) with
  accessFlags := 1537
  interfaces := #[]
  cf := some (fileOf pool8 1 #[] #[] 1537 3 #[] #[])
  fields := #[]
  methods := #[]
  instanceTypes := #[]
  staticTypes := #[]
  resolved := Array.replicate 37 none
  statics := none }

def pool9 : Array CpInfo := pool [(2, .class_ 4), (1, u "java/lang/Object"), (0, u "<init>"), (0, u "()V"), (3, .class_ 12), (1, u "java/lang/String"), (0, u "value"), (0, u "[B"), (2, u "coder"), (0, u "B"), (2, u "hash"), (0, u "I"), (2, u "hashIsZero"), (0, u "Z"), (13, u "COMPACT_STRINGS"), (534, .class_ 576), (0, u "java/lang/CharSequence"), (22, u "CASE_INSENSITIVE_ORDER"), (0, u "Ljava/util/Comparator;"), (500, u "serialPersistentFields"), (0, u "[Ljava/io/ObjectStreamField;"), (0, .class_ 1104), (0, u "java/lang/String$CaseInsensitiveComparator"), (1, .class_ 1107), (0, u "java/io/Serializable"), (0, .class_ 1109), (0, u "java/lang/Comparable"), (0, .class_ 1111), (0, u "java/lang/constant/Constable"), (0, .class_ 1113), (0, u "java/lang/constant/ConstantDesc"), (2, u "serialVersionUID"), (0, u "J"), (3, u "REPL"), (0, u "C"), (2, u "LATIN1"), (1, u "UTF16")] 323

def k9m0 : Method := { name := "<init>", desc := "()V", sig := { parameters := [], returnType := none }, accessFlags := 1, code := none }
/-- java/lang/String -/
def k9 : Class := { plain "java/lang/String" (some 0) with
  accessFlags := 49
  interfaces := #[4, 5, 6, 7, 8]
  cf := some (fileOf pool9 10 #[.nestMembers #[1103]] #[{ accessFlags := 1, nameIndex := 5, descriptorIndex := 6, attributes := #[] }] 49 2 #[1106, 1108, 575, 1110, 1112] #[{ accessFlags := 18, nameIndex := 13, descriptorIndex := 14, attributes := #[] }, { accessFlags := 18, nameIndex := 17, descriptorIndex := 18, attributes := #[] }, { accessFlags := 2, nameIndex := 21, descriptorIndex := 22, attributes := #[] }, { accessFlags := 2, nameIndex := 25, descriptorIndex := 26, attributes := #[] }, { accessFlags := 26, nameIndex := 1116, descriptorIndex := 1117, attributes := #[] }, { accessFlags := 24, nameIndex := 40, descriptorIndex := 26, attributes := #[] }, { accessFlags := 26, nameIndex := 1101, descriptorIndex := 1102, attributes := #[] }, { accessFlags := 26, nameIndex := 1121, descriptorIndex := 1122, attributes := #[] }, { accessFlags := 25, nameIndex := 599, descriptorIndex := 600, attributes := #[] }, { accessFlags := 24, nameIndex := 1125, descriptorIndex := 18, attributes := #[] }, { accessFlags := 24, nameIndex := 1127, descriptorIndex := 18, attributes := #[] }])
  fields := #[{ name := "value", type := (.array .byte), accessFlags := 18, slot := 0, constantValue := 0 }, { name := "coder", type := .byte, accessFlags := 18, slot := 1, constantValue := 0 }, { name := "hash", type := .int, accessFlags := 2, slot := 2, constantValue := 0 }, { name := "hashIsZero", type := .boolean, accessFlags := 2, slot := 3, constantValue := 0 }, { name := "serialVersionUID", type := .long, accessFlags := 26, slot := 0, constantValue := 0 }, { name := "COMPACT_STRINGS", type := .boolean, accessFlags := 24, slot := 1, constantValue := 0 }, { name := "serialPersistentFields", type := (.array (.object "java/io/ObjectStreamField")), accessFlags := 26, slot := 2, constantValue := 0 }, { name := "REPL", type := .char, accessFlags := 26, slot := 3, constantValue := 0 }, { name := "CASE_INSENSITIVE_ORDER", type := (.object "java/util/Comparator"), accessFlags := 25, slot := 4, constantValue := 0 }, { name := "LATIN1", type := .byte, accessFlags := 24, slot := 5, constantValue := 0 }, { name := "UTF16", type := .byte, accessFlags := 24, slot := 6, constantValue := 0 }]
  methods := #[k9m0]
  instanceTypes := #[(.array .byte), .byte, .int, .boolean]
  staticTypes := #[.long, .boolean, (.array (.object "java/io/ObjectStreamField")), .char, (.object "java/util/Comparator"), .byte, .byte]
  resolved := Array.replicate 1451 none
  statics := none }

def pool10 : Array CpInfo := pool [(8, .class_ 10), (1, u "java/lang/Iterable"), (24, .class_ 36), (0, u "java/lang/Object")] 25

/-- java/lang/Iterable -/
def k10 : Class := { plain "java/lang/Iterable" (some 0) with
  accessFlags := 1537
  interfaces := #[]
  cf := some (fileOf pool10 8 #[] #[] 1537 35 #[] #[])
  fields := #[]
  methods := #[]
  instanceTypes := #[]
  staticTypes := #[]
  resolved := Array.replicate 62 none
  statics := none }

def pool11 : Array CpInfo := pool [(10, .class_ 12), (1, u "java/util/Collection"), (47, .class_ 61), (0, u "java/lang/Object"), (0, .class_ 63), (0, u "java/lang/Iterable")] 51

/-- java/util/Collection -/
def k11 : Class := { plain "java/util/Collection" (some 0) with
  accessFlags := 1537
  interfaces := #[10]
  cf := some (fileOf pool11 10 #[] #[] 1537 60 #[62] #[])
  fields := #[]
  methods := #[]
  instanceTypes := #[]
  staticTypes := #[]
  resolved := Array.replicate 115 none
  statics := none }

def pool12 : Array CpInfo := pool [(1, .methodref 2 3), (0, .class_ 4), (0, .nameAndType 5 6), (0, u "java/lang/Object"), (0, u "<init>"), (0, u "()V"), (1, .class_ 10), (1, u "java/util/AbstractCollection"), (66, .class_ 78), (0, u "java/util/Collection")] 81

def k12c0 : Code := { maxStack := 1, maxLocals := 1, code := jdk_22_method_1_code, exceptionTable := #[], attributes := #[] }
def k12m0 : Method := { name := "<init>", desc := "()V", sig := { parameters := [], returnType := none }, accessFlags := 4, code := some k12c0 }
/-- java/util/AbstractCollection -/
def k12 : Class := { plain "java/util/AbstractCollection" (some 0) with
  accessFlags := 1057
  interfaces := #[11]
  cf := some (fileOf pool12 8 #[] #[{ accessFlags := 4, nameIndex := 5, descriptorIndex := 6, attributes := #[] }] 1057 2 #[77] #[])
  fields := #[]
  methods := #[k12m0]
  instanceTypes := #[]
  staticTypes := #[]
  resolved := Array.replicate 160 none
  statics := none }

def pool13 : Array CpInfo := pool [(8, .class_ 10), (1, u "java/util/SequencedCollection"), (15, .class_ 27), (0, u "java/lang/Object"), (0, .class_ 29), (0, u "java/util/Collection")] 27

/-- java/util/SequencedCollection -/
def k13 : Class := { plain "java/util/SequencedCollection" (some 0) with
  accessFlags := 1537
  interfaces := #[11]
  cf := some (fileOf pool13 8 #[] #[] 1537 26 #[28] #[])
  fields := #[]
  methods := #[]
  instanceTypes := #[]
  staticTypes := #[]
  resolved := Array.replicate 57 none
  statics := none }

def pool14 : Array CpInfo := pool [(8, .class_ 10), (1, u "java/util/List"), (64, u "get"), (0, u "(I)Ljava/lang/Object;"), (2, u "size"), (0, u "()I"), (22, .class_ 104), (0, u "java/lang/Object"), (15, .class_ 121), (0, u "java/util/SequencedCollection")] 129

def k14m0 : Method := { name := "size", desc := "()I", sig := { parameters := [], returnType := some .int }, accessFlags := 1025, code := none }
def k14m1 : Method := { name := "get", desc := "(I)Ljava/lang/Object;", sig := { parameters := [.int], returnType := some (.object "java/lang/Object") }, accessFlags := 1025, code := none }
/-- java/util/List -/
def k14 : Class := { plain "java/util/List" (some 0) with
  accessFlags := 1537
  interfaces := #[13]
  cf := some (fileOf pool14 8 #[] #[{ accessFlags := 1025, nameIndex := 79, descriptorIndex := 80, attributes := #[] }, { accessFlags := 1025, nameIndex := 75, descriptorIndex := 76, attributes := #[] }] 1537 103 #[120] #[])
  fields := #[]
  methods := #[k14m0, k14m1]
  instanceTypes := #[]
  staticTypes := #[]
  resolved := Array.replicate 251 none
  statics := none }

def pool15 : Array CpInfo := pool [(1, .methodref 2 3), (0, .class_ 4), (0, .nameAndType 5 6), (0, u "java/util/AbstractCollection"), (0, u "<init>"), (0, u "()V"), (0, .fieldref 8 9), (0, .class_ 10), (0, .nameAndType 11 12), (0, u "java/util/AbstractList"), (0, u "modCount"), (0, u "I"), (64, .class_ 78), (0, u "java/util/AbstractList$Itr"), (3, .class_ 83), (0, u "java/util/AbstractList$ListItr"), (9, .class_ 94), (0, u "java/util/AbstractList$RandomAccessSubList"), (3, .class_ 99), (0, u "java/util/AbstractList$SubList"), (33, .class_ 134), (0, u "java/util/List"), (73, .class_ 209), (0, u "java/util/AbstractList$SubList$1"), (0, .class_ 211), (0, u "java/util/AbstractList$RandomAccessSpliterator")] 6

def k15c0 : Code := { maxStack := 2, maxLocals := 1, code := jdk_39_method_1_code, exceptionTable := #[], attributes := #[] }
def k15m0 : Method := { name := "<init>", desc := "()V", sig := { parameters := [], returnType := none }, accessFlags := 4, code := some k15c0 }
/-- java/util/AbstractList -/
def k15 : Class := { plain "java/util/AbstractList" (some 12) with
  accessFlags := 1057
  interfaces := #[14]
  cf := some (fileOf pool15 8 #[.nestMembers #[93, 98, 208, 210, 82, 77]] #[{ accessFlags := 4, nameIndex := 5, descriptorIndex := 6, attributes := #[] }] 1057 2 #[133] #[{ accessFlags := 132, nameIndex := 11, descriptorIndex := 12, attributes := #[] }])
  fields := #[{ name := "modCount", type := .int, accessFlags := 132, slot := 0, constantValue := 0 }]
  methods := #[k15m0]
  instanceTypes := #[.int]
  staticTypes := #[]
  resolved := Array.replicate 218 none
  statics := none }

def pool16 : Array CpInfo := pool [(1, .class_ 2), (0, u "java/util/RandomAccess"), (0, .class_ 4), (0, u "java/lang/Object")] 2

/-- java/util/RandomAccess -/
def k16 : Class := { plain "java/util/RandomAccess" (some 0) with
  accessFlags := 1537
  interfaces := #[]
  cf := some (fileOf pool16 1 #[] #[] 1537 3 #[] #[])
  fields := #[]
  methods := #[]
  instanceTypes := #[]
  staticTypes := #[]
  resolved := Array.replicate 7 none
  statics := none }

def pool17 : Array CpInfo := pool [(1, .class_ 2), (0, u "java/lang/Cloneable"), (0, .class_ 4), (0, u "java/lang/Object")] 2

/-- java/lang/Cloneable -/
def k17 : Class := { plain "java/lang/Cloneable" (some 0) with
  accessFlags := 1537
  interfaces := #[]
  cf := some (fileOf pool17 1 #[] #[] 1537 3 #[] #[])
  fields := #[]
  methods := #[]
  instanceTypes := #[]
  staticTypes := #[]
  resolved := Array.replicate 7 none
  statics := none }

def pool18 : Array CpInfo := pool [(1, .methodref 2 3), (0, .class_ 4), (0, .nameAndType 5 6), (0, u "java/util/AbstractList"), (0, u "<init>"), (0, u "()V"), (0, .class_ 8), (0, u "java/lang/Object"), (0, .fieldref 10 11), (0, .class_ 12), (0, .nameAndType 13 14), (0, u "java/util/ArrayList"), (0, u "elementData"), (0, u "[Ljava/lang/Object;"), (2, u "EMPTY_ELEMENTDATA"), (21, .fieldref 10 40), (0, .nameAndType 41 14), (0, u "DEFAULTCAPACITY_EMPTY_ELEMENTDATA"), (5, u "()[Ljava/lang/Object;"), (0, .fieldref 10 49), (0, .nameAndType 50 51), (0, u "size"), (0, u "I"), (11, .fieldref 10 64), (0, .nameAndType 65 51), (0, u "modCount"), (3, .methodref 10 70), (0, .nameAndType 71 72), (0, u "grow"), (0, u "(I)[Ljava/lang/Object;"), (6, .methodref 80 81), (0, .class_ 82), (0, .nameAndType 83 84), (0, u "java/lang/Math"), (0, u "max"), (0, u "(II)I"), (11, u "(Ljava/lang/Object;)Z"), (21, .methodref 119 120), (0, .class_ 121), (0, .nameAndType 122 84), (0, u "java/util/Objects"), (0, u "checkIndex"), (0, .methodref 10 124), (0, .nameAndType 13 125), (0, u "(I)Ljava/lang/Object;"), (3, .methodref 10 130), (0, .nameAndType 71 47), (0, .methodref 10 132), (0, .nameAndType 133 134), (0, u "add"), (0, u "(Ljava/lang/Object;[Ljava/lang/Object;I)V"), (13, .class_ 149), (0, u "java/util/List"), (36, u "()I"), (75, .class_ 263), (0, u "java/util/ArrayList$ListItr"), (3, .class_ 268), (0, u "java/util/ArrayList$Itr"), (7, .class_ 277), (0, u "java/util/ArrayList$SubList"), (12, .class_ 291), (0, u "java/util/ArrayList$ArrayListSpliterator"), (37, .class_ 330), (0, u "java/util/RandomAccess"), (0, .class_ 332), (0, u "java/lang/Cloneable"), (0, .class_ 334), (0, u "java/io/Serializable"), (0, u "serialVersionUID"), (0, u "J"), (3, u "DEFAULT_CAPACITY"), (40, u "get"), (118, .class_ 501), (0, u "java/util/ArrayList$SubList$2"), (0, .class_ 503), (0, u "java/util/ArrayList$SubList$1")] 5

def k18c0 : Code := { maxStack := 2, maxLocals := 1, code := jdk_38_method_2_code, exceptionTable := #[], attributes := #[] }
def k18m0 : Method := { name := "<init>", desc := "()V", sig := { parameters := [], returnType := none }, accessFlags := 1, code := some k18c0 }
def k18c1 : Code := { maxStack := 4, maxLocals := 4, code := jdk_38_method_6_code, exceptionTable := #[], attributes := #[] }
def k18m1 : Method := { name := "grow", desc := "(I)[Ljava/lang/Object;", sig := { parameters := [.int], returnType := some (.array (.object "java/lang/Object")) }, accessFlags := 2, code := some k18c1 }
def k18c2 : Code := { maxStack := 3, maxLocals := 1, code := jdk_38_method_7_code, exceptionTable := #[], attributes := #[] }
def k18m2 : Method := { name := "grow", desc := "()[Ljava/lang/Object;", sig := { parameters := [], returnType := some (.array (.object "java/lang/Object")) }, accessFlags := 2, code := some k18c2 }
def k18c3 : Code := { maxStack := 1, maxLocals := 1, code := jdk_38_method_8_code, exceptionTable := #[], attributes := #[] }
def k18m3 : Method := { name := "size", desc := "()I", sig := { parameters := [], returnType := some .int }, accessFlags := 1, code := some k18c3 }
def k18c4 : Code := { maxStack := 2, maxLocals := 2, code := jdk_38_method_18_code, exceptionTable := #[], attributes := #[] }
def k18m4 : Method := { name := "elementData", desc := "(I)Ljava/lang/Object;", sig := { parameters := [.int], returnType := some (.object "java/lang/Object") }, accessFlags := 0, code := some k18c4 }
def k18c5 : Code := { maxStack := 2, maxLocals := 2, code := jdk_38_method_20_code, exceptionTable := #[], attributes := #[] }
def k18m5 : Method := { name := "get", desc := "(I)Ljava/lang/Object;", sig := { parameters := [.int], returnType := some (.object "java/lang/Object") }, accessFlags := 1, code := some k18c5 }
def k18c6 : Code := { maxStack := 3, maxLocals := 4, code := jdk_38_method_24_code, exceptionTable := #[], attributes := #[] }
def k18m6 : Method := { name := "add", desc := "(Ljava/lang/Object;[Ljava/lang/Object;I)V", sig := { parameters := [(.object "java/lang/Object"), (.array (.object "java/lang/Object")), .int], returnType := none }, accessFlags := 2, code := some k18c6 }
def k18c7 : Code := { maxStack := 4, maxLocals := 2, code := jdk_38_method_25_code, exceptionTable := #[], attributes := #[] }
def k18m7 : Method := { name := "add", desc := "(Ljava/lang/Object;)Z", sig := { parameters := [(.object "java/lang/Object")], returnType := some .boolean }, accessFlags := 1, code := some k18c7 }
/-- java/util/ArrayList -/
def k18 : Class := { plain "java/util/ArrayList" (some 15) with
  accessFlags := 33
  interfaces := #[14, 16, 17, 4]
  cf := some (fileOf pool18 10 #[.nestMembers #[290, 276, 500, 502, 262, 267]] #[{ accessFlags := 1, nameIndex := 5, descriptorIndex := 6, attributes := #[] }, { accessFlags := 2, nameIndex := 71, descriptorIndex := 72, attributes := #[] }, { accessFlags := 2, nameIndex := 71, descriptorIndex := 47, attributes := #[] }, { accessFlags := 1, nameIndex := 50, descriptorIndex := 186, attributes := #[] }, { accessFlags := 0, nameIndex := 13, descriptorIndex := 125, attributes := #[] }, { accessFlags := 1, nameIndex := 381, descriptorIndex := 125, attributes := #[] }, { accessFlags := 2, nameIndex := 133, descriptorIndex := 134, attributes := #[] }, { accessFlags := 1, nameIndex := 133, descriptorIndex := 96, attributes := #[] }] 33 2 #[148, 329, 331, 333] #[{ accessFlags := 26, nameIndex := 335, descriptorIndex := 336, attributes := #[] }, { accessFlags := 26, nameIndex := 340, descriptorIndex := 51, attributes := #[] }, { accessFlags := 26, nameIndex := 17, descriptorIndex := 14, attributes := #[] }, { accessFlags := 26, nameIndex := 41, descriptorIndex := 14, attributes := #[] }, { accessFlags := 128, nameIndex := 13, descriptorIndex := 14, attributes := #[] }, { accessFlags := 2, nameIndex := 50, descriptorIndex := 51, attributes := #[] }])
  fields := #[{ name := "serialVersionUID", type := .long, accessFlags := 26, slot := 0, constantValue := 0 }, { name := "DEFAULT_CAPACITY", type := .int, accessFlags := 26, slot := 1, constantValue := 0 }, { name := "EMPTY_ELEMENTDATA", type := (.array (.object "java/lang/Object")), accessFlags := 26, slot := 2, constantValue := 0 }, { name := "DEFAULTCAPACITY_EMPTY_ELEMENTDATA", type := (.array (.object "java/lang/Object")), accessFlags := 26, slot := 3, constantValue := 0 }, { name := "elementData", type := (.array (.object "java/lang/Object")), accessFlags := 128, slot := 1, constantValue := 0 }, { name := "size", type := .int, accessFlags := 2, slot := 2, constantValue := 0 }]
  methods := #[k18m0, k18m1, k18m2, k18m3, k18m4, k18m5, k18m6, k18m7]
  instanceTypes := #[.int, (.array (.object "java/lang/Object")), .int]
  staticTypes := #[.long, .int, (.array (.object "java/lang/Object")), (.array (.object "java/lang/Object"))]
  resolved := Array.replicate 509 none
  statics := some 0 }

def pool19 : Array CpInfo := pool [(1, .class_ 2), (0, u "java/lang/Math"), (1, .class_ 6), (1, u "java/lang/Object"), (0, u "<init>"), (0, u "()V"), (89, .class_ 100), (1, u "java/lang/Math$RandomNumberGeneratorHolder"), (71, u "negativeZeroFloatBits"), (0, u "J"), (2, u "negativeZeroDoubleBits"), (21, u "max"), (46, u "$assertionsDisabled"), (0, u "Z"), (88, u "(II)I"), (2, u "twoToTheDoubleScaleDown"), (0, u "D"), (4, u "twoToTheDoubleScaleUp"), (9, u "E"), (3, u "PI"), (2, u "TAU"), (2, u "DEGREES_TO_RADIANS"), (0, u "RADIANS_TO_DEGREES")] 94

def k19m0 : Method := { name := "<init>", desc := "()V", sig := { parameters := [], returnType := none }, accessFlags := 2, code := none }
def k19c1 : Code := { maxStack := 2, maxLocals := 2, code := jdk_29_method_65_code, exceptionTable := #[], attributes := #[] }
def k19m1 : Method := { name := "max", desc := "(II)I", sig := { parameters := [.int, .int], returnType := some .int }, accessFlags := 9, code := some k19c1 }
/-- java/lang/Math -/
def k19 : Class := { plain "java/lang/Math" (some 0) with
  accessFlags := 49
  interfaces := #[]
  cf := some (fileOf pool19 1 #[.nestMembers #[98]] #[{ accessFlags := 2, nameIndex := 7, descriptorIndex := 8, attributes := #[] }, { accessFlags := 9, nameIndex := 198, descriptorIndex := 335, attributes := #[] }] 49 4 #[] #[{ accessFlags := 25, nameIndex := 354, descriptorIndex := 339, attributes := #[] }, { accessFlags := 25, nameIndex := 358, descriptorIndex := 339, attributes := #[] }, { accessFlags := 25, nameIndex := 361, descriptorIndex := 339, attributes := #[] }, { accessFlags := 26, nameIndex := 364, descriptorIndex := 339, attributes := #[] }, { accessFlags := 26, nameIndex := 365, descriptorIndex := 339, attributes := #[] }, { accessFlags := 26, nameIndex := 172, descriptorIndex := 173, attributes := #[] }, { accessFlags := 26, nameIndex := 176, descriptorIndex := 173, attributes := #[] }, { accessFlags := 8, nameIndex := 344, descriptorIndex := 339, attributes := #[] }, { accessFlags := 8, nameIndex := 338, descriptorIndex := 339, attributes := #[] }, { accessFlags := 4120, nameIndex := 245, descriptorIndex := 246, attributes := #[] }])
  fields := #[{ name := "E", type := .double, accessFlags := 25, slot := 0, constantValue := 0 }, { name := "PI", type := .double, accessFlags := 25, slot := 1, constantValue := 0 }, { name := "TAU", type := .double, accessFlags := 25, slot := 2, constantValue := 0 }, { name := "DEGREES_TO_RADIANS", type := .double, accessFlags := 26, slot := 3, constantValue := 0 }, { name := "RADIANS_TO_DEGREES", type := .double, accessFlags := 26, slot := 4, constantValue := 0 }, { name := "negativeZeroFloatBits", type := .long, accessFlags := 26, slot := 5, constantValue := 0 }, { name := "negativeZeroDoubleBits", type := .long, accessFlags := 26, slot := 6, constantValue := 0 }, { name := "twoToTheDoubleScaleUp", type := .double, accessFlags := 8, slot := 7, constantValue := 0 }, { name := "twoToTheDoubleScaleDown", type := .double, accessFlags := 8, slot := 8, constantValue := 0 }, { name := "$assertionsDisabled", type := .boolean, accessFlags := 4120, slot := 9, constantValue := 0 }]
  methods := #[k19m0, k19m1]
  instanceTypes := #[]
  staticTypes := #[.double, .double, .double, .double, .double, .long, .long, .double, .double, .boolean]
  resolved := Array.replicate 460 none
  statics := none }

def pool20 : Array CpInfo := pool [(1, .methodref 2 3), (0, .class_ 4), (0, .nameAndType 5 6), (0, u "java/lang/Record"), (0, u "<init>"), (0, u "()V"), (0, .fieldref 8 9), (0, .class_ 10), (0, .nameAndType 11 12), (0, u "com/example/slotsholmen/slotsholmen/schema/ObjectClass"), (0, u "service"), (0, u "Ljava/lang/String;"), (0, .fieldref 8 14), (0, .nameAndType 15 12), (0, u "name"), (0, .fieldref 8 17), (0, .nameAndType 18 12), (0, u "title"), (0, .fieldref 8 20), (0, .nameAndType 21 22), (0, u "attributes"), (0, u "Ljava/util/List;"), (0, .fieldref 8 24), (0, .nameAndType 25 22), (0, u "states"), (0, .fieldref 8 27), (0, .nameAndType 28 22), (0, u "relations"), (0, .fieldref 30 31), (0, .class_ 32), (0, .nameAndType 33 34), (0, u "com/example/slotsholmen/slotsholmen/schema/ObjectClass$1"), (0, u "$SwitchMap$com$example$slotsholmen$slotsholmen$schema$Section"), (0, u "[I"), (0, .methodref 36 37), (0, .class_ 38), (0, .nameAndType 39 40), (0, u "com/example/slotsholmen/slotsholmen/schema/Section"), (0, u "ordinal"), (0, u "()I"), (7, u "groups"), (0, u "(Lcom/example/slotsholmen/slotsholmen/schema/Section;)Ljava/util/List;"), (91, u "(Ljava/lang/String;Ljava/lang/String;Ljava/lang/String;Ljava/util/List;Ljava/util/List;Ljava/util/List;)V")] 72

def k20c0 : Code := { maxStack := 2, maxLocals := 7, code := prog_33_method_1_code, exceptionTable := #[], attributes := #[] }
def k20m0 : Method := { name := "<init>", desc := "(Ljava/lang/String;Ljava/lang/String;Ljava/lang/String;Ljava/util/List;Ljava/util/List;Ljava/util/List;)V", sig := { parameters := [(.object "java/lang/String"), (.object "java/lang/String"), (.object "java/lang/String"), (.object "java/util/List"), (.object "java/util/List"), (.object "java/util/List")], returnType := none }, accessFlags := 1, code := some k20c0 }
def k20c1 : Code := { maxStack := 4, maxLocals := 2, code := prog_33_method_2_code, exceptionTable := #[], attributes := #[] }
def k20m1 : Method := { name := "groups", desc := "(Lcom/example/slotsholmen/slotsholmen/schema/Section;)Ljava/util/List;", sig := { parameters := [(.object "com/example/slotsholmen/slotsholmen/schema/Section")], returnType := some (.object "java/util/List") }, accessFlags := 1, code := some k20c1 }
/-- com/example/slotsholmen/slotsholmen/schema/ObjectClass -/
def k20 : Class := { plain "com/example/slotsholmen/slotsholmen/schema/ObjectClass" (some 2) with
  accessFlags := 49
  interfaces := #[]
  cf := some (fileOf pool20 8 #[.nestMembers #[30]] #[{ accessFlags := 1, nameIndex := 5, descriptorIndex := 141, attributes := #[] }, { accessFlags := 1, nameIndex := 48, descriptorIndex := 49, attributes := #[] }] 49 2 #[] #[{ accessFlags := 18, nameIndex := 11, descriptorIndex := 12, attributes := #[] }, { accessFlags := 18, nameIndex := 15, descriptorIndex := 12, attributes := #[] }, { accessFlags := 18, nameIndex := 18, descriptorIndex := 12, attributes := #[] }, { accessFlags := 18, nameIndex := 21, descriptorIndex := 22, attributes := #[] }, { accessFlags := 18, nameIndex := 25, descriptorIndex := 22, attributes := #[] }, { accessFlags := 18, nameIndex := 28, descriptorIndex := 22, attributes := #[] }])
  fields := #[{ name := "service", type := (.object "java/lang/String"), accessFlags := 18, slot := 0, constantValue := 0 }, { name := "name", type := (.object "java/lang/String"), accessFlags := 18, slot := 1, constantValue := 0 }, { name := "title", type := (.object "java/lang/String"), accessFlags := 18, slot := 2, constantValue := 0 }, { name := "attributes", type := (.object "java/util/List"), accessFlags := 18, slot := 3, constantValue := 0 }, { name := "states", type := (.object "java/util/List"), accessFlags := 18, slot := 4, constantValue := 0 }, { name := "relations", type := (.object "java/util/List"), accessFlags := 18, slot := 5, constantValue := 0 }]
  methods := #[k20m0, k20m1]
  instanceTypes := #[(.object "java/lang/String"), (.object "java/lang/String"), (.object "java/lang/String"), (.object "java/util/List"), (.object "java/util/List"), (.object "java/util/List")]
  staticTypes := #[]
  resolved := Array.replicate 214 none
  statics := none }

def pool21 : Array CpInfo := pool [(2, .class_ 4), (1, u "java/lang/Enum"), (0, u "name"), (0, u "Ljava/lang/String;"), (0, .fieldref 2 8), (0, .nameAndType 9 10), (0, u "ordinal"), (0, u "I"), (1, .class_ 14), (1, u "java/lang/Object"), (4, u "hash"), (86, .class_ 108), (1, u "java/lang/Enum$EnumDesc"), (2, .class_ 112), (0, u "java/lang/constant/Constable"), (0, .class_ 114), (0, u "java/lang/Comparable"), (0, .class_ 116), (0, u "java/io/Serializable"), (9, u "()I")] 77

def k21c0 : Code := { maxStack := 1, maxLocals := 1, code := jdk_37_method_2_code, exceptionTable := #[], attributes := #[] }
def k21m0 : Method := { name := "ordinal", desc := "()I", sig := { parameters := [], returnType := some .int }, accessFlags := 17, code := some k21c0 }
/-- java/lang/Enum -/
def k21 : Class := { plain "java/lang/Enum" (some 0) with
  accessFlags := 1057
  interfaces := #[7, 5, 4]
  cf := some (fileOf pool21 2 #[.nestMembers #[106]] #[{ accessFlags := 17, nameIndex := 9, descriptorIndex := 126, attributes := #[] }] 1057 12 #[111, 113, 115] #[{ accessFlags := 18, nameIndex := 5, descriptorIndex := 6, attributes := #[] }, { accessFlags := 18, nameIndex := 9, descriptorIndex := 10, attributes := #[] }, { accessFlags := 2, nameIndex := 19, descriptorIndex := 10, attributes := #[] }])
  fields := #[{ name := "name", type := (.object "java/lang/String"), accessFlags := 18, slot := 0, constantValue := 0 }, { name := "ordinal", type := .int, accessFlags := 18, slot := 1, constantValue := 0 }, { name := "hash", type := .int, accessFlags := 2, slot := 2, constantValue := 0 }]
  methods := #[k21m0]
  instanceTypes := #[(.object "java/lang/String"), .int, .int]
  staticTypes := #[]
  resolved := Array.replicate 204 none
  statics := none }

def pool22 : Array CpInfo := pool [(1, .class_ 2), (0, u "com/example/slotsholmen/slotsholmen/schema/Section"), (2, u "ATTRIBUTES"), (0, u "Lcom/example/slotsholmen/slotsholmen/schema/Section;"), (2, u "STATES"), (2, u "RELATIONS"), (2, u "$VALUES"), (0, u "[Lcom/example/slotsholmen/slotsholmen/schema/Section;"), (6, .class_ 25), (1, u "java/lang/Enum"), (8, u "key"), (0, u "Ljava/lang/String;"), (2, u "groupNoun")] 35

/-- com/example/slotsholmen/slotsholmen/schema/Section -/
def k22 : Class := { plain "com/example/slotsholmen/slotsholmen/schema/Section" (some 21) with
  accessFlags := 16433
  interfaces := #[]
  cf := some (fileOf pool22 1 #[] #[] 16433 23 #[] #[{ accessFlags := 16409, nameIndex := 5, descriptorIndex := 6, attributes := #[] }, { accessFlags := 16409, nameIndex := 9, descriptorIndex := 6, attributes := #[] }, { accessFlags := 16409, nameIndex := 12, descriptorIndex := 6, attributes := #[] }, { accessFlags := 18, nameIndex := 34, descriptorIndex := 35, attributes := #[] }, { accessFlags := 18, nameIndex := 38, descriptorIndex := 35, attributes := #[] }, { accessFlags := 4122, nameIndex := 15, descriptorIndex := 16, attributes := #[] }])
  fields := #[{ name := "ATTRIBUTES", type := (.object "com/example/slotsholmen/slotsholmen/schema/Section"), accessFlags := 16409, slot := 0, constantValue := 0 }, { name := "STATES", type := (.object "com/example/slotsholmen/slotsholmen/schema/Section"), accessFlags := 16409, slot := 1, constantValue := 0 }, { name := "RELATIONS", type := (.object "com/example/slotsholmen/slotsholmen/schema/Section"), accessFlags := 16409, slot := 2, constantValue := 0 }, { name := "key", type := (.object "java/lang/String"), accessFlags := 18, slot := 3, constantValue := 0 }, { name := "groupNoun", type := (.object "java/lang/String"), accessFlags := 18, slot := 4, constantValue := 0 }, { name := "$VALUES", type := (.array (.object "com/example/slotsholmen/slotsholmen/schema/Section")), accessFlags := 4122, slot := 3, constantValue := 0 }]
  methods := #[]
  instanceTypes := #[(.object "java/lang/String"), .int, .int, (.object "java/lang/String"), (.object "java/lang/String")]
  staticTypes := #[(.object "com/example/slotsholmen/slotsholmen/schema/Section"), (.object "com/example/slotsholmen/slotsholmen/schema/Section"), (.object "com/example/slotsholmen/slotsholmen/schema/Section"), (.array (.object "com/example/slotsholmen/slotsholmen/schema/Section"))]
  resolved := Array.replicate 74 none
  statics := some 1 }

def pool23 : Array CpInfo := pool [(8, .class_ 10), (1, u "com/example/slotsholmen/slotsholmen/schema/ObjectClass$1"), (0, u "$SwitchMap$com$example$slotsholmen$slotsholmen$schema$Section"), (0, u "[I"), (16, .class_ 30), (0, u "java/lang/Object"), (8, .class_ 40), (0, u "com/example/slotsholmen/slotsholmen/schema/ObjectClass")] 2

/-- com/example/slotsholmen/slotsholmen/schema/ObjectClass$1 -/
def k23 : Class := { plain "com/example/slotsholmen/slotsholmen/schema/ObjectClass$1" (some 0) with
  accessFlags := 4128
  interfaces := #[]
  cf := some (fileOf pool23 8 #[.nestHost 39] #[] 4128 29 #[] #[{ accessFlags := 4120, nameIndex := 11, descriptorIndex := 12, attributes := #[] }])
  fields := #[{ name := "$SwitchMap$com$example$slotsholmen$slotsholmen$schema$Section", type := (.array .int), accessFlags := 4120, slot := 0, constantValue := 0 }]
  methods := #[]
  instanceTypes := #[]
  staticTypes := #[(.array .int)]
  resolved := Array.replicate 43 none
  statics := some 2 }

def pool24 : Array CpInfo := pool [(2, .class_ 4), (1, u "java/lang/Object"), (0, u "<init>"), (0, u "()V"), (35, .class_ 44), (1, u "java/util/Objects"), (60, .methodref 106 107), (0, .class_ 108), (0, .nameAndType 109 110), (0, u "jdk/internal/util/Preconditions"), (0, u "checkIndex"), (0, u "(IILjava/util/function/BiFunction;)I"), (60, u "(II)I")] 12

def k24m0 : Method := { name := "<init>", desc := "()V", sig := { parameters := [], returnType := none }, accessFlags := 2, code := none }
def k24c1 : Code := { maxStack := 3, maxLocals := 2, code := jdk_31_method_17_code, exceptionTable := #[], attributes := #[] }
def k24m1 : Method := { name := "checkIndex", desc := "(II)I", sig := { parameters := [.int, .int], returnType := some .int }, accessFlags := 9, code := some k24c1 }
/-- java/util/Objects -/
def k24 : Class := { plain "java/util/Objects" (some 0) with
  accessFlags := 49
  interfaces := #[]
  cf := some (fileOf pool24 42 #[] #[{ accessFlags := 2, nameIndex := 5, descriptorIndex := 6, attributes := #[] }, { accessFlags := 9, nameIndex := 109, descriptorIndex := 171, attributes := #[] }] 49 2 #[] #[])
  fields := #[]
  methods := #[k24m0, k24m1]
  instanceTypes := #[]
  staticTypes := #[]
  resolved := Array.replicate 184 none
  statics := none }

def pool25 : Array CpInfo := pool [(2, .class_ 4), (1, u "java/lang/Object"), (0, u "<init>"), (0, u "()V"), (17, .class_ 26), (1, u "jdk/internal/util/Preconditions"), (6, u "checkIndex"), (21, .class_ 56), (0, u "jdk/internal/util/Preconditions$4"), (57, .class_ 115), (0, u "jdk/internal/util/Preconditions$1"), (7, u "SIOOBE_FORMATTER"), (0, u "Ljava/util/function/BiFunction;"), (0, .class_ 126), (0, u "jdk/internal/util/Preconditions$2"), (3, u "AIOOBE_FORMATTER"), (0, .class_ 132), (0, u "jdk/internal/util/Preconditions$3"), (3, u "IOOBE_FORMATTER"), (41, u "(IILjava/util/function/BiFunction;)I")] 15

def k25m0 : Method := { name := "<init>", desc := "()V", sig := { parameters := [], returnType := none }, accessFlags := 1, code := none }
def k25c1 : Code := { maxStack := 3, maxLocals := 3, code := jdk_41_method_11_code, exceptionTable := #[], attributes := #[] }
def k25m1 : Method := { name := "checkIndex", desc := "(IILjava/util/function/BiFunction;)I", sig := { parameters := [.int, .int, (.object "java/util/function/BiFunction")], returnType := some .int }, accessFlags := 9, code := some k25c1 }
/-- jdk/internal/util/Preconditions -/
def k25 : Class := { plain "jdk/internal/util/Preconditions" (some 0) with
  accessFlags := 33
  interfaces := #[]
  cf := some (fileOf pool25 24 #[.nestMembers #[55, 131, 125, 114]] #[{ accessFlags := 1, nameIndex := 5, descriptorIndex := 6, attributes := #[] }, { accessFlags := 9, nameIndex := 33, descriptorIndex := 178, attributes := #[] }] 33 2 #[] #[{ accessFlags := 25, nameIndex := 123, descriptorIndex := 124, attributes := #[] }, { accessFlags := 25, nameIndex := 130, descriptorIndex := 124, attributes := #[] }, { accessFlags := 25, nameIndex := 136, descriptorIndex := 124, attributes := #[] }])
  fields := #[{ name := "SIOOBE_FORMATTER", type := (.object "java/util/function/BiFunction"), accessFlags := 25, slot := 0, constantValue := 0 }, { name := "AIOOBE_FORMATTER", type := (.object "java/util/function/BiFunction"), accessFlags := 25, slot := 1, constantValue := 0 }, { name := "IOOBE_FORMATTER", type := (.object "java/util/function/BiFunction"), accessFlags := 25, slot := 2, constantValue := 0 }]
  methods := #[k25m0, k25m1]
  instanceTypes := #[]
  staticTypes := #[(.object "java/util/function/BiFunction"), (.object "java/util/function/BiFunction"), (.object "java/util/function/BiFunction")]
  resolved := Array.replicate 194 none
  statics := none }

/-- the primitive byte -/
def k26 : Class := { plain "byte" none with kind := .primitive 'B', accessFlags := 0x411 }
/-- [B -/
def k27 : Class := { plain "[B" (some 0) with kind := .array 26 .byte, interfaces := #[17, 4], accessFlags := 1041 }

/-- the primitive int -/
def k28 : Class := { plain "int" none with kind := .primitive 'I', accessFlags := 0x411 }
/-- [I -/
def k29 : Class := { plain "[I" (some 0) with kind := .array 28 .int, interfaces := #[17, 4], accessFlags := 1041 }

/-- [Ljava/lang/Object; -/
def k30 : Class := { plain "[Ljava/lang/Object;" (some 0) with kind := .array 0 (.object "java/lang/Object"), interfaces := #[17, 4], accessFlags := 1041 }

def heap : Heap := #[{ cls := 18, slots := #[.long 0, .int 0, .ref 7, .ref 8], vm := .statics 18 },
  { cls := 22, slots := #[.ref 3, .ref 4, .ref 5, .null], vm := .statics 22 },
  { cls := 23, slots := #[.ref 6], vm := .statics 23 },
  { cls := 22, slots := #[.null, .int 0, .int 0, .null, .null], vm := .none },
  { cls := 22, slots := #[.null, .int 1, .int 0, .null, .null], vm := .none },
  { cls := 22, slots := #[.null, .int 2, .int 0, .null, .null], vm := .none },
  { cls := 29, slots := #[.int 1, .int 2, .int 3], vm := .none },
  { cls := 30, slots := #[], vm := .none },
  { cls := 30, slots := #[], vm := .none }]
def classes : Array Class := #[k0, k1, k2, k3, k4, k5, k6, k7, k8, k9, k10, k11, k12, k13, k14, k15, k16, k17, k18, k19, k20, k21, k22, k23, k24, k25, k26, k27, k28, k29, k30]
def interned : List (Array UInt16 × Addr) := []
def slotsUsed : Nat := 27
def theMethod : MethodId := ⟨1, 1⟩
def args0 : Array Value := #[.int 5]
def aboutOver (below : List Frame) : State where
  vm := { classes := classes, interned := interned.toArray }
  heap := heap
  slotsUsed := slotsUsed
  threads := #[{ frames := .invoking theMethod args0 :: below }]
def below0 : List Frame := [.native { method := ⟨0, 0⟩, args := #[] }]
def about1 : State := aboutOver below0
def p0 : Program := .bare "" "" ""
def e0 : Env := launch0.env 0 0 0
theorem w_frames : about1.frames = Frame.invoking theMethod args0 :: below0 := rfl
set_option maxRecDepth 65536 in
theorem w_args : argsFit about1.vm theMethod args0 = true := by decide +kernel
set_option maxRecDepth 65536 in
theorem w_heap : heapFits about1 = true := by decide +kernel
set_option maxRecDepth 65536 in
theorem w_runnable : about1.curStatus? = some .runnable := by decide +kernel
set_option maxRecDepth 65536 in
theorem w_alone : about1.alone = true := by decide +kernel
set_option maxRecDepth 65536 in
theorem w_named : about1.methodNamed? x = some theMethod := by decide +kernel
set_option maxRecDepth 65536 in
theorem w_hears : about1.hears theMethod below0 = true := by decide +kernel
set_option maxRecDepth 65536 in
theorem w_ripe : about1.ripe theMethod args0 below0 = true := by decide +kernel
theorem w_running : about1.status = .running := rfl
set_option maxRecDepth 65536 in
theorem w_room : about1.hasRoom e0.platform room_1 = true :=
  launch0.hasRoom_least _ room_1 (by decide +kernel) (by decide +kernel) (by decide +kernel) (by decide +kernel) (by decide +kernel) (by decide +kernel)
theorem allAtoms_all (ts : List Jvm.Cond) (a : Array Jvm.Value) (st : Jvm.State) : (allAtoms ts).before a st = ts.all (fun c => c.before a st) := by
  induction ts with
  | nil => rfl
  | cons c t ih =>
    show (Jvm.Cond.and c (allAtoms t)).before a st = _
    rw [Jvm.Cond.before_and, ih, List.all_cons]
def words1 : List Jvm.Cond := Jvm.Cond.code x code maxLocals ret :: tables_1
/-- a 'code' word, met by the world's own term for the bytes: nothing is compared byte by byte -/
theorem code_word {y : MethodName} {bytes : ByteArray} {mx : Nat} {rt : Option FieldType} {a : Array Value} {s : State} {m : MethodId} {meth : Method} {c : Code} (h1 : s.methodNamed? y = some m) (h2 : s.vm.method? m = some meth) (h3 : meth.code = some c) (h4 : c.code = bytes)
    (h5 : (c.maxLocals == mx && c.exceptionTable.isEmpty && decide (c.maxStack ≤ mostOperands) && decide (meth.sig.returnType = rt) && !meth.locks && decide (parseMethodDescriptor y.desc = some meth.sig)) = true) : (Jvm.Cond.code y bytes mx rt).before a s = true := by
  simp only [Bool.and_eq_true, beq_iff_eq, Bool.not_eq_true', decide_eq_true_eq] at h5
  obtain ⟨⟨⟨⟨⟨g1, g2⟩, g3⟩, g4⟩, g5⟩, g6⟩ := h5
  simp [Cond.before, Cond.holds, Cond.value, h1, h2, h3, h4, g1, g2, g3, g4, g5, g6]
def isCode : Jvm.Cond → Bool
  | .code _ _ _ _ => true
  | _ => false
theorem all_split {L : List Jvm.Cond} {P : Jvm.Cond → Bool} (h1 : L.all (fun c => isCode c || P c) = true) (h2 : ∀ c ∈ L.filter isCode, P c = true) : L.all P = true := by
  refine List.all_eq_true.mpr fun c hc => ?_
  have h := List.all_eq_true.mp h1 c hc
  rcases Bool.eq_false_or_eq_true (isCode c) with hi | hi
  · exact h2 c (List.mem_filter.mpr ⟨hc, hi⟩)
  · simpa [hi] using h
set_option maxRecDepth 65536 in
theorem w_c0 : (Jvm.Cond.code x code maxLocals ret).before args0 about1 = true := code_word (m := ⟨1, 1⟩) (meth := k1m1) (c := k1c1) (by decide +kernel) rfl rfl rfl (by decide +kernel)
set_option maxRecDepth 65536 in
theorem w_c1 : (Jvm.Cond.code ({ cls := "java/util/ArrayList", name := "<init>", desc := "()V" } : Jvm.MethodName) jdk_38_method_2_code (1 : Nat) (Option.none : Option Jvm.ClassFile.FieldType)).before args0 about1 = true := code_word (m := ⟨18, 0⟩) (meth := k18m0) (c := k18c0) (by decide +kernel) rfl rfl rfl (by decide +kernel)
set_option maxRecDepth 65536 in
theorem w_c2 : (Jvm.Cond.code ({ cls := "java/util/AbstractList", name := "<init>", desc := "()V" } : Jvm.MethodName) jdk_39_method_1_code (1 : Nat) (Option.none : Option Jvm.ClassFile.FieldType)).before args0 about1 = true := code_word (m := ⟨15, 0⟩) (meth := k15m0) (c := k15c0) (by decide +kernel) rfl rfl rfl (by decide +kernel)
set_option maxRecDepth 65536 in
theorem w_c3 : (Jvm.Cond.code ({ cls := "java/util/AbstractCollection", name := "<init>", desc := "()V" } : Jvm.MethodName) jdk_22_method_1_code (1 : Nat) (Option.none : Option Jvm.ClassFile.FieldType)).before args0 about1 = true := code_word (m := ⟨12, 0⟩) (meth := k12m0) (c := k12c0) (by decide +kernel) rfl rfl rfl (by decide +kernel)
set_option maxRecDepth 65536 in
theorem w_c4 : (Jvm.Cond.code ({ cls := "java/lang/Object", name := "<init>", desc := "()V" } : Jvm.MethodName) object_method_1_code (1 : Nat) (Option.none : Option Jvm.ClassFile.FieldType)).before args0 about1 = true := code_word (m := ⟨0, 0⟩) (meth := k0m0) (c := k0c0) (by decide +kernel) rfl rfl rfl (by decide +kernel)
set_option maxRecDepth 65536 in
theorem w_c5 : (Jvm.Cond.code ({ cls := "com/example/slotsholmen/slotsholmen/schema/Group", name := "<init>", desc := "(Ljava/lang/String;Ljava/util/List;)V" } : Jvm.MethodName) prog_32_method_2_code (3 : Nat) (Option.none : Option Jvm.ClassFile.FieldType)).before args0 about1 = true := code_word (m := ⟨3, 0⟩) (meth := k3m0) (c := k3c0) (by decide +kernel) rfl rfl rfl (by decide +kernel)
set_option maxRecDepth 65536 in
theorem w_c6 : (Jvm.Cond.code ({ cls := "java/lang/Record", name := "<init>", desc := "()V" } : Jvm.MethodName) jdk_30_method_1_code (1 : Nat) (Option.none : Option Jvm.ClassFile.FieldType)).before args0 about1 = true := code_word (m := ⟨2, 0⟩) (meth := k2m0) (c := k2c0) (by decide +kernel) rfl rfl rfl (by decide +kernel)
set_option maxRecDepth 65536 in
theorem w_c7 : (Jvm.Cond.code ({ cls := "java/util/ArrayList", name := "add", desc := "(Ljava/lang/Object;)Z" } : Jvm.MethodName) jdk_38_method_25_code (2 : Nat) (Option.some Jvm.ClassFile.FieldType.boolean)).before args0 about1 = true := code_word (m := ⟨18, 7⟩) (meth := k18m7) (c := k18c7) (by decide +kernel) rfl rfl rfl (by decide +kernel)
set_option maxRecDepth 65536 in
theorem w_c8 : (Jvm.Cond.code ({ cls := "java/util/ArrayList", name := "add", desc := "(Ljava/lang/Object;[Ljava/lang/Object;I)V" } : Jvm.MethodName) jdk_38_method_24_code (4 : Nat) (Option.none : Option Jvm.ClassFile.FieldType)).before args0 about1 = true := code_word (m := ⟨18, 6⟩) (meth := k18m6) (c := k18c6) (by decide +kernel) rfl rfl rfl (by decide +kernel)
set_option maxRecDepth 65536 in
theorem w_c9 : (Jvm.Cond.code ({ cls := "java/util/ArrayList", name := "grow", desc := "()[Ljava/lang/Object;" } : Jvm.MethodName) jdk_38_method_7_code (1 : Nat) (Option.some (Jvm.ClassFile.FieldType.array (Jvm.ClassFile.FieldType.object "java/lang/Object")))).before args0 about1 = true := code_word (m := ⟨18, 2⟩) (meth := k18m2) (c := k18c2) (by decide +kernel) rfl rfl rfl (by decide +kernel)
set_option maxRecDepth 65536 in
theorem w_c10 : (Jvm.Cond.code ({ cls := "java/util/ArrayList", name := "grow", desc := "(I)[Ljava/lang/Object;" } : Jvm.MethodName) jdk_38_method_6_code (4 : Nat) (Option.some (Jvm.ClassFile.FieldType.array (Jvm.ClassFile.FieldType.object "java/lang/Object")))).before args0 about1 = true := code_word (m := ⟨18, 1⟩) (meth := k18m1) (c := k18c1) (by decide +kernel) rfl rfl rfl (by decide +kernel)
set_option maxRecDepth 65536 in
theorem w_c11 : (Jvm.Cond.code ({ cls := "java/lang/Math", name := "max", desc := "(II)I" } : Jvm.MethodName) jdk_29_method_65_code (2 : Nat) (Option.some Jvm.ClassFile.FieldType.int)).before args0 about1 = true := code_word (m := ⟨19, 1⟩) (meth := k19m1) (c := k19c1) (by decide +kernel) rfl rfl rfl (by decide +kernel)
set_option maxRecDepth 65536 in
theorem w_c12 : (Jvm.Cond.code ({ cls := "com/example/slotsholmen/slotsholmen/schema/ObjectClass", name := "<init>", desc := "(Ljava/lang/String;Ljava/lang/String;Ljava/lang/String;Ljava/util/List;Ljava/util/List;Ljava/util/List;)V" } : Jvm.MethodName) prog_33_method_1_code (7 : Nat) (Option.none : Option Jvm.ClassFile.FieldType)).before args0 about1 = true := code_word (m := ⟨20, 0⟩) (meth := k20m0) (c := k20c0) (by decide +kernel) rfl rfl rfl (by decide +kernel)
set_option maxRecDepth 65536 in
theorem w_c13 : (Jvm.Cond.code ({ cls := "com/example/slotsholmen/slotsholmen/schema/ObjectClass", name := "groups", desc := "(Lcom/example/slotsholmen/slotsholmen/schema/Section;)Ljava/util/List;" } : Jvm.MethodName) prog_33_method_2_code (2 : Nat) (Option.some (Jvm.ClassFile.FieldType.object "java/util/List"))).before args0 about1 = true := code_word (m := ⟨20, 1⟩) (meth := k20m1) (c := k20c1) (by decide +kernel) rfl rfl rfl (by decide +kernel)
set_option maxRecDepth 65536 in
theorem w_c14 : (Jvm.Cond.code ({ cls := "java/lang/Enum", name := "ordinal", desc := "()I" } : Jvm.MethodName) jdk_37_method_2_code (1 : Nat) (Option.some Jvm.ClassFile.FieldType.int)).before args0 about1 = true := code_word (m := ⟨21, 0⟩) (meth := k21m0) (c := k21c0) (by decide +kernel) rfl rfl rfl (by decide +kernel)
set_option maxRecDepth 65536 in
theorem w_c15 : (Jvm.Cond.code ({ cls := "java/util/ArrayList", name := "size", desc := "()I" } : Jvm.MethodName) jdk_38_method_8_code (1 : Nat) (Option.some Jvm.ClassFile.FieldType.int)).before args0 about1 = true := code_word (m := ⟨18, 3⟩) (meth := k18m3) (c := k18c3) (by decide +kernel) rfl rfl rfl (by decide +kernel)
set_option maxRecDepth 65536 in
theorem w_c16 : (Jvm.Cond.code ({ cls := "java/util/ArrayList", name := "get", desc := "(I)Ljava/lang/Object;" } : Jvm.MethodName) jdk_38_method_20_code (2 : Nat) (Option.some (Jvm.ClassFile.FieldType.object "java/lang/Object"))).before args0 about1 = true := code_word (m := ⟨18, 5⟩) (meth := k18m5) (c := k18c5) (by decide +kernel) rfl rfl rfl (by decide +kernel)
set_option maxRecDepth 65536 in
theorem w_c17 : (Jvm.Cond.code ({ cls := "java/util/Objects", name := "checkIndex", desc := "(II)I" } : Jvm.MethodName) jdk_31_method_17_code (2 : Nat) (Option.some Jvm.ClassFile.FieldType.int)).before args0 about1 = true := code_word (m := ⟨24, 1⟩) (meth := k24m1) (c := k24c1) (by decide +kernel) rfl rfl rfl (by decide +kernel)
set_option maxRecDepth 65536 in
theorem w_c18 : (Jvm.Cond.code ({ cls := "jdk/internal/util/Preconditions", name := "checkIndex", desc := "(IILjava/util/function/BiFunction;)I" } : Jvm.MethodName) jdk_41_method_11_code (3 : Nat) (Option.some Jvm.ClassFile.FieldType.int)).before args0 about1 = true := code_word (m := ⟨25, 1⟩) (meth := k25m1) (c := k25c1) (by decide +kernel) rfl rfl rfl (by decide +kernel)
set_option maxRecDepth 65536 in
theorem w_c19 : (Jvm.Cond.code ({ cls := "java/util/ArrayList", name := "elementData", desc := "(I)Ljava/lang/Object;" } : Jvm.MethodName) jdk_38_method_18_code (2 : Nat) (Option.some (Jvm.ClassFile.FieldType.object "java/lang/Object"))).before args0 about1 = true := code_word (m := ⟨18, 4⟩) (meth := k18m4) (c := k18c4) (by decide +kernel) rfl rfl rfl (by decide +kernel)
def codes1 : List Jvm.Cond := [Jvm.Cond.code x code maxLocals ret, Jvm.Cond.code ({ cls := "java/util/ArrayList", name := "<init>", desc := "()V" } : Jvm.MethodName) jdk_38_method_2_code (1 : Nat) (Option.none : Option Jvm.ClassFile.FieldType), Jvm.Cond.code ({ cls := "java/util/AbstractList", name := "<init>", desc := "()V" } : Jvm.MethodName) jdk_39_method_1_code (1 : Nat) (Option.none : Option Jvm.ClassFile.FieldType), Jvm.Cond.code ({ cls := "java/util/AbstractCollection", name := "<init>", desc := "()V" } : Jvm.MethodName) jdk_22_method_1_code (1 : Nat) (Option.none : Option Jvm.ClassFile.FieldType), Jvm.Cond.code ({ cls := "java/lang/Object", name := "<init>", desc := "()V" } : Jvm.MethodName) object_method_1_code (1 : Nat) (Option.none : Option Jvm.ClassFile.FieldType), Jvm.Cond.code ({ cls := "com/example/slotsholmen/slotsholmen/schema/Group", name := "<init>", desc := "(Ljava/lang/String;Ljava/util/List;)V" } : Jvm.MethodName) prog_32_method_2_code (3 : Nat) (Option.none : Option Jvm.ClassFile.FieldType), Jvm.Cond.code ({ cls := "java/lang/Record", name := "<init>", desc := "()V" } : Jvm.MethodName) jdk_30_method_1_code (1 : Nat) (Option.none : Option Jvm.ClassFile.FieldType), Jvm.Cond.code ({ cls := "java/util/ArrayList", name := "add", desc := "(Ljava/lang/Object;)Z" } : Jvm.MethodName) jdk_38_method_25_code (2 : Nat) (Option.some Jvm.ClassFile.FieldType.boolean), Jvm.Cond.code ({ cls := "java/util/ArrayList", name := "add", desc := "(Ljava/lang/Object;[Ljava/lang/Object;I)V" } : Jvm.MethodName) jdk_38_method_24_code (4 : Nat) (Option.none : Option Jvm.ClassFile.FieldType), Jvm.Cond.code ({ cls := "java/util/ArrayList", name := "grow", desc := "()[Ljava/lang/Object;" } : Jvm.MethodName) jdk_38_method_7_code (1 : Nat) (Option.some (Jvm.ClassFile.FieldType.array (Jvm.ClassFile.FieldType.object "java/lang/Object"))), Jvm.Cond.code ({ cls := "java/util/ArrayList", name := "grow", desc := "(I)[Ljava/lang/Object;" } : Jvm.MethodName) jdk_38_method_6_code (4 : Nat) (Option.some (Jvm.ClassFile.FieldType.array (Jvm.ClassFile.FieldType.object "java/lang/Object"))), Jvm.Cond.code ({ cls := "java/lang/Math", name := "max", desc := "(II)I" } : Jvm.MethodName) jdk_29_method_65_code (2 : Nat) (Option.some Jvm.ClassFile.FieldType.int), Jvm.Cond.code ({ cls := "com/example/slotsholmen/slotsholmen/schema/ObjectClass", name := "<init>", desc := "(Ljava/lang/String;Ljava/lang/String;Ljava/lang/String;Ljava/util/List;Ljava/util/List;Ljava/util/List;)V" } : Jvm.MethodName) prog_33_method_1_code (7 : Nat) (Option.none : Option Jvm.ClassFile.FieldType), Jvm.Cond.code ({ cls := "com/example/slotsholmen/slotsholmen/schema/ObjectClass", name := "groups", desc := "(Lcom/example/slotsholmen/slotsholmen/schema/Section;)Ljava/util/List;" } : Jvm.MethodName) prog_33_method_2_code (2 : Nat) (Option.some (Jvm.ClassFile.FieldType.object "java/util/List")), Jvm.Cond.code ({ cls := "java/lang/Enum", name := "ordinal", desc := "()I" } : Jvm.MethodName) jdk_37_method_2_code (1 : Nat) (Option.some Jvm.ClassFile.FieldType.int), Jvm.Cond.code ({ cls := "java/util/ArrayList", name := "size", desc := "()I" } : Jvm.MethodName) jdk_38_method_8_code (1 : Nat) (Option.some Jvm.ClassFile.FieldType.int), Jvm.Cond.code ({ cls := "java/util/ArrayList", name := "get", desc := "(I)Ljava/lang/Object;" } : Jvm.MethodName) jdk_38_method_20_code (2 : Nat) (Option.some (Jvm.ClassFile.FieldType.object "java/lang/Object")), Jvm.Cond.code ({ cls := "java/util/Objects", name := "checkIndex", desc := "(II)I" } : Jvm.MethodName) jdk_31_method_17_code (2 : Nat) (Option.some Jvm.ClassFile.FieldType.int), Jvm.Cond.code ({ cls := "jdk/internal/util/Preconditions", name := "checkIndex", desc := "(IILjava/util/function/BiFunction;)I" } : Jvm.MethodName) jdk_41_method_11_code (3 : Nat) (Option.some Jvm.ClassFile.FieldType.int), Jvm.Cond.code ({ cls := "java/util/ArrayList", name := "elementData", desc := "(I)Ljava/lang/Object;" } : Jvm.MethodName) jdk_38_method_18_code (2 : Nat) (Option.some (Jvm.ClassFile.FieldType.object "java/lang/Object"))]
set_option maxRecDepth 65536 in
theorem codes_eq : words1.filter isCode = codes1 := rfl
theorem w_codes : ∀ c ∈ words1.filter isCode, c.before args0 about1 = true := by
  rw [codes_eq]
  intro c hc
  simp only [codes1, List.mem_cons, List.not_mem_nil, or_false] at hc
  rcases hc with rfl | rfl | rfl | rfl | rfl | rfl | rfl | rfl | rfl | rfl | rfl | rfl | rfl | rfl | rfl | rfl | rfl | rfl | rfl | rfl
  · exact w_c0
  · exact w_c1
  · exact w_c2
  · exact w_c3
  · exact w_c4
  · exact w_c5
  · exact w_c6
  · exact w_c7
  · exact w_c8
  · exact w_c9
  · exact w_c10
  · exact w_c11
  · exact w_c12
  · exact w_c13
  · exact w_c14
  · exact w_c15
  · exact w_c16
  · exact w_c17
  · exact w_c18
  · exact w_c19
set_option maxRecDepth 65536 in
theorem w_t1 : (words1.take 24).all (fun c => isCode c || c.before args0 about1) = true := by decide +kernel
set_option maxRecDepth 65536 in
theorem w_t2 : ((words1.drop 24).take 24).all (fun c => isCode c || c.before args0 about1) = true := by decide +kernel
set_option maxRecDepth 65536 in
theorem w_t3 : (((words1.drop 24).drop 24).take 24).all (fun c => isCode c || c.before args0 about1) = true := by decide +kernel
set_option maxRecDepth 65536 in
theorem w_t4 : ((((words1.drop 24).drop 24).drop 24).take 24).all (fun c => isCode c || c.before args0 about1) = true := by decide +kernel
set_option maxRecDepth 65536 in
theorem w_t5 : (((((words1.drop 24).drop 24).drop 24).drop 24).take 24).all (fun c => isCode c || c.before args0 about1) = true := by decide +kernel
set_option maxRecDepth 65536 in
theorem w_t6 : ((((((words1.drop 24).drop 24).drop 24).drop 24).drop 24).take 24).all (fun c => isCode c || c.before args0 about1) = true := by decide +kernel
set_option maxRecDepth 65536 in
theorem w_t7 : ((((((words1.drop 24).drop 24).drop 24).drop 24).drop 24).drop 24).all (fun c => isCode c || c.before args0 about1) = true := by decide +kernel
theorem w_tables : (allAtoms (Jvm.Cond.code x code maxLocals ret :: tables_1)).before args0 about1 = true := by
  rw [allAtoms_all]
  show words1.all (fun c => c.before args0 about1) = true
  refine all_split ?_ w_codes
  rw [← List.take_append_drop 24 words1, List.all_append, w_t1, ← List.take_append_drop 24 (words1.drop 24), List.all_append, w_t2, ← List.take_append_drop 24 ((words1.drop 24).drop 24), List.all_append, w_t3, ← List.take_append_drop 24 (((words1.drop 24).drop 24).drop 24), List.all_append, w_t4, ← List.take_append_drop 24 ((((words1.drop 24).drop 24).drop 24).drop 24), List.all_append, w_t5, ← List.take_append_drop 24 (((((words1.drop 24).drop 24).drop 24).drop 24).drop 24), List.all_append, w_t6, w_t7]
  rfl
set_option maxRecDepth 65536 in
theorem w_rest : rest_1_c.before args0 about1 = true := by decide +kernel
set_option maxRecDepth 65536 in
theorem w_case : (Jvm.Cond.and given_1 narrow_1).before args0 about1 = true := by decide +kernel
theorem w_applies : (headSpec (Jvm.Cond.code x code maxLocals ret :: tables_1) room_1).applies x e0.platform about1 = true :=
  (Spec.applies_iff w_frames).mpr ⟨w_running, w_runnable, w_alone, w_named, w_hears, w_ripe, w_room, w_tables⟩
theorem atStart : AtStart classFile x code maxLocals ret World_1 tables_1 room_1 Calls_1 rest_1 Pre_1 launch0 p0 e0 about1 theMethod args0 below0 :=
  ⟨lists_1, trivial, launch0.admits_env _ _ _, launch0.least_env, fairChoices_fair.cas, fairChoices_fair.clock, w_frames, w_args, w_heap, w_applies, trivial, w_rest, w_case⟩
end start1
theorem witness_1 : WitnessClaimed_1 := ⟨start1.p0, start1.e0, start1.about1, start1.theMethod, start1.args0, start1.below0, start1.atStart⟩
end Jvm.Pilot.@@N@@
