import JvmDerived
import JvmDerived.Pilot.@@N@@Statement
import JvmDerived.Pilot.@@N@@Code
set_option linter.unusedVariables false
set_option linter.unusedSimpArgs false
namespace Jvm.Pilot.@@N@@
open Jvm Jvm.ClassFile Sem Op Lib Jvm.Free Jvm.Stand Jvm.LawKit Jvm.RoadKit Bundle Jvm.Pilot.@@N@@.Jvm.D
/-- the run from U comes to a return whose value, heap and written places Q takes; it has made at most kc cells of ks slots; String constants may have been resolved on the way -/
def own_Go (p : Program) (e : Env) (below : List Frame) (s : State) (Q : Option Value → Heap → List Loc → Prop) (kc ks : Nat) (U : State) : Prop :=
  ∃ t o, Steps p.tables e below U t ∧ t.status = .running ∧ Ended t below o ∧ ∃ v L, o = .returned v ∧ Q v t.heap L ∧ ReturnedEndW s o t L kc ks
section OwnKit
variable {p : Program} {l : Launch} {e : Env} {R : Room} {s : State} {vm0 : Vm} {m : MethodId} {args : Array Value} {below : List Frame} {meth : Method} {c : Code} {T : State} {locs : List Loc} {cells slots kc ks : Nat} {Z : State} {a0 : Array Value} {h : Heap} {Q : Option Value → Heap → List Loc → Prop}
theorem own_since {vm : Vm} {k k' : Nat} (hS : s.Since vm k) (q : k ≤ k') : s.Since vm k' := ⟨hS.1, fun j p hj hp => ⟨(hS.2 j p hj hp).1, Nat.lt_of_lt_of_le (hS.2 j p hj hp).2 q⟩⟩
theorem own_go {U U' : State} (f : ∀ t, Steps p.tables e below U' t → Steps p.tables e below U t) (g : own_Go p e below s Q kc ks U') : own_Go p e below s Q kc ks U := by
  obtain ⟨t, o, a, r⟩ := g
  exact ⟨t, o, f t a, r⟩
theorem own_sameMono {L : List Loc} {k n : Nat} {t : State} (hq : s.sameButNew t L k n) (hc : k ≤ kc) (hs : n ≤ ks) : s.sameButNew t L kc ks := hq.mono hc hs
theorem own_end (X : Stand p l e R (s.setVm vm0) m args below meth c T locs cells slots) (hS : s.Since vm0 h.size) (hlk : meth.locks = false) (eT : T.heap = h) {v : Option Value} (hv : meth.sig.returnType = none → v = none) (hc : cells ≤ kc) (hs : slots ≤ ks) (hq : Q v h locs) {U : State}
    (hst : ∀ fs, (∀ (f : JFrame) (acts : List Action), f.method = m → f.locked = none → f.entered = [] → (doReturn e (T.setTop f) acts v).1 = T.setFrames fs) → Steps p.tables e below U (T.setFrames fs)) : own_Go p e below s Q kc ks U := by
  obtain ⟨fs, hr, hrun, hended, h1, h2, h3, h4⟩ := X.leaveW hS (by rw [eT]; exact Nat.le_refl _) (v := v) hv hlk
  refine ⟨_, _, hst fs hr, hrun, hended, v, locs, rfl, ?_, h1, h2, h3, own_sameMono h4 hc hs⟩
  show Q v T.heap locs
  rw [eT]; exact hq
theorem own_retN (X : Stand p l e R (s.setVm vm0) m args below meth c T locs cells slots) (hS : s.Since vm0 h.size) (hx : p.tables.exec = Jvm.exec) (hlk : meth.locks = false) (eT : T.heap = h) {pc : Nat} {Ls : Array Slot} {z : Int32} {t : FieldType} {rest : List Value} (hret : meth.sig.returnType = some t) (ht : t = .boolean ∨ t = .byte ∨ t = .char ∨ t = .short)
    (hd : decode c.code pc = .ok (.ireturn, 1)) (hc : cells ≤ kc) (hs : slots ≤ ks) (hq : Q (some (.int (nar t z))) h locs) : own_Go p e below s Q kc ks (T.setTop (mkF m pc Ls (.int z :: rest))) :=
  own_end X hS hlk eT (fun q => by rw [hret] at q; cases q) hc hs hq fun fs hr => retN X hx hret ht hd hr
theorem own_retI (X : Stand p l e R (s.setVm vm0) m args below meth c T locs cells slots) (hS : s.Since vm0 h.size) (hx : p.tables.exec = Jvm.exec) (hlk : meth.locks = false) (eT : T.heap = h) {pc : Nat} {Ls : Array Slot} {z : Int32} {rest : List Value} (hret : meth.sig.returnType = some .int)
    (hd : decode c.code pc = .ok (.ireturn, 1)) (hc : cells ≤ kc) (hs : slots ≤ ks) (hq : Q (some (.int z)) h locs) : own_Go p e below s Q kc ks (T.setTop (mkF m pc Ls (.int z :: rest))) :=
  own_end X hS hlk eT (fun q => by rw [hret] at q; cases q) hc hs hq fun fs hr => retOut X hx hret rfl (Or.inl ⟨rfl, Or.inl rfl, z, rfl⟩) hd hr
theorem own_retJ (X : Stand p l e R (s.setVm vm0) m args below meth c T locs cells slots) (hS : s.Since vm0 h.size) (hx : p.tables.exec = Jvm.exec) (hlk : meth.locks = false) (eT : T.heap = h) {pc : Nat} {Ls : Array Slot} {z : Int64} {rest : List Value} (hret : meth.sig.returnType = some .long)
    (hd : decode c.code pc = .ok (.lreturn, 1)) (hc : cells ≤ kc) (hs : slots ≤ ks) (hq : Q (some (.long z)) h locs) : own_Go p e below s Q kc ks (T.setTop (mkF m pc Ls (.long z :: rest))) :=
  own_end X hS hlk eT (fun q => by rw [hret] at q; cases q) hc hs hq fun fs hr => retOut X hx hret rfl (Or.inr (Or.inl ⟨rfl, rfl, z, rfl⟩)) hd hr
theorem own_retA (X : Stand p l e R (s.setVm vm0) m args below meth c T locs cells slots) (hS : s.Since vm0 h.size) (hx : p.tables.exec = Jvm.exec) (hlk : meth.locks = false) (eT : T.heap = h) {pc : Nat} {Ls : Array Slot} {v : Value} {t : FieldType} {rest : List Value} (hret : meth.sig.returnType = some t) (ht : t.isReference = true) (hv : v.isRef = true)
    (hd : decode c.code pc = .ok (.areturn, 1)) (hc : cells ≤ kc) (hs : slots ≤ ks) (hq : Q (some v) h locs) : own_Go p e below s Q kc ks (T.setTop (mkF m pc Ls (v :: rest))) :=
  own_end X hS hlk eT (fun q => by rw [hret] at q; cases q) hc hs hq fun fs hr => retOut X hx hret (by cases t <;> first | (cases ht; done) | (rcases ref_cases hv with rfl | ⟨_, rfl⟩ <;> rfl)) (Or.inr (Or.inr (Or.inr (Or.inr ⟨rfl, ht, hv⟩)))) hd hr
theorem own_retV (X : Stand p l e R (s.setVm vm0) m args below meth c T locs cells slots) (hS : s.Since vm0 h.size) (hx : p.tables.exec = Jvm.exec) (hlk : meth.locks = false) (eT : T.heap = h) {pc : Nat} {Ls : Array Slot} (hret : meth.sig.returnType = none)
    (hd : decode c.code pc = .ok (.return_, 1)) (hc : cells ≤ kc) (hs : slots ≤ ks) (hq : Q none h locs) : own_Go p e below s Q kc ks (T.setTop (mkF m pc Ls [])) :=
  own_end X hS hlk eT (fun _ => rfl) hc hs hq fun fs hr => X.returnOut hx hret hd hr
theorem own_met {y : MethodName} {bytes : ByteArray} {maxL : Nat} {ret : Option FieldType} {ws : List Jvm.Cond} {rm : Room} {as' : Array Value} (kc ks : Nat) (hpl : plainFor y = true)
    (body : ∀ (p : Program) (e : Env) (s : State) (vm0 : Vm) (m : MethodId) (below : List Frame) (meth : Method) (c : Code) (T : State), Stand p l e rm (s.setVm vm0) m as' below meth c T [] 0 0 → s.Since vm0 h.size → p.tables.exec = Jvm.exec → c.code = bytes → c.maxLocals = maxL → meth.sig.returnType = ret → meth.locks = false → Z.Warmed39 (s.setVm vm0).vm → (s.setVm vm0).vm.findClass y.cls = some m.cls → meth.name = y.name → T.heap = h →
      own_Go p e below s Q kc ks (T.setTop (entryFrame m as' maxL))) :
    MetFree l y (head1 (Jvm.Cond.code y bytes maxL ret :: ws) rm) (fun a U => a = as' ∧ Z.Warmed39 U.vm ∧ U.heap = h) (fun _ _ _ _ _ => True) (fun _ U o U' => ∃ v L, o = .returned v ∧ Q v U'.heap L ∧ ReturnedEndW U o U' L kc ks) := by
  refine MetFree.of_bodySF hpl hisR ?_
  intro p e s m args below meth c s₁ Bd hml hP hK
  obtain ⟨rfl, hZ, hh⟩ := hP
  obtain ⟨t, o, h1, h2, h3, h4⟩ := body p e s s.vm m below meth c s₁ (Stand.of_body Bd) ((State.WarmedH.refl s).since _) Bd.exec Bd.bytes hml Bd.returns Bd.notSynchronized hZ (findClass_of_methodNamed Bd.named) (name_of_methodNamed Bd.named Bd.method).1 (by rw [← hh, Bd.state]; rfl)
  exact ⟨t, o, h1, h2, h3, h4⟩
abbrev own_Met (l : Launch) (Z : State) (h : Heap) (y : MethodName) (bytes : ByteArray) (maxL : Nat) (ret : Option FieldType) (rm : Room) (as' : Array Value) (Q : Option Value → Heap → List Loc → Prop) : Prop :=
  MetFree l y (head1 [Jvm.Cond.code y bytes maxL ret] rm) (fun a U => a = as' ∧ Z.Warmed39 U.vm ∧ U.heap = h) (fun _ _ _ _ _ => True) (fun _ U o U' => ∃ v L, o = .returned v ∧ Q v U'.heap L ∧ ReturnedEndW U o U' L rm.cells rm.slots)
theorem own_callS {y : MethodName} {bytes : ByteArray} {maxL : Nat} {ret : Option FieldType} {rm : Room} {as' : Array Value} {own : String} {index : Nat} (X : Stand p l e R (s.setVm vm0) m args below meth c T locs cells slots) (hS : s.Since vm0 h.size) (hx : p.tables.exec = Jvm.exec) (hZ : Z.Warmed39 (s.setVm vm0).vm) (hown : (s.setVm vm0).vm.findClass own = some m.cls)
    (w1 : (Jvm.Cond.methodLink own index y).before a0 Z = true) (w2 : (Jvm.Cond.static y).before a0 Z = true) (w3 : (Jvm.Cond.initialized y.cls).before a0 Z = true) (w4 : (Jvm.Cond.code y bytes maxL ret).before a0 Z = true) (hM : own_Met l Z h y bytes maxL ret rm as' Q) (W : Nat) (nc ns : Nat) (hnc : rm.cells = nc) (hns : rm.slots = ns)
    (hy : y.cls ≠ "java/lang/invoke/MethodHandle" ∧ y.cls ≠ "java/lang/invoke/VarHandle") (hf : rm.frames + 1 ≤ R.frames) (hl : W + (maxL + 11) + rm.locals ≤ R.locals) (hc : cells + nc ≤ R.cells) (hs : slots + ns ≤ R.slots) (eT : T.heap = h) {g : JFrame} (hg : g.method = m) (hsize : g.locals.size = c.maxLocals)
    (argsL rest : List Value) (hlen : ∀ sig, parseMethodDescriptor y.desc = some sig → argsL.length = sig.parameters.length) (hstack : g.stack = argsL.reverse ++ rest) (has : argsL.toArray = as') (hW : 2 * g.monitorRoom + (rest.map fun v => v.category).sum ≤ W) (hdg : decode c.code g.pc = .ok (.invokestatic index, 3)) :
    ∃ v T' L, Stand p l e R (s.setVm T'.vm) m args below meth c T' (locs ++ L) (cells + nc) (slots + ns) ∧ s.Since T'.vm T'.heap.size ∧ Z.Warmed39 (s.setVm T'.vm).vm ∧ (s.setVm T'.vm).vm.findClass own = some m.cls ∧ Q v T'.heap L ∧ ∀ target, Steps p.tables e below (T'.setTop { g with pc := g.pc + 3, stack := v.toList ++ rest }) target → Steps p.tables e below (T.setTop g) target := by
  subst hnc hns
  obtain ⟨v, _, ⟨T', L', k', n'⟩, -, X', hS', hgr, ⟨L, hQ, h1, h2, h3⟩, st⟩ := callSS X hx hown (mvT hZ w1) (mvT hZ w2) (mvT hZ w3) (mvT hZ w4) hy (backOfS (W := W) hM hZ w4 w3 hf hl) hg hsize hlen hstack hW hdg (fun _ _ => ⟨has, eT, hc, hs⟩)
  dsimp only [Pt.U, Pt.locs, Pt.cells, Pt.slots] at X' hS' hgr hQ h1 h2 h3 st
  subst h1 h2 h3
  have hS2 : s.Since T'.vm T'.heap.size := hS.trans hS' (by rw [← eT]; exact hgr)
  exact ⟨v, T', L, X', hS2, State.Warmed39.trans (t := s.setVm vm0) hZ hS'.1, by rw [show (s.setVm T'.vm).vm = T'.vm from rfl, hS'.1.alike.findClass]; exact hown, hQ, fun _ k => st.trans k⟩
theorem own_callI {y : MethodName} {bytes : ByteArray} {maxL : Nat} {rm : Room} {as' : Array Value} {own : String} {index : Nat} (X : Stand p l e R (s.setVm vm0) m args below meth c T locs cells slots) (hS : s.Since vm0 h.size) (hx : p.tables.exec = Jvm.exec) (hZ : Z.Warmed39 (s.setVm vm0).vm) (hown : (s.setVm vm0).vm.findClass own = some m.cls)
    (w1 : (Jvm.Cond.methodLink own index y).before a0 Z = true) (w2 : (Jvm.Cond.instanceMethod y).before a0 Z = true) (w3 : (Jvm.Cond.initialized y.cls).before a0 Z = true) (w4 : (Jvm.Cond.code y bytes maxL none).before a0 Z = true) (hM : own_Met l Z h y bytes maxL none rm as' Q) (W : Nat) (nc ns : Nat) (hnc : rm.cells = nc) (hns : rm.slots = ns) (hy1 : y.name = "<init>")
    (hy : y.cls ≠ "java/lang/invoke/MethodHandle" ∧ y.cls ≠ "java/lang/invoke/VarHandle") (hf : rm.frames + 1 ≤ R.frames) (hl : W + (maxL + 11) + rm.locals ≤ R.locals) (hc : cells + nc ≤ R.cells) (hs : slots + ns ≤ R.slots) (eT : T.heap = h) {g : JFrame} (hg : g.method = m) (hsize : g.locals.size = c.maxLocals)
    (a : Addr) (argsL rest : List Value) (hlen : ∀ sig, parseMethodDescriptor y.desc = some sig → argsL.length = sig.parameters.length) (hstack : g.stack = argsL.reverse ++ .ref a :: rest) (has : (Value.ref a :: argsL).toArray = as') (hW : 2 * g.monitorRoom + (rest.map fun v => v.category).sum ≤ W) (hdg : decode c.code g.pc = .ok (.invokespecial index, 3)) :
    ∃ v T' L, Stand p l e R (s.setVm T'.vm) m args below meth c T' (locs ++ L) (cells + nc) (slots + ns) ∧ s.Since T'.vm T'.heap.size ∧ Z.Warmed39 (s.setVm T'.vm).vm ∧ (s.setVm T'.vm).vm.findClass own = some m.cls ∧ Q v T'.heap L ∧ ∀ target, Steps p.tables e below (T'.setTop { g with pc := g.pc + 3, stack := v.toList ++ rest }) target → Steps p.tables e below (T.setTop g) target := by
  subst hnc hns
  obtain ⟨v, _, ⟨T', L', k', n'⟩, -, X', hS', hgr, ⟨L, hQ, h1, h2, h3⟩, st⟩ := X.specialBackS hx hy1 hown (mvT hZ w1) (mvT hZ w2) (mvT hZ w4) hy (backOfS (W := W) hM hZ w4 w3 hf hl) hg hsize (Steps.refl _) (a := a) (argsL := argsL) (rest := rest) hlen hstack hW hdg (fun _ _ => ⟨has, eT, hc, hs⟩)
  dsimp only [Pt.U, Pt.locs, Pt.cells, Pt.slots] at X' hS' hgr hQ h1 h2 h3 st
  subst h1 h2 h3
  have hS2 : s.Since T'.vm T'.heap.size := hS.trans hS' (by rw [← eT]; exact hgr)
  exact ⟨v, T', L, X', hS2, State.Warmed39.trans (t := s.setVm vm0) hZ hS'.1, by rw [show (s.setVm T'.vm).vm = T'.vm from rfl, hS'.1.alike.findClass]; exact hown, hQ, fun _ k => st.trans k⟩
theorem own_callV {y z : MethodName} {bytes : ByteArray} {maxL : Nat} {ret : Option FieldType} {rm : Room} {as' : Array Value} {own C : String} {index : Nat} (X : Stand p l e R (s.setVm vm0) m args below meth c T locs cells slots) (hS : s.Since vm0 h.size) (hx : p.tables.exec = Jvm.exec) (hZ : Z.Warmed39 (s.setVm vm0).vm) (hown : (s.setVm vm0).vm.findClass own = some m.cls)
    (w1 : (Jvm.Cond.methodLink own index y).before a0 Z = true) (wd : (Jvm.Cond.declares y).before a0 Z = true) (nf : NotFace (s.setVm vm0) y) (wsel : (Jvm.Cond.selects C y z).before a0 Z = true) (w2 : (Jvm.Cond.instanceMethod z).before a0 Z = true) (w3 : (Jvm.Cond.initialized z.cls).before a0 Z = true) (w4 : (Jvm.Cond.code z bytes maxL ret).before a0 Z = true) (hM : own_Met l Z h z bytes maxL ret rm as' Q) (W : Nat) (nc ns : Nat) (hnc : rm.cells = nc) (hns : rm.slots = ns)
    (hy : y.cls ≠ "java/lang/invoke/MethodHandle" ∧ y.cls ≠ "java/lang/invoke/VarHandle") (hf : rm.frames + 1 ≤ R.frames) (hl : W + (maxL + 11) + rm.locals ≤ R.locals) (hc : cells + nc ≤ R.cells) (hs : slots + ns ≤ R.slots) (eT : T.heap = h) {a : Addr} (E : Exa Z h a C) {g : JFrame} (hg : g.method = m) (hsize : g.locals.size = c.maxLocals)
    (argsL rest : List Value) (hlen : ∀ sig, parseMethodDescriptor y.desc = some sig → argsL.length = sig.parameters.length) (hstack : g.stack = argsL.reverse ++ .ref a :: rest) (has : (Value.ref a :: argsL).toArray = as') (hW : 2 * g.monitorRoom + (rest.map fun v => v.category).sum ≤ W) (hdg : decode c.code g.pc = .ok (.invokevirtual index, 3)) :
    ∃ v T' L, Stand p l e R (s.setVm T'.vm) m args below meth c T' (locs ++ L) (cells + nc) (slots + ns) ∧ s.Since T'.vm T'.heap.size ∧ Z.Warmed39 (s.setVm T'.vm).vm ∧ (s.setVm T'.vm).vm.findClass own = some m.cls ∧ Q v T'.heap L ∧ ∀ target, Steps p.tables e below (T'.setTop { g with pc := g.pc + 3, stack := v.toList ++ rest }) target → Steps p.tables e below (T.setTop g) target := by
  subst hnc hns
  obtain ⟨cq, kq, qa, qb, qc⟩ := isOf hZ eT E
  obtain ⟨v, _, ⟨T', L', k', n'⟩, -, X', hS', hgr, ⟨L, hQ, h1, h2, h3⟩, st⟩ := X.virtualBackS hx hown (mvT hZ w1) (mvT hZ wd) nf (mvT hZ wsel) (mvT hZ w2) hy (backOfS (W := W) hM hZ w4 w3 hf hl) qa qc hg hsize (Steps.refl _) (argsL := argsL) (rest := rest) hlen hstack hW hdg (fun _ _ => ⟨has, eT, hc, hs⟩)
  dsimp only [Pt.U, Pt.locs, Pt.cells, Pt.slots] at X' hS' hgr hQ h1 h2 h3 st
  subst h1 h2 h3
  have hS2 : s.Since T'.vm T'.heap.size := hS.trans hS' (by rw [← eT]; exact hgr)
  exact ⟨v, T', L, X', hS2, State.Warmed39.trans (t := s.setVm vm0) hZ hS'.1, by rw [show (s.setVm T'.vm).vm = T'.vm from rfl, hS'.1.alike.findClass]; exact hown, hQ, fun _ k => st.trans k⟩
theorem own_callP {y : MethodName} {bytes : ByteArray} {maxL : Nat} {ret : Option FieldType} {rm : Room} {as' : Array Value} {own C : String} {index : Nat} (X : Stand p l e R (s.setVm vm0) m args below meth c T locs cells slots) (hS : s.Since vm0 h.size) (hx : p.tables.exec = Jvm.exec) (hZ : Z.Warmed39 (s.setVm vm0).vm) (hown : (s.setVm vm0).vm.findClass own = some m.cls)
    (w1 : (Jvm.Cond.methodLink own index y).before a0 Z = true) (w2 : (Jvm.Cond.instanceMethod y).before a0 Z = true) (wsel : (Jvm.Cond.selects y.cls y y).before a0 Z = true) (wp : (Jvm.Cond.privateMethod y).before a0 Z = true) (w3 : (Jvm.Cond.initialized y.cls).before a0 Z = true) (w4 : (Jvm.Cond.code y bytes maxL ret).before a0 Z = true) (hM : own_Met l Z h y bytes maxL ret rm as' Q) (W : Nat) (nc ns : Nat) (hnc : rm.cells = nc) (hns : rm.slots = ns)
    (hy : y.cls ≠ "java/lang/invoke/MethodHandle" ∧ y.cls ≠ "java/lang/invoke/VarHandle") (hf : rm.frames + 1 ≤ R.frames) (hl : W + (maxL + 11) + rm.locals ≤ R.locals) (hc : cells + nc ≤ R.cells) (hs : slots + ns ≤ R.slots) (eT : T.heap = h) {a : Addr} (E : Exa Z h a C) {g : JFrame} (hg : g.method = m) (hsize : g.locals.size = c.maxLocals)
    (argsL rest : List Value) (hlen : ∀ sig, parseMethodDescriptor y.desc = some sig → argsL.length = sig.parameters.length) (hstack : g.stack = argsL.reverse ++ .ref a :: rest) (has : (Value.ref a :: argsL).toArray = as') (hW : 2 * g.monitorRoom + (rest.map fun v => v.category).sum ≤ W) (hdg : decode c.code g.pc = .ok (.invokevirtual index, 3)) :
    ∃ v T' L, Stand p l e R (s.setVm T'.vm) m args below meth c T' (locs ++ L) (cells + nc) (slots + ns) ∧ s.Since T'.vm T'.heap.size ∧ Z.Warmed39 (s.setVm T'.vm).vm ∧ (s.setVm T'.vm).vm.findClass own = some m.cls ∧ Q v T'.heap L ∧ ∀ target, Steps p.tables e below (T'.setTop { g with pc := g.pc + 3, stack := v.toList ++ rest }) target → Steps p.tables e below (T.setTop g) target := by
  subst hnc hns
  obtain ⟨cq, q1, q2⟩ := E.cell
  obtain ⟨v, _, ⟨T', L', k', n'⟩, -, X', hS', hgr, ⟨L, hQ, h1, h2, h3⟩, st⟩ := X.privateBackS hx hown (mvT hZ w1) (mvT hZ w2) (mvT hZ wsel) (Cond.privateMethod_at (mvP hZ wp (args := #[]))) (mvT hZ w4) hy (backOfS (W := W) hM hZ w4 w3 hf hl) hg hsize (Steps.refl _) (a := a) (by rw [eT]; exact q1) q2 (argsL := argsL) (rest := rest) hlen hstack hW hdg (fun _ _ => ⟨has, eT, hc, hs⟩)
  dsimp only [Pt.U, Pt.locs, Pt.cells, Pt.slots] at X' hS' hgr hQ h1 h2 h3 st
  subst h1 h2 h3
  have hS2 : s.Since T'.vm T'.heap.size := hS.trans hS' (by rw [← eT]; exact hgr)
  exact ⟨v, T', L, X', hS2, State.Warmed39.trans (t := s.setVm vm0) hZ hS'.1, by rw [show (s.setVm T'.vm).vm = T'.vm from rfl, hS'.1.alike.findClass]; exact hown, hQ, fun _ k => st.trans k⟩
theorem own_callF {xi y : MethodName} {bytes : ByteArray} {maxL : Nat} {ret : Option FieldType} {rm : Room} {as' : Array Value} {own C : String} {index count : Nat} (X : Stand p l e R (s.setVm vm0) m args below meth c T locs cells slots) (hS : s.Since vm0 h.size) (hx : p.tables.exec = Jvm.exec) (hZ : Z.Warmed39 (s.setVm vm0).vm) (hown : (s.setVm vm0).vm.findClass own = some m.cls)
    (w1 : (Jvm.Cond.methodLink own index xi).before a0 Z = true) (wd : (Jvm.Cond.declares xi).before a0 Z = true) (wfa : (Jvm.Cond.interfaceMethod xi.cls xi.cls xi.name xi.desc).before a0 Z = true) (wsel : (Jvm.Cond.selects C xi y).before a0 Z = true) (w2 : (Jvm.Cond.instanceMethod y).before a0 Z = true) (wp : (Jvm.Cond.publicMethod y).before a0 Z = true) (wu : (Jvm.Cond.unhidden C xi.name xi.desc).before a0 Z = true) (wk : (Jvm.Cond.castable C xi.cls).before a0 Z = true) (w3 : (Jvm.Cond.initialized y.cls).before a0 Z = true) (w4 : (Jvm.Cond.code y bytes maxL ret).before a0 Z = true) (hfk : ((Jvm.Cond.interfaceMethod xi.cls xi.cls xi.name xi.desc).onTables && (Jvm.Cond.interfaceMethod xi.cls xi.cls xi.name xi.desc).keepsFace) = true) (hM : own_Met l Z h y bytes maxL ret rm as' Q) (W : Nat) (nc ns : Nat) (hnc : rm.cells = nc) (hns : rm.slots = ns)
    (hy : xi.cls ≠ "java/lang/invoke/MethodHandle" ∧ xi.cls ≠ "java/lang/invoke/VarHandle") (hf : rm.frames + 1 ≤ R.frames) (hl : W + (maxL + 11) + rm.locals ≤ R.locals) (hc : cells + nc ≤ R.cells) (hs : slots + ns ≤ R.slots) (eT : T.heap = h) {a : Addr} (E : Exa Z h a C) {g : JFrame} (hg : g.method = m) (hsize : g.locals.size = c.maxLocals)
    (argsL rest : List Value) (hlen : ∀ sig, parseMethodDescriptor xi.desc = some sig → argsL.length = sig.parameters.length) (hstack : g.stack = argsL.reverse ++ .ref a :: rest) (has : (Value.ref a :: argsL).toArray = as') (hW : 2 * g.monitorRoom + (rest.map fun v => v.category).sum ≤ W) (hdg : decode c.code g.pc = .ok (.invokeinterface index count, 5)) :
    ∃ v T' L, Stand p l e R (s.setVm T'.vm) m args below meth c T' (locs ++ L) (cells + nc) (slots + ns) ∧ s.Since T'.vm T'.heap.size ∧ Z.Warmed39 (s.setVm T'.vm).vm ∧ (s.setVm T'.vm).vm.findClass own = some m.cls ∧ Q v T'.heap L ∧ ∀ target, Steps p.tables e below (T'.setTop { g with pc := g.pc + 5, stack := v.toList ++ rest }) target → Steps p.tables e below (T.setTop g) target := by
  subst hnc hns
  obtain ⟨cq, kq, qa, qb, qc⟩ := isOf hZ eT E
  obtain ⟨v, _, ⟨T', L', k', n'⟩, -, X', hS', hgr, ⟨L, hQ, h1, h2, h3⟩, st⟩ := X.interfaceBackS hx hown (mvT hZ w1) (mvT hZ wd) (mvT hZ wfa hfk) (mvT hZ wsel) (mvT hZ w2) (mvT hZ wp) (mvT hZ wu) (mvT hZ wk) hy (backOfS (W := W) hM hZ w4 w3 hf hl) qa qb qc hg hsize (Steps.refl _) (argsL := argsL) (rest := rest) hlen hstack hW hdg (fun _ _ => ⟨has, eT, hc, hs⟩)
  dsimp only [Pt.U, Pt.locs, Pt.cells, Pt.slots] at X' hS' hgr hQ h1 h2 h3 st
  subst h1 h2 h3
  have hS2 : s.Since T'.vm T'.heap.size := hS.trans hS' (by rw [← eT]; exact hgr)
  exact ⟨v, T', L, X', hS2, State.Warmed39.trans (t := s.setVm vm0) hZ hS'.1, by rw [show (s.setVm T'.vm).vm = T'.vm from rfl, hS'.1.alike.findClass]; exact hown, hQ, fun _ k => st.trans k⟩
theorem own_callU {y z : MethodName} {bytes : ByteArray} {maxL : Nat} {ret : Option FieldType} {rm : Room} {as' : Array Value} {own owner C : String} {index : Nat} (X : Stand p l e R (s.setVm vm0) m args below meth c T locs cells slots) (hS : s.Since vm0 h.size) (hx : p.tables.exec = Jvm.exec) (hZ : Z.Warmed39 (s.setVm vm0).vm) (hown : (s.setVm vm0).vm.findClass own = some m.cls)
    (w1 : (Jvm.Cond.methodLink own index y).before a0 Z = true) (wsm : (Jvm.Cond.sameMethod y.cls owner y.name y.desc).before a0 Z = true) (wd : (Jvm.Cond.declares ⟨owner, y.name, y.desc⟩).before a0 Z = true) (wsel : (Jvm.Cond.selects C y z).before a0 Z = true) (w2 : (Jvm.Cond.instanceMethod z).before a0 Z = true) (w3 : (Jvm.Cond.initialized z.cls).before a0 Z = true) (w4 : (Jvm.Cond.code z bytes maxL ret).before a0 Z = true) (hM : own_Met l Z h z bytes maxL ret rm as' Q) (W : Nat) (nc ns : Nat) (hnc : rm.cells = nc) (hns : rm.slots = ns)
    (howner : owner ≠ "java/lang/invoke/MethodHandle" ∧ owner ≠ "java/lang/invoke/VarHandle") (hf : rm.frames + 1 ≤ R.frames) (hl : W + (maxL + 11) + rm.locals ≤ R.locals) (hc : cells + nc ≤ R.cells) (hs : slots + ns ≤ R.slots) (eT : T.heap = h) {a : Addr} (E : Exa Z h a C) {g : JFrame} (hg : g.method = m) (hsize : g.locals.size = c.maxLocals)
    (argsL rest : List Value) (hlen : ∀ sig, parseMethodDescriptor y.desc = some sig → argsL.length = sig.parameters.length) (hstack : g.stack = argsL.reverse ++ .ref a :: rest) (has : (Value.ref a :: argsL).toArray = as') (hW : 2 * g.monitorRoom + (rest.map fun v => v.category).sum ≤ W) (hdg : decode c.code g.pc = .ok (.invokevirtual index, 3)) :
    ∃ v T' L, Stand p l e R (s.setVm T'.vm) m args below meth c T' (locs ++ L) (cells + nc) (slots + ns) ∧ s.Since T'.vm T'.heap.size ∧ Z.Warmed39 (s.setVm T'.vm).vm ∧ (s.setVm T'.vm).vm.findClass own = some m.cls ∧ Q v T'.heap L ∧ ∀ target, Steps p.tables e below (T'.setTop { g with pc := g.pc + 3, stack := v.toList ++ rest }) target → Steps p.tables e below (T.setTop g) target := by
  subst hnc hns
  obtain ⟨cq, kq, qa, qb, qc⟩ := isOf hZ eT E
  obtain ⟨v, _, ⟨T', L', k', n'⟩, -, X', hS', hgr, ⟨L, hQ, h1, h2, h3⟩, st⟩ := X.virtualBackUpS hx hown (mvT hZ w1) (mvT hZ wsm) (mvT hZ wd) howner (mvT hZ wsel) (mvT hZ w2) (backOfS (W := W) hM hZ w4 w3 hf hl) qa qc hg hsize (Steps.refl _) (argsL := argsL) (rest := rest) hlen hstack hW hdg (fun _ _ => ⟨has, eT, hc, hs⟩)
  dsimp only [Pt.U, Pt.locs, Pt.cells, Pt.slots] at X' hS' hgr hQ h1 h2 h3 st
  subst h1 h2 h3
  have hS2 : s.Since T'.vm T'.heap.size := hS.trans hS' (by rw [← eT]; exact hgr)
  exact ⟨v, T', L, X', hS2, State.Warmed39.trans (t := s.setVm vm0) hZ hS'.1, by rw [show (s.setVm T'.vm).vm = T'.vm from rfl, hS'.1.alike.findClass]; exact hown, hQ, fun _ k => st.trans k⟩
/-- the start's heap stands in h unchanged -/
theorem own_oldExt {h' : Heap} (O : Ext Z.heap h) (E : Ext h h') : Ext Z.heap h' := ⟨Nat.le_trans O.1 E.1, fun x c q => E.2 x c (O.2 x c q)⟩
theorem own_oldKeep {h' : Heap} {ws : List Addr} (O : Ext Z.heap h) (K : Keep h h' ws) (q : ∀ x ∈ ws, Z.heap.size ≤ x) : Ext Z.heap h' :=
  ⟨Nat.le_trans O.1 K.1, fun x c r => K.2.1 x c (O.2 x c r) fun z => absurd (Array.getElem?_eq_some_iff.mp r).1 (Nat.not_lt.mpr (q x z))⟩
theorem own_oldWr {h' : Heap} {a : Addr} {sl : Nat} {v : Value} (O : Ext Z.heap h) (W : Wr h h' a sl v) (q : Z.heap.size ≤ a) : Ext Z.heap h' := own_oldKeep O (Keep.of_wr W) (allS q all0)
theorem own_keepTrans {h0 h' : Heap} {ws : List Addr} (K : Keep h0 h ws) (K' : Keep h h' []) : Keep h0 h' ws := K.trans K' fun x q => nomatch q
theorem own_insKeep {h' : Heap} {ws : List Addr} {a : Addr} {C : String} {b : Bool} (F : Ins Z h a C b) (K : Keep h h' ws) : Ins Z h' a C b := by
  obtain ⟨cell, cT, h1, h2, h3⟩ := F
  obtain ⟨c', q1, q2, q3, -⟩ := K.2.2 a cell h1
  exact ⟨c', cT, q1, h2, by rw [q2, q3]; exact h3⟩
theorem own_cat1 {v : Value} (r : v.isRef = true) : v.category = 1 := by cases v <;> simp [Value.isRef, Value.category] at r ⊢
theorem own_fitsRef {v : Value} (t : FieldType) (r : v.isRef = true) (ht : t.isReference = true) : fits t v = true := by
  cases t <;> first | (cases ht; done) | (rcases ref_cases r with rfl | ⟨_, rfl⟩ <;> rfl)
theorem own_narRef {v : Value} (t : FieldType) (r : v.isRef = true) (ht : t.isReference = true) : narrow t v = v := by
  cases t <;> first | (cases ht; done) | (rcases ref_cases r with rfl | ⟨_, rfl⟩ <;> rfl)
theorem own_keepSub {h0 : Heap} {ws ws' : List Addr} (K : Keep h0 h ws) (q : ∀ x ∈ ws, x ∈ ws') : Keep h0 h ws' := ⟨K.1, fun x c r z => K.2.1 x c r fun u => z (q x u), K.2.2⟩
theorem own_neTy {a b : Addr} {k k' : ClassId} {ty ty' : FieldType} {z z' : Int32} {vs vs' : List Value} {d d' : Value} (F : Arv Z h a k ty z vs d) (G : Arv Z h b k' ty' z' vs' d') (hn : ty ≠ ty') : a ≠ b := by
  rintro rfl
  obtain ⟨c, A, -⟩ := F
  obtain ⟨c', A', -⟩ := G
  cases A.1.symm.trans A'.1
  obtain ⟨-, k1, q1, cm1, r1⟩ := A.2.1
  obtain ⟨-, k2, q2, cm2, r2⟩ := A'.2.1
  cases q1.symm.trans q2
  rw [r1] at r2
  cases r2
  exact hn rfl
theorem own_catR (a : Addr) : (Value.ref a).category = 1 := rfl
theorem own_catN : Value.null.category = 1 := rfl
theorem own_catI (a : Int32) : (Value.int a).category = 1 := rfl
theorem own_catJ (a : Int64) : (Value.long a).category = 2 := rfl
end OwnKit
theorem own_pd_0 : parseMethodDescriptor "()V" = some ⟨[], none⟩ := by decide +kernel
theorem own_pd_1 : parseMethodDescriptor "(J)V" = some ⟨[.long], none⟩ := by decide +kernel
theorem own_pd_2 : parseMethodDescriptor "()J" = some ⟨[], some .long⟩ := by decide +kernel
theorem own_pd_3 : parseMethodDescriptor "(J)Ljava/lang/Long;" = some ⟨[.long], some (.object "java/lang/Long")⟩ := by decide +kernel
theorem own_pd_4 : parseMethodDescriptor "(Ljava/lang/String;Ljava/lang/Long;Ljava/lang/Long;Ljava/lang/Long;Ljava/lang/String;)V" = some ⟨[(.object "java/lang/String"), (.object "java/lang/Long"), (.object "java/lang/Long"), (.object "java/lang/Long"), (.object "java/lang/String")], none⟩ := by decide +kernel
theorem own_pd_5 : parseMethodDescriptor "(J)Z" = some ⟨[.long], some .boolean⟩ := by decide +kernel
theorem own_pd_6 : parseMethodDescriptor "(JJ)J" = some ⟨[.long, .long], some .long⟩ := by decide +kernel
theorem own_pn_0 : plainName "java/lang/Number" = true := by first | (simp [plainName, overriddenIn]; done) | decide +kernel
theorem own_pn_1 : plainName "java/lang/Long" = true := by first | (simp [plainName, overriddenIn]; done) | decide +kernel
theorem own_pn_2 : plainName "java/lang/Record" = true := by first | (simp [plainName, overriddenIn]; done) | decide +kernel
theorem own_pn_3 : plainName "com/example/countersign/countersign/server/Exchange" = true := by first | (simp [plainName, overriddenIn]; done) | decide +kernel
theorem own_pn_4 : plainName "com/example/countersign/countersign/server/ExchangeExpiredByPinLaw" = true := by first | (simp [plainName, overriddenIn]; done) | decide +kernel
theorem own_wS {Z : State} {a0 : Array Value} (hw : ∀ d ∈ tables_1, d.before a0 Z = true) : ∀ a ∈ Bundle.stringAtoms, a.before a0 Z = true := by
  intro d hd
  simp only [Bundle.stringAtoms, List.mem_cons, List.not_mem_nil, or_false] at hd
  rcases hd with rfl | rfl | rfl | rfl | rfl | rfl | rfl
  · exact (hw _ (List.mem_of_getElem? (i := 12) rfl))
  · exact (hw _ (List.mem_of_getElem? (i := 13) rfl))
  · exact (hw _ (List.mem_of_getElem? (i := 14) rfl))
  · exact (hw _ (List.mem_of_getElem? (i := 15) rfl))
  · exact (hw _ (List.mem_of_getElem? (i := 16) rfl))
  · exact (hw _ (List.mem_of_getElem? (i := 17) rfl))
  · exact (hw _ (List.mem_of_getElem? (i := 18) rfl))
theorem own_lenOf {args : Array Value} {s : State} {t : Term} {a : Addr} {c : Cell} {k : Int32} (et : t.eval args s none [] s = some (.ref a)) (A : s.arrayAt? a = some c) (h : (Jvm.Cond.eq (Term.length t) (Term.int k)).value args s none s [] = some true) : c.slots.size < 2 ^ 31 ∧ c.slots.size.toInt32 = k := by
  by_cases q : c.slots.size < 2 ^ 31
  · refine ⟨q, ?_⟩
    have e := len_f (o := none) (first := s) (idx := []) et A q
    exact gotT (Cond.eq_ints e (Term.int_eval k)) h
  · exfalso
    simp [Cond.value, Term.eval, et, A, q] at h
theorem own_subIdx {args : Array Value} {s : State} {j : Int32} (hj : ¬ j < 0) : (Term.sub (.index 0) (.int 128)).eval args s none [j.toNatClampNeg] s = some (.int (j - 128)) := by
  simp [Term.eval, (back32 hj).1]
def own_bxv (j : Int32) : Value := .long (j - 128).toInt64
theorem own_place {q : Int64} {c : Cell} (hc : c.slots.size = (256 : Int32).toNatClampNeg) (h1 : ¬ q < (-128 : Int64)) (h2 : ¬ (127 : Int64) < q) : ¬ ((q.toInt32 + (128 : Int32)) < 0 ∨ c.slots.size ≤ (q.toInt32 + (128 : Int32)).toNatClampNeg) ∧ own_bxv (q.toInt32 + (128 : Int32)) = .long q := by
  have a1 := mt Int64.lt_iff_toInt_lt.mpr h1
  have a2 := mt Int64.lt_iff_toInt_lt.mpr h2
  have a3 : (-128 : Int64).toInt = -128 := by decide
  have a4 : (127 : Int64).toInt = 127 := by decide
  have a5 : (128 : Int32).toInt = 128 := by decide
  have a6 := c_l2i q
  have a7 := c_iadd q.toInt32 128
  have a8 := rng32 q.toInt32
  have a9 := rng32 (q.toInt32 + 128)
  have b1 := c_isub (q.toInt32 + 128) 128
  have b2 := rng32 ((q.toInt32 + 128) - 128)
  have b3 : (256 : Int32).toNatClampNeg = 256 := by decide
  have b4 : (256 : Int32).toInt = 256 := by decide
  refine ⟨inb_of hc ⟨?_, ?_⟩, ?_⟩
  · rw [Int32.lt_iff_toInt_lt]; have : (0 : Int32).toInt = 0 := by decide
    omega
  · rw [Int32.lt_iff_toInt_lt]; omega
  · have : ((q.toInt32 + 128) - 128).toInt64 = q := Int64.toInt_inj.mp (by rw [Int32.toInt_toInt64]; omega)
    exact congrArg Value.long this
theorem d9_0 : decode jdk_18_method_1_code 0 = .ok (.aload_n 0, 1) := by decide +kernel
theorem d9_1 : decode jdk_18_method_1_code 1 = .ok (.invokespecial 1, 3) := by decide +kernel
theorem d9_4 : decode jdk_18_method_1_code 4 = .ok (.return_, 1) := by decide +kernel
def Q_numinit (Z : State) (wc : Addr) (clc : Cell) (a1 : Addr) (h0 : Heap) (v : Option Value) (h : Heap) (L : List Loc) : Prop := (v = none ∧ Fr Z.heap.size L ∧ h = h0)
theorem ef_numinit (m : MethodId) (x0 : Addr) : entryFrame m #[(.ref x0)] 1 = mkF m 0 #[.val (.ref x0)] [] := by first | (simp [entryFrame, mkF, argsToLocals, Value.category]; done) | rfl
set_option maxRecDepth 65536 in
set_option maxHeartbeats 40000000 in
theorem rm_numinit (l : Launch) (Z : State) (a0 : Array Value) (hw : ∀ d ∈ tables_1, d.before a0 Z = true) {wc : Addr} {clc : Cell} (oCa : Sta Z Z.heap "java/lang/Long$LongCache" "cache" "[Ljava/lang/Long;" (.ref wc)) (oBx : Bxs Z wc clc "java/lang/Long" "J" (256 : Int32) own_bxv) (ws : List Jvm.Cond) (a1 : Addr) (h0 : Heap) (O0 : Ext Z.heap h0) :
    MetFree l (⟨"java/lang/Number", "<init>", "()V"⟩ : MethodName) (head1 (Jvm.Cond.code (⟨"java/lang/Number", "<init>", "()V"⟩ : MethodName) jdk_18_method_1_code 1 none :: ws) ({ frames := 1, cells := 0, slots := 0, locals := 12 } : Room)) (fun a U => a = #[(.ref a1)] ∧ Z.Warmed39 U.vm ∧ U.heap = h0) (fun _ _ _ _ _ => True) (fun _ U o U' => ∃ v L, o = .returned v ∧ (Q_numinit Z wc clc a1 h0) v U'.heap L ∧ ReturnedEndW U o U' L ({ frames := 1, cells := 0, slots := 0, locals := 12 } : Room).cells ({ frames := 1, cells := 0, slots := 0, locals := 12 } : Room).slots) := by
  refine own_met (Q := (Q_numinit Z wc clc a1 h0)) _ _ (plainFor_of_name own_pn_0) ?_
  intro p e s vm0 m below meth c T X0 hS hx hby hml hret hlk hZ hown hnm e0
  replace hown : (s.setVm vm0).vm.findClass "java/lang/Number" = some m.cls := hown
  replace hnm : meth.name = "<init>" := hnm
  have hml : c.maxLocals = 1 := hml
  have N0 := Fr.nil Z.heap.size
  have K0 := Keep.refl h0 []
  refine own_go (fun _ k => castTop (ef_numinit m a1) k) ?_
  show own_Go p e below s _ _ _ (T.setTop (mkF m 0 #[.val (.ref a1)] []))
  refine own_go (fun _ k => XS.aloadN X0.here hx rfl (hb hby d9_0) rfl rfl k) ?_
  show own_Go p e below s _ _ _ (T.setTop (mkF m 1 #[.val (.ref a1)] [(.ref a1)]))
  obtain ⟨T1, X1, e1, st1⟩ := initO X0 hx hZ hown (hw _ (List.mem_of_getElem? (i := 69) rfl)) (hw _ (List.mem_of_getElem? (i := 28) rfl)) (hw _ (List.mem_of_getElem? (i := 29) rfl)) e0 (g := (mkF m 1 #[.val (.ref a1)] [(.ref a1)])) rfl (by rw [hml]; rfl) rfl (hb hby d9_1) (by decide) (W := 0) (by show 2 * 0 + _ ≤ _; exact Nat.le_of_eq rfl) (by decide)
  refine own_go st1 ?_
  show own_Go p e below s _ _ _ (T1.setTop (mkF m 4 #[.val (.ref a1)] []))
  refine own_retV X1 hS hx hlk e1 hret (hb hby d9_4) (by show _ ≤ 0; omega) (by show _ ≤ 0; omega) ?_
  exact ⟨rfl, N0, rfl⟩
theorem d8_0 : decode jdk_35_method_26_code 0 = .ok (.aload_n 0, 1) := by decide +kernel
theorem d8_1 : decode jdk_35_method_26_code 1 = .ok (.invokespecial 270, 3) := by decide +kernel
theorem d8_4 : decode jdk_35_method_26_code 4 = .ok (.aload_n 0, 1) := by decide +kernel
theorem d8_5 : decode jdk_35_method_26_code 5 = .ok (.lload_n 1, 1) := by decide +kernel
theorem d8_6 : decode jdk_35_method_26_code 6 = .ok (.putfield 273, 3) := by decide +kernel
theorem d8_9 : decode jdk_35_method_26_code 9 = .ok (.return_, 1) := by decide +kernel
def Q_longinit (Z : State) (wc : Addr) (clc : Cell) (a1 : Addr) (q1 : Int64) (h0 : Heap) (v : Option Value) (h : Heap) (L : List Loc) : Prop := (v = none ∧ Fr Z.heap.size L ∧ Keep h0 h [a1] ∧ Fld Z h a1 "java/lang/Long" "value" "J" (.long q1))
theorem ef_longinit (m : MethodId) (x0 : Addr) (x1 : Int64) : entryFrame m #[(.ref x0), (.long x1)] 3 = mkF m 0 #[.val (.ref x0), .val (.long x1), .second] [] := by first | (simp [entryFrame, mkF, argsToLocals, Value.category]; done) | rfl
set_option maxRecDepth 65536 in
set_option maxHeartbeats 40000000 in
theorem rm_longinit (l : Launch) (Z : State) (a0 : Array Value) (hw : ∀ d ∈ tables_1, d.before a0 Z = true) {wc : Addr} {clc : Cell} (oCa : Sta Z Z.heap "java/lang/Long$LongCache" "cache" "[Ljava/lang/Long;" (.ref wc)) (oBx : Bxs Z wc clc "java/lang/Long" "J" (256 : Int32) own_bxv) (ws : List Jvm.Cond) (a1 : Addr) (q1 : Int64) (h0 : Heap) (O0 : Ext Z.heap h0) (f_E_a1 : Exa Z h0 a1 "java/lang/Long") (f_F_a1_value : Fld Z h0 a1 "java/lang/Long" "value" "J" (.long (0 : Int64))) (big_a1 : Z.heap.size ≤ a1) :
    MetFree l (⟨"java/lang/Long", "<init>", "(J)V"⟩ : MethodName) (head1 (Jvm.Cond.code (⟨"java/lang/Long", "<init>", "(J)V"⟩ : MethodName) jdk_35_method_26_code 3 none :: ws) ({ frames := 2, cells := 0, slots := 0, locals := 24 } : Room)) (fun a U => a = #[(.ref a1), (.long q1)] ∧ Z.Warmed39 U.vm ∧ U.heap = h0) (fun _ _ _ _ _ => True) (fun _ U o U' => ∃ v L, o = .returned v ∧ (Q_longinit Z wc clc a1 q1 h0) v U'.heap L ∧ ReturnedEndW U o U' L ({ frames := 2, cells := 0, slots := 0, locals := 24 } : Room).cells ({ frames := 2, cells := 0, slots := 0, locals := 24 } : Room).slots) := by
  refine own_met (Q := (Q_longinit Z wc clc a1 q1 h0)) _ _ (plainFor_of_name own_pn_1) ?_
  intro p e s vm0 m below meth c T X0 hS hx hby hml hret hlk hZ hown hnm e0
  replace hown : (s.setVm vm0).vm.findClass "java/lang/Long" = some m.cls := hown
  replace hnm : meth.name = "<init>" := hnm
  have hml : c.maxLocals = 3 := hml
  have N0 := Fr.nil Z.heap.size
  have K0 := Keep.refl h0 [a1]
  refine own_go (fun _ k => castTop (ef_longinit m a1 q1) k) ?_
  show own_Go p e below s _ _ _ (T.setTop (mkF m 0 #[.val (.ref a1), .val (.long q1), .second] []))
  refine own_go (fun _ k => XS.aloadN X0.here hx rfl (hb hby d8_0) rfl rfl k) ?_
  show own_Go p e below s _ _ _ (T.setTop (mkF m 1 #[.val (.ref a1), .val (.long q1), .second] [(.ref a1)]))
  obtain ⟨v1, T1, L1, X1, hSn, hZn, hownn, hQ1, st1⟩ := own_callI (y := (⟨"java/lang/Number", "<init>", "()V"⟩ : MethodName)) X0 hS hx hZ hown (hw _ (List.mem_of_getElem? (i := 63) rfl)) (hw _ (List.mem_of_getElem? (i := 64) rfl)) (hw _ (List.mem_of_getElem? (i := 67) rfl)) (hw _ (List.mem_of_getElem? (i := 68) rfl)) (rm_numinit l Z a0 hw oCa oBx [] a1 h0 O0) 0 0 0 rfl rfl rfl (by decide) (by decide) (by decide) (by show _ ≤ 0; omega) (by show _ ≤ 0; omega) e0 (g := (mkF m 1 #[.val (.ref a1), .val (.long q1), .second] [(.ref a1)])) rfl (by rw [hml]; rfl) a1 [] [] (lenOf own_pd_0 rfl) rfl rfl (by show 2 * 0 + _ ≤ _; exact Nat.le_of_eq rfl) (hb hby d8_1)
  replace hS := hSn
  replace hZ := hZn
  replace hown := hownn
  clear hSn hZn hownn
  obtain ⟨rfl, Nc3, Kc2⟩ := hQ1
  refine own_go st1 ?_
  have N4 := Fr.app N0 Nc3
  rw [Kc2] at hS
  show own_Go p e below s _ _ _ (T1.setTop (mkF m 4 #[.val (.ref a1), .val (.long q1), .second] []))
  refine own_go (fun _ k => XS.aloadN X1.here hx rfl (hb hby d8_4) rfl rfl k) ?_
  show own_Go p e below s _ _ _ (T1.setTop (mkF m 5 #[.val (.ref a1), .val (.long q1), .second] [(.ref a1)]))
  refine own_go (fun _ k => XS.lloadN X1.here hx rfl (hb hby d8_5) rfl k) ?_
  show own_Go p e below s _ _ _ (T1.setTop (mkF m 6 #[.val (.ref a1), .val (.long q1), .second] [(.long q1), (.ref a1)]))
  obtain ⟨T5, h5, X5, e5, W5, st5⟩ := putF X1 hx hZ hown (host := "") (Or.inl (hw _ (List.mem_of_getElem? (i := 50) rfl))) Via.refl Kc2 f_F_a1_value f_E_a1 (Or.inr ⟨(hw _ (List.mem_of_getElem? (i := 51) rfl)), rfl, hnm⟩) (hw _ (List.mem_of_getElem? (i := 58) rfl)) (ty := .long) (by decide) rfl rfl (g := (mkF m 6 #[.val (.ref a1), .val (.long q1), .second] [(.long q1), (.ref a1)])) rfl rfl (hb hby d8_6)
  refine own_go st5 ?_
  have N6 := Fr.snoc X5 N4 big_a1
  have f7 : Exa Z h5 a1 "java/lang/Long" := f_E_a1.wr W5
  have f8 : Fld Z h5 a1 "java/lang/Long" "value" "J" (.long q1) := f_F_a1_value.same W5
  have O9 := own_oldWr O0 W5 big_a1
  replace hS := own_since hS (Nat.le_of_eq W5.size.symm)
  have K10 : Keep h0 h5 [a1] := K0.wr W5 (Or.inl (List.mem_of_getElem? (i := 0) rfl))
  show own_Go p e below s _ _ _ (T5.setTop (mkF m 9 #[.val (.ref a1), .val (.long q1), .second] []))
  refine own_retV X5 hS hx hlk e5 hret (hb hby d8_9) (by show _ ≤ 0; omega) (by show _ ≤ 0; omega) ?_
  exact ⟨rfl, N6, K10, f8⟩
theorem d1_0 : decode jdk_35_method_24_code 0 = .ok (.sipush 128, 3) := by decide +kernel
theorem d1_3 : decode jdk_35_method_24_code 3 = .ok (.istore_n 2, 1) := by decide +kernel
theorem d1_4 : decode jdk_35_method_24_code 4 = .ok (.lload_n 0, 1) := by decide +kernel
theorem d1_5 : decode jdk_35_method_24_code 5 = .ok (.ldc2_w 230, 3) := by decide +kernel
theorem d1_8 : decode jdk_35_method_24_code 8 = .ok (.lcmp, 1) := by decide +kernel
theorem d1_9 : decode jdk_35_method_24_code 9 = .ok (.ifCond .lt 22, 3) := by decide +kernel
theorem d1_12 : decode jdk_35_method_24_code 12 = .ok (.lload_n 0, 1) := by decide +kernel
theorem d1_13 : decode jdk_35_method_24_code 13 = .ok (.ldc2_w 232, 3) := by decide +kernel
theorem d1_16 : decode jdk_35_method_24_code 16 = .ok (.lcmp, 1) := by decide +kernel
theorem d1_17 : decode jdk_35_method_24_code 17 = .ok (.ifCond .gt 14, 3) := by decide +kernel
theorem d1_20 : decode jdk_35_method_24_code 20 = .ok (.getstatic 234, 3) := by decide +kernel
theorem d1_23 : decode jdk_35_method_24_code 23 = .ok (.lload_n 0, 1) := by decide +kernel
theorem d1_24 : decode jdk_35_method_24_code 24 = .ok (.l2i, 1) := by decide +kernel
theorem d1_25 : decode jdk_35_method_24_code 25 = .ok (.sipush 128, 3) := by decide +kernel
theorem d1_28 : decode jdk_35_method_24_code 28 = .ok (.iadd, 1) := by decide +kernel
theorem d1_29 : decode jdk_35_method_24_code 29 = .ok (.aaload, 1) := by decide +kernel
theorem d1_30 : decode jdk_35_method_24_code 30 = .ok (.areturn, 1) := by decide +kernel
theorem d1_31 : decode jdk_35_method_24_code 31 = .ok (.new 1, 3) := by decide +kernel
theorem d1_34 : decode jdk_35_method_24_code 34 = .ok (.dup, 1) := by decide +kernel
theorem d1_35 : decode jdk_35_method_24_code 35 = .ok (.lload_n 0, 1) := by decide +kernel
theorem d1_36 : decode jdk_35_method_24_code 36 = .ok (.invokespecial 240, 3) := by decide +kernel
theorem d1_39 : decode jdk_35_method_24_code 39 = .ok (.areturn, 1) := by decide +kernel
def Q_valueOf (Z : State) (wc : Addr) (clc : Cell) (q1 : Int64) (h0 : Heap) (v : Option Value) (h : Heap) (L : List Loc) : Prop := (∃ b : Addr, v = some (.ref b) ∧ Fr Z.heap.size L ∧ Keep h0 h [] ∧ Exa Z h b "java/lang/Long" ∧ Fld Z h b "java/lang/Long" "value" "J" (.long q1))
theorem ef_valueOf (m : MethodId) (x0 : Int64) : entryFrame m #[(.long x0)] 3 = mkF m 0 #[.val (.long x0), .second, .unset] [] := by first | (simp [entryFrame, mkF, argsToLocals, Value.category]; done) | rfl
set_option maxRecDepth 65536 in
set_option maxHeartbeats 40000000 in
theorem rm_valueOf (l : Launch) (Z : State) (a0 : Array Value) (hw : ∀ d ∈ tables_1, d.before a0 Z = true) {wc : Addr} {clc : Cell} (oCa : Sta Z Z.heap "java/lang/Long$LongCache" "cache" "[Ljava/lang/Long;" (.ref wc)) (oBx : Bxs Z wc clc "java/lang/Long" "J" (256 : Int32) own_bxv) (ws : List Jvm.Cond) (q1 : Int64) (h0 : Heap) (O0 : Ext Z.heap h0) :
    MetFree l (⟨"java/lang/Long", "valueOf", "(J)Ljava/lang/Long;"⟩ : MethodName) (head1 (Jvm.Cond.code (⟨"java/lang/Long", "valueOf", "(J)Ljava/lang/Long;"⟩ : MethodName) jdk_35_method_24_code 3 (some (.object "java/lang/Long")) :: ws) ({ frames := 3, cells := 1, slots := 1, locals := 39 } : Room)) (fun a U => a = #[(.long q1)] ∧ Z.Warmed39 U.vm ∧ U.heap = h0) (fun _ _ _ _ _ => True) (fun _ U o U' => ∃ v L, o = .returned v ∧ (Q_valueOf Z wc clc q1 h0) v U'.heap L ∧ ReturnedEndW U o U' L ({ frames := 3, cells := 1, slots := 1, locals := 39 } : Room).cells ({ frames := 3, cells := 1, slots := 1, locals := 39 } : Room).slots) := by
  refine own_met (Q := (Q_valueOf Z wc clc q1 h0)) _ _ (plainFor_of_name own_pn_1) ?_
  intro p e s vm0 m below meth c T X0 hS hx hby hml hret hlk hZ hown hnm e0
  replace hown : (s.setVm vm0).vm.findClass "java/lang/Long" = some m.cls := hown
  replace hnm : meth.name = "valueOf" := hnm
  have hml : c.maxLocals = 3 := hml
  have N0 := Fr.nil Z.heap.size
  have K0 := Keep.refl h0 []
  refine own_go (fun _ k => castTop (ef_valueOf m q1) k) ?_
  show own_Go p e below s _ _ _ (T.setTop (mkF m 0 #[.val (.long q1), .second, .unset] []))
  refine own_go (fun _ k => XS.sipush X0.here hx rfl (hb hby d1_0) k) ?_
  show own_Go p e below s _ _ _ (T.setTop (mkF m 3 #[.val (.long q1), .second, .unset] [(.int (128 : Int32))]))
  refine own_go (fun _ k => XS.istoreN X0.here hx rfl (hb hby d1_3) rfl (l' := #[.val (.long q1), .second, .val (.int (128 : Int32))]) rfl k) ?_
  show own_Go p e below s _ _ _ (T.setTop (mkF m 4 #[.val (.long q1), .second, .val (.int (128 : Int32))] []))
  refine own_go (fun _ k => XS.lloadN X0.here hx rfl (hb hby d1_4) rfl k) ?_
  show own_Go p e below s _ _ _ (T.setTop (mkF m 5 #[.val (.long q1), .second, .val (.int (128 : Int32))] [(.long q1)]))
  refine own_go (X0.ldc2Long hx hown (mvT hZ (hw _ (List.mem_of_getElem? (i := 4) rfl))) (g := (mkF m 5 #[.val (.long q1), .second, .val (.int (128 : Int32))] [(.long q1)])) rfl (hb hby d1_5)) ?_
  show own_Go p e below s _ _ _ (T.setTop (mkF m 8 #[.val (.long q1), .second, .val (.int (128 : Int32))] [(.long (-128 : Int64)), (.long q1)]))
  refine own_go (fun _ k => XS.lcmp X0.here hx rfl (hb hby d1_8) rfl k) ?_
  show own_Go p e below s _ _ _ (T.setTop (mkF m 9 #[.val (.long q1), .second, .val (.int (128 : Int32))] [(.int (lcmpW q1 (-128 : Int64)))]))
  by_cases hc1 : q1 < (-128 : Int64)
  · refine own_go (fun _ k => XS.ifYes X0.here hx rfl (pc0 := 9) (pc' := 31) rfl (hb hby d1_9) rfl ((if0 _ _).trans (tlt ((lw_lt _ _).mpr hc1)).1) (by decide) (by decide) k) ?_
    show own_Go p e below s _ _ _ (T.setTop (mkF m 31 #[.val (.long q1), .second, .val (.int (128 : Int32))] []))
    obtain ⟨T2, h2, X2, e2, E2, A2, D2, -, st2⟩ := newO X0 hx hZ hown (hw _ (List.mem_of_getElem? (i := 57) rfl)) (hw _ (List.mem_of_getElem? (i := 58) rfl)) (hw _ (List.mem_of_getElem? (i := 2) rfl)) e0 (g := (mkF m 31 #[.val (.long q1), .second, .val (.int (128 : Int32))] [])) rfl (hb hby d1_31) (by show _ ≤ 1; omega) (by show _ ≤ 1; omega)
    obtain ⟨b2, g2⟩ : ∃ z, z = h0.size := ⟨_, rfl⟩
    rw [← g2] at A2 D2 st2
    refine own_go st2 ?_
    have ge2 := Nat.le_of_eq g2.symm
    have big3 : Z.heap.size ≤ b2 := Nat.le_trans O0.1 ge2
    have sz4 : h0.size ≤ b2 := Nat.le_trans K0.1 ge2
    have O5 := own_oldExt O0 E2
    replace hS := own_since hS E2.1
    have K6 := K0.ext E2
    have f7 : Fld Z h2 b2 "java/lang/Long" "value" "J" (.long (0 : Int64)) := D2 (Or.inr (hw _ (List.mem_of_getElem? (i := 51) rfl))) (ty := .long) (by decide)
    show own_Go p e below s _ _ _ (T2.setTop (mkF m 34 #[.val (.long q1), .second, .val (.int (128 : Int32))] [(.ref b2)]))
    refine own_go (fun _ k => XS.dup X2.here hx rfl (hb hby d1_34) rfl rfl k) ?_
    show own_Go p e below s _ _ _ (T2.setTop (mkF m 35 #[.val (.long q1), .second, .val (.int (128 : Int32))] [(.ref b2), (.ref b2)]))
    refine own_go (fun _ k => XS.lloadN X2.here hx rfl (hb hby d1_35) rfl k) ?_
    show own_Go p e below s _ _ _ (T2.setTop (mkF m 36 #[.val (.long q1), .second, .val (.int (128 : Int32))] [(.long q1), (.ref b2), (.ref b2)]))
    obtain ⟨v8, T8, L8, X8, hSn, hZn, hownn, hQ8, st8⟩ := own_callI (y := (⟨"java/lang/Long", "<init>", "(J)V"⟩ : MethodName)) X2 hS hx hZ hown (hw _ (List.mem_of_getElem? (i := 59) rfl)) (hw _ (List.mem_of_getElem? (i := 60) rfl)) (hw _ (List.mem_of_getElem? (i := 2) rfl)) (hw _ (List.mem_of_getElem? (i := 62) rfl)) (rm_longinit l Z a0 hw oCa oBx [] b2 q1 h2 O5 A2 f7 big3) 1 0 0 rfl rfl rfl (by decide) (by decide) (by decide) (by show _ ≤ 1; omega) (by show _ ≤ 1; omega) e2 (g := (mkF m 36 #[.val (.long q1), .second, .val (.int (128 : Int32))] [(.long q1), (.ref b2), (.ref b2)])) rfl (by rw [hml]; rfl) b2 [(.long q1)] [(.ref b2)] (lenOf own_pd_1 rfl) rfl rfl (by show 2 * 0 + _ ≤ _; exact Nat.le_of_eq rfl) (hb hby d1_36)
    replace hS := hSn
    replace hZ := hZn
    replace hown := hownn
    clear hSn hZn hownn
    obtain ⟨rfl, Nc11, Kc10, f9⟩ := hQ8
    refine own_go st8 ?_
    have N12 := Fr.app N0 Nc11
    have f13 : Exa Z T8.heap b2 "java/lang/Long" := A2.keep Kc10
    have O15 := own_oldKeep O5 Kc10 (allS big3 all0)
    have K16 : Keep h0 T8.heap [] := K6.trans Kc10 (allS (Or.inr sz4) all0)
    show own_Go p e below s _ _ _ (T8.setTop (mkF m 39 #[.val (.long q1), .second, .val (.int (128 : Int32))] [(.ref b2)]))
    refine own_retA X8 hS hx hlk (rfl : T8.heap = T8.heap) hret rfl rfl (hb hby d1_39) (by show _ ≤ 1; omega) (by show _ ≤ 1; omega) ?_
    exact ⟨b2, rfl, N12, K16, f13, f9⟩
  · refine own_go (fun _ k => XS.ifNo X0.here hx rfl (hb hby d1_9) rfl ((if0 _ _).trans (flt (fun q => hc1 ((lw_lt _ _).mp q))).1) k) ?_
    show own_Go p e below s _ _ _ (T.setTop (mkF m 12 #[.val (.long q1), .second, .val (.int (128 : Int32))] []))
    refine own_go (fun _ k => XS.lloadN X0.here hx rfl (hb hby d1_12) rfl k) ?_
    show own_Go p e below s _ _ _ (T.setTop (mkF m 13 #[.val (.long q1), .second, .val (.int (128 : Int32))] [(.long q1)]))
    refine own_go (X0.ldc2Long hx hown (mvT hZ (hw _ (List.mem_of_getElem? (i := 5) rfl))) (g := (mkF m 13 #[.val (.long q1), .second, .val (.int (128 : Int32))] [(.long q1)])) rfl (hb hby d1_13)) ?_
    show own_Go p e below s _ _ _ (T.setTop (mkF m 16 #[.val (.long q1), .second, .val (.int (128 : Int32))] [(.long (127 : Int64)), (.long q1)]))
    refine own_go (fun _ k => XS.lcmp X0.here hx rfl (hb hby d1_16) rfl k) ?_
    show own_Go p e below s _ _ _ (T.setTop (mkF m 17 #[.val (.long q1), .second, .val (.int (128 : Int32))] [(.int (lcmpW q1 (127 : Int64)))]))
    by_cases hc17 : (127 : Int64) < q1
    · refine own_go (fun _ k => XS.ifYes X0.here hx rfl (pc0 := 17) (pc' := 31) rfl (hb hby d1_17) rfl ((if0 _ _).trans (tlt ((lw_gt _ _).mpr hc17)).2.2.1) (by decide) (by decide) k) ?_
      show own_Go p e below s _ _ _ (T.setTop (mkF m 31 #[.val (.long q1), .second, .val (.int (128 : Int32))] []))
      obtain ⟨T18, h18, X18, e18, E18, A18, D18, -, st18⟩ := newO X0 hx hZ hown (hw _ (List.mem_of_getElem? (i := 57) rfl)) (hw _ (List.mem_of_getElem? (i := 58) rfl)) (hw _ (List.mem_of_getElem? (i := 2) rfl)) e0 (g := (mkF m 31 #[.val (.long q1), .second, .val (.int (128 : Int32))] [])) rfl (hb hby d1_31) (by show _ ≤ 1; omega) (by show _ ≤ 1; omega)
      obtain ⟨b18, g18⟩ : ∃ z, z = h0.size := ⟨_, rfl⟩
      rw [← g18] at A18 D18 st18
      refine own_go st18 ?_
      have ge18 := Nat.le_of_eq g18.symm
      have big19 : Z.heap.size ≤ b18 := Nat.le_trans O0.1 ge18
      have sz20 : h0.size ≤ b18 := Nat.le_trans K0.1 ge18
      have O21 := own_oldExt O0 E18
      replace hS := own_since hS E18.1
      have K22 := K0.ext E18
      have f23 : Fld Z h18 b18 "java/lang/Long" "value" "J" (.long (0 : Int64)) := D18 (Or.inr (hw _ (List.mem_of_getElem? (i := 51) rfl))) (ty := .long) (by decide)
      show own_Go p e below s _ _ _ (T18.setTop (mkF m 34 #[.val (.long q1), .second, .val (.int (128 : Int32))] [(.ref b18)]))
      refine own_go (fun _ k => XS.dup X18.here hx rfl (hb hby d1_34) rfl rfl k) ?_
      show own_Go p e below s _ _ _ (T18.setTop (mkF m 35 #[.val (.long q1), .second, .val (.int (128 : Int32))] [(.ref b18), (.ref b18)]))
      refine own_go (fun _ k => XS.lloadN X18.here hx rfl (hb hby d1_35) rfl k) ?_
      show own_Go p e below s _ _ _ (T18.setTop (mkF m 36 #[.val (.long q1), .second, .val (.int (128 : Int32))] [(.long q1), (.ref b18), (.ref b18)]))
      obtain ⟨v24, T24, L24, X24, hSn, hZn, hownn, hQ24, st24⟩ := own_callI (y := (⟨"java/lang/Long", "<init>", "(J)V"⟩ : MethodName)) X18 hS hx hZ hown (hw _ (List.mem_of_getElem? (i := 59) rfl)) (hw _ (List.mem_of_getElem? (i := 60) rfl)) (hw _ (List.mem_of_getElem? (i := 2) rfl)) (hw _ (List.mem_of_getElem? (i := 62) rfl)) (rm_longinit l Z a0 hw oCa oBx [] b18 q1 h18 O21 A18 f23 big19) 1 0 0 rfl rfl rfl (by decide) (by decide) (by decide) (by show _ ≤ 1; omega) (by show _ ≤ 1; omega) e18 (g := (mkF m 36 #[.val (.long q1), .second, .val (.int (128 : Int32))] [(.long q1), (.ref b18), (.ref b18)])) rfl (by rw [hml]; rfl) b18 [(.long q1)] [(.ref b18)] (lenOf own_pd_1 rfl) rfl rfl (by show 2 * 0 + _ ≤ _; exact Nat.le_of_eq rfl) (hb hby d1_36)
      replace hS := hSn
      replace hZ := hZn
      replace hown := hownn
      clear hSn hZn hownn
      obtain ⟨rfl, Nc27, Kc26, f25⟩ := hQ24
      refine own_go st24 ?_
      have N28 := Fr.app N0 Nc27
      have f29 : Exa Z T24.heap b18 "java/lang/Long" := A18.keep Kc26
      have O31 := own_oldKeep O21 Kc26 (allS big19 all0)
      have K32 : Keep h0 T24.heap [] := K22.trans Kc26 (allS (Or.inr sz20) all0)
      show own_Go p e below s _ _ _ (T24.setTop (mkF m 39 #[.val (.long q1), .second, .val (.int (128 : Int32))] [(.ref b18)]))
      refine own_retA X24 hS hx hlk (rfl : T24.heap = T24.heap) hret rfl rfl (hb hby d1_39) (by show _ ≤ 1; omega) (by show _ ≤ 1; omega) ?_
      exact ⟨b18, rfl, N28, K32, f29, f25⟩
    · refine own_go (fun _ k => XS.ifNo X0.here hx rfl (hb hby d1_17) rfl ((if0 _ _).trans (flt (fun q => hc17 ((lw_gt _ _).mp q))).2.2.1) k) ?_
      show own_Go p e below s _ _ _ (T.setTop (mkF m 20 #[.val (.long q1), .second, .val (.int (128 : Int32))] []))
      obtain ⟨T33, X33, e33, st33⟩ := getS2 X0 hx hZ hown (host := "") (Or.inl (hw _ (List.mem_of_getElem? (i := 6) rfl))) Via.refl e0 (oCa.ext O0) (g := (mkF m 20 #[.val (.long q1), .second, .val (.int (128 : Int32))] [])) rfl (hb hby d1_20)
      refine own_go st33 ?_
      show own_Go p e below s _ _ _ (T33.setTop (mkF m 23 #[.val (.long q1), .second, .val (.int (128 : Int32))] [(.ref wc)]))
      refine own_go (fun _ k => XS.lloadN X33.here hx rfl (hb hby d1_23) rfl k) ?_
      show own_Go p e below s _ _ _ (T33.setTop (mkF m 24 #[.val (.long q1), .second, .val (.int (128 : Int32))] [(.long q1), (.ref wc)]))
      refine own_go (fun _ k => XS.l2i X33.here hx rfl (hb hby d1_24) rfl k) ?_
      show own_Go p e below s _ _ _ (T33.setTop (mkF m 25 #[.val (.long q1), .second, .val (.int (128 : Int32))] [(.int (q1.toInt32)), (.ref wc)]))
      refine own_go (fun _ k => XS.sipush X33.here hx rfl (hb hby d1_25) k) ?_
      show own_Go p e below s _ _ _ (T33.setTop (mkF m 28 #[.val (.long q1), .second, .val (.int (128 : Int32))] [(.int (128 : Int32)), (.int (q1.toInt32)), (.ref wc)]))
      refine own_go (fun _ k => XS.iadd X33.here hx rfl (hb hby d1_28) rfl k) ?_
      show own_Go p e below s _ _ _ (T33.setTop (mkF m 29 #[.val (.long q1), .second, .val (.int (128 : Int32))] [(.int ((q1.toInt32) + (128 : Int32))), (.ref wc)]))
      have A34 := oBx.ext O0
      have pl34 := own_place A34.2.1 hc1 hc17
      obtain ⟨w34, at34, we34, wf34⟩ := oBx.2.2.2 _ pl34.1
      rw [pl34.2] at wf34
      refine own_go (X33.aaload hx (j := ((q1.toInt32) + (128 : Int32))) (v := (.ref w34)) (by rw [e33]; exact A34.1.1) (State.isArrayOf_alike hZ.alike A34.1.2.1) rfl A34.1.2.2 pl34.1 at34 (g := (mkF m 29 #[.val (.long q1), .second, .val (.int (128 : Int32))] [(.int ((q1.toInt32) + (128 : Int32))), (.ref wc)])) rfl rfl (hb hby d1_29)) ?_
      have f35 := we34.ext O0
      have f36 := wf34.ext O0
      show own_Go p e below s _ _ _ (T33.setTop (mkF m 30 #[.val (.long q1), .second, .val (.int (128 : Int32))] [(.ref w34)]))
      refine own_retA X33 hS hx hlk e33 hret rfl rfl (hb hby d1_30) (by show _ ≤ 1; omega) (by show _ ≤ 1; omega) ?_
      exact ⟨w34, rfl, N0, K0, f35, f36⟩
theorem d6_0 : decode jdk_35_method_31_code 0 = .ok (.aload_n 0, 1) := by decide +kernel
theorem d6_1 : decode jdk_35_method_31_code 1 = .ok (.getfield 273, 3) := by decide +kernel
theorem d6_4 : decode jdk_35_method_31_code 4 = .ok (.lreturn, 1) := by decide +kernel
def Q_longValue (Z : State) (wc : Addr) (clc : Cell) (a1 : Addr) (w : Int64) (h0 : Heap) (v : Option Value) (h : Heap) (L : List Loc) : Prop := (v = some (.long w) ∧ Fr Z.heap.size L ∧ h = h0)
theorem ef_longValue (m : MethodId) (x0 : Addr) : entryFrame m #[(.ref x0)] 1 = mkF m 0 #[.val (.ref x0)] [] := by first | (simp [entryFrame, mkF, argsToLocals, Value.category]; done) | rfl
set_option maxRecDepth 65536 in
set_option maxHeartbeats 40000000 in
theorem rm_longValue (l : Launch) (Z : State) (a0 : Array Value) (hw : ∀ d ∈ tables_1, d.before a0 Z = true) {wc : Addr} {clc : Cell} (oCa : Sta Z Z.heap "java/lang/Long$LongCache" "cache" "[Ljava/lang/Long;" (.ref wc)) (oBx : Bxs Z wc clc "java/lang/Long" "J" (256 : Int32) own_bxv) (ws : List Jvm.Cond) (a1 : Addr) (w : Int64) (h0 : Heap) (O0 : Ext Z.heap h0) (f_F_a1_value : Fld Z h0 a1 "java/lang/Long" "value" "J" (.long w)) :
    MetFree l (⟨"java/lang/Long", "longValue", "()J"⟩ : MethodName) (head1 (Jvm.Cond.code (⟨"java/lang/Long", "longValue", "()J"⟩ : MethodName) jdk_35_method_31_code 1 (some .long) :: ws) ({ frames := 0, cells := 0, slots := 0, locals := 0 } : Room)) (fun a U => a = #[(.ref a1)] ∧ Z.Warmed39 U.vm ∧ U.heap = h0) (fun _ _ _ _ _ => True) (fun _ U o U' => ∃ v L, o = .returned v ∧ (Q_longValue Z wc clc a1 w h0) v U'.heap L ∧ ReturnedEndW U o U' L ({ frames := 0, cells := 0, slots := 0, locals := 0 } : Room).cells ({ frames := 0, cells := 0, slots := 0, locals := 0 } : Room).slots) := by
  refine own_met (Q := (Q_longValue Z wc clc a1 w h0)) _ _ (plainFor_of_name own_pn_1) ?_
  intro p e s vm0 m below meth c T X0 hS hx hby hml hret hlk hZ hown hnm e0
  replace hown : (s.setVm vm0).vm.findClass "java/lang/Long" = some m.cls := hown
  replace hnm : meth.name = "longValue" := hnm
  have hml : c.maxLocals = 1 := hml
  have N0 := Fr.nil Z.heap.size
  have K0 := Keep.refl h0 []
  refine own_go (fun _ k => castTop (ef_longValue m a1) k) ?_
  show own_Go p e below s _ _ _ (T.setTop (mkF m 0 #[.val (.ref a1)] []))
  refine own_go (fun _ k => XS.aloadN X0.here hx rfl (hb hby d6_0) rfl rfl k) ?_
  show own_Go p e below s _ _ _ (T.setTop (mkF m 1 #[.val (.ref a1)] [(.ref a1)]))
  obtain ⟨T1, X1, e1, st1⟩ := getF X0 hx hZ hown (host := "") (Or.inl (hw _ (List.mem_of_getElem? (i := 50) rfl))) Via.refl e0 f_F_a1_value (g := (mkF m 1 #[.val (.ref a1)] [(.ref a1)])) rfl rfl (hb hby d6_1)
  refine own_go st1 ?_
  show own_Go p e below s _ _ _ (T1.setTop (mkF m 4 #[.val (.ref a1)] [(.long w)]))
  refine own_retJ X1 hS hx hlk e1 hret (hb hby d6_4) (by show _ ≤ 0; omega) (by show _ ≤ 0; omega) ?_
  exact ⟨rfl, N0, rfl⟩
theorem d3_0 : decode jdk_30_method_1_code 0 = .ok (.aload_n 0, 1) := by decide +kernel
theorem d3_1 : decode jdk_30_method_1_code 1 = .ok (.invokespecial 1, 3) := by decide +kernel
theorem d3_4 : decode jdk_30_method_1_code 4 = .ok (.return_, 1) := by decide +kernel
def Q_recinit (Z : State) (wc : Addr) (clc : Cell) (a1 : Addr) (h0 : Heap) (v : Option Value) (h : Heap) (L : List Loc) : Prop := (v = none ∧ Fr Z.heap.size L ∧ h = h0)
theorem ef_recinit (m : MethodId) (x0 : Addr) : entryFrame m #[(.ref x0)] 1 = mkF m 0 #[.val (.ref x0)] [] := by first | (simp [entryFrame, mkF, argsToLocals, Value.category]; done) | rfl
set_option maxRecDepth 65536 in
set_option maxHeartbeats 40000000 in
theorem rm_recinit (l : Launch) (Z : State) (a0 : Array Value) (hw : ∀ d ∈ tables_1, d.before a0 Z = true) {wc : Addr} {clc : Cell} (oCa : Sta Z Z.heap "java/lang/Long$LongCache" "cache" "[Ljava/lang/Long;" (.ref wc)) (oBx : Bxs Z wc clc "java/lang/Long" "J" (256 : Int32) own_bxv) (ws : List Jvm.Cond) (a1 : Addr) (h0 : Heap) (O0 : Ext Z.heap h0) :
    MetFree l (⟨"java/lang/Record", "<init>", "()V"⟩ : MethodName) (head1 (Jvm.Cond.code (⟨"java/lang/Record", "<init>", "()V"⟩ : MethodName) jdk_30_method_1_code 1 none :: ws) ({ frames := 1, cells := 0, slots := 0, locals := 12 } : Room)) (fun a U => a = #[(.ref a1)] ∧ Z.Warmed39 U.vm ∧ U.heap = h0) (fun _ _ _ _ _ => True) (fun _ U o U' => ∃ v L, o = .returned v ∧ (Q_recinit Z wc clc a1 h0) v U'.heap L ∧ ReturnedEndW U o U' L ({ frames := 1, cells := 0, slots := 0, locals := 12 } : Room).cells ({ frames := 1, cells := 0, slots := 0, locals := 12 } : Room).slots) := by
  refine own_met (Q := (Q_recinit Z wc clc a1 h0)) _ _ (plainFor_of_name own_pn_2) ?_
  intro p e s vm0 m below meth c T X0 hS hx hby hml hret hlk hZ hown hnm e0
  replace hown : (s.setVm vm0).vm.findClass "java/lang/Record" = some m.cls := hown
  replace hnm : meth.name = "<init>" := hnm
  have hml : c.maxLocals = 1 := hml
  have N0 := Fr.nil Z.heap.size
  have K0 := Keep.refl h0 []
  refine own_go (fun _ k => castTop (ef_recinit m a1) k) ?_
  show own_Go p e below s _ _ _ (T.setTop (mkF m 0 #[.val (.ref a1)] []))
  refine own_go (fun _ k => XS.aloadN X0.here hx rfl (hb hby d3_0) rfl rfl k) ?_
  show own_Go p e below s _ _ _ (T.setTop (mkF m 1 #[.val (.ref a1)] [(.ref a1)]))
  obtain ⟨T1, X1, e1, st1⟩ := initO X0 hx hZ hown (hw _ (List.mem_of_getElem? (i := 27) rfl)) (hw _ (List.mem_of_getElem? (i := 28) rfl)) (hw _ (List.mem_of_getElem? (i := 29) rfl)) e0 (g := (mkF m 1 #[.val (.ref a1)] [(.ref a1)])) rfl (by rw [hml]; rfl) rfl (hb hby d3_1) (by decide) (W := 0) (by show 2 * 0 + _ ≤ _; exact Nat.le_of_eq rfl) (by decide)
  refine own_go st1 ?_
  show own_Go p e below s _ _ _ (T1.setTop (mkF m 4 #[.val (.ref a1)] []))
  refine own_retV X1 hS hx hlk e1 hret (hb hby d3_4) (by show _ ≤ 0; omega) (by show _ ≤ 0; omega) ?_
  exact ⟨rfl, N0, rfl⟩
theorem d2_0 : decode prog_24_method_1_code 0 = .ok (.aload_n 0, 1) := by decide +kernel
theorem d2_1 : decode prog_24_method_1_code 1 = .ok (.invokespecial 1, 3) := by decide +kernel
theorem d2_4 : decode prog_24_method_1_code 4 = .ok (.aload_n 0, 1) := by decide +kernel
theorem d2_5 : decode prog_24_method_1_code 5 = .ok (.aload_n 1, 1) := by decide +kernel
theorem d2_6 : decode prog_24_method_1_code 6 = .ok (.putfield 7, 3) := by decide +kernel
theorem d2_9 : decode prog_24_method_1_code 9 = .ok (.aload_n 0, 1) := by decide +kernel
theorem d2_10 : decode prog_24_method_1_code 10 = .ok (.aload_n 2, 1) := by decide +kernel
theorem d2_11 : decode prog_24_method_1_code 11 = .ok (.putfield 13, 3) := by decide +kernel
theorem d2_14 : decode prog_24_method_1_code 14 = .ok (.aload_n 0, 1) := by decide +kernel
theorem d2_15 : decode prog_24_method_1_code 15 = .ok (.aload_n 3, 1) := by decide +kernel
theorem d2_16 : decode prog_24_method_1_code 16 = .ok (.putfield 17, 3) := by decide +kernel
theorem d2_19 : decode prog_24_method_1_code 19 = .ok (.aload_n 0, 1) := by decide +kernel
theorem d2_20 : decode prog_24_method_1_code 20 = .ok (.aload 4, 2) := by decide +kernel
theorem d2_22 : decode prog_24_method_1_code 22 = .ok (.putfield 20, 3) := by decide +kernel
theorem d2_25 : decode prog_24_method_1_code 25 = .ok (.aload_n 0, 1) := by decide +kernel
theorem d2_26 : decode prog_24_method_1_code 26 = .ok (.aload 5, 2) := by decide +kernel
theorem d2_28 : decode prog_24_method_1_code 28 = .ok (.putfield 23, 3) := by decide +kernel
theorem d2_31 : decode prog_24_method_1_code 31 = .ok (.return_, 1) := by decide +kernel
def Q_xinit (Z : State) (wc : Addr) (clc : Cell) (a1 : Addr) (gv2 : Value) (gv3 : Value) (gv4 : Value) (gv5 : Value) (gv6 : Value) (h0 : Heap) (v : Option Value) (h : Heap) (L : List Loc) : Prop := (v = none ∧ Fr Z.heap.size L ∧ Keep h0 h [a1] ∧ Exa Z h a1 "com/example/countersign/countersign/server/Exchange" ∧ Fld Z h a1 "com/example/countersign/countersign/server/Exchange" "artefact" "Ljava/lang/String;" gv2 ∧ Fld Z h a1 "com/example/countersign/countersign/server/Exchange" "activatedAt" "Ljava/lang/Long;" gv3 ∧ Fld Z h a1 "com/example/countersign/countersign/server/Exchange" "expiresAt" "Ljava/lang/Long;" gv4 ∧ Fld Z h a1 "com/example/countersign/countersign/server/Exchange" "refreshAt" "Ljava/lang/Long;" gv5 ∧ Fld Z h a1 "com/example/countersign/countersign/server/Exchange" "failure" "Ljava/lang/String;" gv6)
theorem ef_xinit (m : MethodId) (x0 : Addr) (x1 : Value) (hx1 : x1.isRef = true) (x2 : Value) (hx2 : x2.isRef = true) (x3 : Value) (hx3 : x3.isRef = true) (x4 : Value) (hx4 : x4.isRef = true) (x5 : Value) (hx5 : x5.isRef = true) : entryFrame m #[(.ref x0), x1, x2, x3, x4, x5] 6 = mkF m 0 #[.val (.ref x0), .val x1, .val x2, .val x3, .val x4, .val x5] [] := by first | (simp [entryFrame, mkF, argsToLocals, own_catR, own_catN, own_catI, own_catJ, own_cat1 hx1, own_cat1 hx2, own_cat1 hx3, own_cat1 hx4, own_cat1 hx5]; done) | rfl
set_option maxRecDepth 65536 in
set_option maxHeartbeats 40000000 in
theorem rm_xinit (l : Launch) (Z : State) (a0 : Array Value) (hw : ∀ d ∈ tables_1, d.before a0 Z = true) {wc : Addr} {clc : Cell} (oCa : Sta Z Z.heap "java/lang/Long$LongCache" "cache" "[Ljava/lang/Long;" (.ref wc)) (oBx : Bxs Z wc clc "java/lang/Long" "J" (256 : Int32) own_bxv) (ws : List Jvm.Cond) (a1 : Addr) (gv2 : Value) (gv3 : Value) (gv4 : Value) (gv5 : Value) (gv6 : Value) (h0 : Heap) (O0 : Ext Z.heap h0) (r_gv2 : gv2.isRef = true) (r_gv3 : gv3.isRef = true) (r_gv4 : gv4.isRef = true) (r_gv5 : gv5.isRef = true) (r_gv6 : gv6.isRef = true) (f_E_a1 : Exa Z h0 a1 "com/example/countersign/countersign/server/Exchange") (f_F_a1_artefact : Fld Z h0 a1 "com/example/countersign/countersign/server/Exchange" "artefact" "Ljava/lang/String;" .null) (f_F_a1_activatedAt : Fld Z h0 a1 "com/example/countersign/countersign/server/Exchange" "activatedAt" "Ljava/lang/Long;" .null) (f_F_a1_expiresAt : Fld Z h0 a1 "com/example/countersign/countersign/server/Exchange" "expiresAt" "Ljava/lang/Long;" .null) (f_F_a1_refreshAt : Fld Z h0 a1 "com/example/countersign/countersign/server/Exchange" "refreshAt" "Ljava/lang/Long;" .null) (f_F_a1_failure : Fld Z h0 a1 "com/example/countersign/countersign/server/Exchange" "failure" "Ljava/lang/String;" .null) (big_a1 : Z.heap.size ≤ a1) :
    MetFree l (⟨"com/example/countersign/countersign/server/Exchange", "<init>", "(Ljava/lang/String;Ljava/lang/Long;Ljava/lang/Long;Ljava/lang/Long;Ljava/lang/String;)V"⟩ : MethodName) (head1 (Jvm.Cond.code (⟨"com/example/countersign/countersign/server/Exchange", "<init>", "(Ljava/lang/String;Ljava/lang/Long;Ljava/lang/Long;Ljava/lang/Long;Ljava/lang/String;)V"⟩ : MethodName) prog_24_method_1_code 6 none :: ws) ({ frames := 2, cells := 0, slots := 0, locals := 24 } : Room)) (fun a U => a = #[(.ref a1), gv2, gv3, gv4, gv5, gv6] ∧ Z.Warmed39 U.vm ∧ U.heap = h0) (fun _ _ _ _ _ => True) (fun _ U o U' => ∃ v L, o = .returned v ∧ (Q_xinit Z wc clc a1 gv2 gv3 gv4 gv5 gv6 h0) v U'.heap L ∧ ReturnedEndW U o U' L ({ frames := 2, cells := 0, slots := 0, locals := 24 } : Room).cells ({ frames := 2, cells := 0, slots := 0, locals := 24 } : Room).slots) := by
  refine own_met (Q := (Q_xinit Z wc clc a1 gv2 gv3 gv4 gv5 gv6 h0)) _ _ (plainFor_of_name own_pn_3) ?_
  intro p e s vm0 m below meth c T X0 hS hx hby hml hret hlk hZ hown hnm e0
  replace hown : (s.setVm vm0).vm.findClass "com/example/countersign/countersign/server/Exchange" = some m.cls := hown
  replace hnm : meth.name = "<init>" := hnm
  have hml : c.maxLocals = 6 := hml
  have N0 := Fr.nil Z.heap.size
  have K0 := Keep.refl h0 [a1]
  refine own_go (fun _ k => castTop (ef_xinit m a1 gv2 r_gv2 gv3 r_gv3 gv4 r_gv4 gv5 r_gv5 gv6 r_gv6) k) ?_
  show own_Go p e below s _ _ _ (T.setTop (mkF m 0 #[.val (.ref a1), .val gv2, .val gv3, .val gv4, .val gv5, .val gv6] []))
  refine own_go (fun _ k => XS.aloadN X0.here hx rfl (hb hby d2_0) rfl rfl k) ?_
  show own_Go p e below s _ _ _ (T.setTop (mkF m 1 #[.val (.ref a1), .val gv2, .val gv3, .val gv4, .val gv5, .val gv6] [(.ref a1)]))
  obtain ⟨v1, T1, L1, X1, hSn, hZn, hownn, hQ1, st1⟩ := own_callI (y := (⟨"java/lang/Record", "<init>", "()V"⟩ : MethodName)) X0 hS hx hZ hown (hw _ (List.mem_of_getElem? (i := 22) rfl)) (hw _ (List.mem_of_getElem? (i := 23) rfl)) (hw _ (List.mem_of_getElem? (i := 25) rfl)) (hw _ (List.mem_of_getElem? (i := 26) rfl)) (rm_recinit l Z a0 hw oCa oBx [] a1 h0 O0) 0 0 0 rfl rfl rfl (by decide) (by decide) (by decide) (by show _ ≤ 0; omega) (by show _ ≤ 0; omega) e0 (g := (mkF m 1 #[.val (.ref a1), .val gv2, .val gv3, .val gv4, .val gv5, .val gv6] [(.ref a1)])) rfl (by rw [hml]; rfl) a1 [] [] (lenOf own_pd_0 rfl) rfl rfl (by show 2 * 0 + _ ≤ _; exact Nat.le_of_eq rfl) (hb hby d2_1)
  replace hS := hSn
  replace hZ := hZn
  replace hown := hownn
  clear hSn hZn hownn
  obtain ⟨rfl, Nc3, Kc2⟩ := hQ1
  refine own_go st1 ?_
  have N4 := Fr.app N0 Nc3
  rw [Kc2] at hS
  show own_Go p e below s _ _ _ (T1.setTop (mkF m 4 #[.val (.ref a1), .val gv2, .val gv3, .val gv4, .val gv5, .val gv6] []))
  refine own_go (fun _ k => XS.aloadN X1.here hx rfl (hb hby d2_4) rfl rfl k) ?_
  show own_Go p e below s _ _ _ (T1.setTop (mkF m 5 #[.val (.ref a1), .val gv2, .val gv3, .val gv4, .val gv5, .val gv6] [(.ref a1)]))
  refine own_go (fun _ k => XS.aloadN X1.here hx rfl (hb hby d2_5) rfl r_gv2 k) ?_
  show own_Go p e below s _ _ _ (T1.setTop (mkF m 6 #[.val (.ref a1), .val gv2, .val gv3, .val gv4, .val gv5, .val gv6] [gv2, (.ref a1)]))
  obtain ⟨T5, h5, X5, e5, W5, st5⟩ := putF X1 hx hZ hown (host := "") (Or.inl (hw _ (List.mem_of_getElem? (i := 30) rfl))) Via.refl Kc2 f_F_a1_artefact f_E_a1 (Or.inr ⟨(hw _ (List.mem_of_getElem? (i := 31) rfl)), rfl, hnm⟩) (hw _ (List.mem_of_getElem? (i := 9) rfl)) (ty := (.object "java/lang/String")) (by decide) (own_narRef _ r_gv2 (by decide)) (own_fitsRef _ r_gv2 (by decide)) (g := (mkF m 6 #[.val (.ref a1), .val gv2, .val gv3, .val gv4, .val gv5, .val gv6] [gv2, (.ref a1)])) rfl rfl (hb hby d2_6)
  refine own_go st5 ?_
  have N6 := Fr.snoc X5 N4 big_a1
  have f7 : Exa Z h5 a1 "com/example/countersign/countersign/server/Exchange" := f_E_a1.wr W5
  have f8 : Fld Z h5 a1 "com/example/countersign/countersign/server/Exchange" "artefact" "Ljava/lang/String;" gv2 := f_F_a1_artefact.same W5
  have f9 : Fld Z h5 a1 "com/example/countersign/countersign/server/Exchange" "activatedAt" "Ljava/lang/Long;" .null := f_F_a1_activatedAt.other W5 (Or.inr (slot_ne (Or.inr (hw _ (List.mem_of_getElem? (i := 33) rfl))) (Or.inr (hw _ (List.mem_of_getElem? (i := 31) rfl))) (by decide) (t := (.object "java/lang/Long")) (t' := (.object "java/lang/String")) (by decide) (by decide)))
  have f10 : Fld Z h5 a1 "com/example/countersign/countersign/server/Exchange" "expiresAt" "Ljava/lang/Long;" .null := f_F_a1_expiresAt.other W5 (Or.inr (slot_ne (Or.inr (hw _ (List.mem_of_getElem? (i := 35) rfl))) (Or.inr (hw _ (List.mem_of_getElem? (i := 31) rfl))) (by decide) (t := (.object "java/lang/Long")) (t' := (.object "java/lang/String")) (by decide) (by decide)))
  have f11 : Fld Z h5 a1 "com/example/countersign/countersign/server/Exchange" "refreshAt" "Ljava/lang/Long;" .null := f_F_a1_refreshAt.other W5 (Or.inr (slot_ne (Or.inr (hw _ (List.mem_of_getElem? (i := 37) rfl))) (Or.inr (hw _ (List.mem_of_getElem? (i := 31) rfl))) (by decide) (t := (.object "java/lang/Long")) (t' := (.object "java/lang/String")) (by decide) (by decide)))
  have f12 : Fld Z h5 a1 "com/example/countersign/countersign/server/Exchange" "failure" "Ljava/lang/String;" .null := f_F_a1_failure.other W5 (Or.inr (slot_ne (Or.inr (hw _ (List.mem_of_getElem? (i := 39) rfl))) (Or.inr (hw _ (List.mem_of_getElem? (i := 31) rfl))) (by decide) (t := (.object "java/lang/String")) (t' := (.object "java/lang/String")) (by decide) (by decide)))
  have O13 := own_oldWr O0 W5 big_a1
  replace hS := own_since hS (Nat.le_of_eq W5.size.symm)
  have K14 : Keep h0 h5 [a1] := K0.wr W5 (Or.inl (List.mem_of_getElem? (i := 0) rfl))
  show own_Go p e below s _ _ _ (T5.setTop (mkF m 9 #[.val (.ref a1), .val gv2, .val gv3, .val gv4, .val gv5, .val gv6] []))
  refine own_go (fun _ k => XS.aloadN X5.here hx rfl (hb hby d2_9) rfl rfl k) ?_
  show own_Go p e below s _ _ _ (T5.setTop (mkF m 10 #[.val (.ref a1), .val gv2, .val gv3, .val gv4, .val gv5, .val gv6] [(.ref a1)]))
  refine own_go (fun _ k => XS.aloadN X5.here hx rfl (hb hby d2_10) rfl r_gv3 k) ?_
  show own_Go p e below s _ _ _ (T5.setTop (mkF m 11 #[.val (.ref a1), .val gv2, .val gv3, .val gv4, .val gv5, .val gv6] [gv3, (.ref a1)]))
  obtain ⟨T15, h15, X15, e15, W15, st15⟩ := putF X5 hx hZ hown (host := "") (Or.inl (hw _ (List.mem_of_getElem? (i := 32) rfl))) Via.refl e5 f9 f7 (Or.inr ⟨(hw _ (List.mem_of_getElem? (i := 33) rfl)), rfl, hnm⟩) (hw _ (List.mem_of_getElem? (i := 9) rfl)) (ty := (.object "java/lang/Long")) (by decide) (own_narRef _ r_gv3 (by decide)) (own_fitsRef _ r_gv3 (by decide)) (g := (mkF m 11 #[.val (.ref a1), .val gv2, .val gv3, .val gv4, .val gv5, .val gv6] [gv3, (.ref a1)])) rfl rfl (hb hby d2_11)
  refine own_go st15 ?_
  have N16 := Fr.snoc X15 N6 big_a1
  have f17 : Exa Z h15 a1 "com/example/countersign/countersign/server/Exchange" := f7.wr W15
  have f18 : Fld Z h15 a1 "com/example/countersign/countersign/server/Exchange" "artefact" "Ljava/lang/String;" gv2 := f8.other W15 (Or.inr (slot_ne (Or.inr (hw _ (List.mem_of_getElem? (i := 31) rfl))) (Or.inr (hw _ (List.mem_of_getElem? (i := 33) rfl))) (by decide) (t := (.object "java/lang/String")) (t' := (.object "java/lang/Long")) (by decide) (by decide)))
  have f19 : Fld Z h15 a1 "com/example/countersign/countersign/server/Exchange" "activatedAt" "Ljava/lang/Long;" gv3 := f9.same W15
  have f20 : Fld Z h15 a1 "com/example/countersign/countersign/server/Exchange" "expiresAt" "Ljava/lang/Long;" .null := f10.other W15 (Or.inr (slot_ne (Or.inr (hw _ (List.mem_of_getElem? (i := 35) rfl))) (Or.inr (hw _ (List.mem_of_getElem? (i := 33) rfl))) (by decide) (t := (.object "java/lang/Long")) (t' := (.object "java/lang/Long")) (by decide) (by decide)))
  have f21 : Fld Z h15 a1 "com/example/countersign/countersign/server/Exchange" "refreshAt" "Ljava/lang/Long;" .null := f11.other W15 (Or.inr (slot_ne (Or.inr (hw _ (List.mem_of_getElem? (i := 37) rfl))) (Or.inr (hw _ (List.mem_of_getElem? (i := 33) rfl))) (by decide) (t := (.object "java/lang/Long")) (t' := (.object "java/lang/Long")) (by decide) (by decide)))
  have f22 : Fld Z h15 a1 "com/example/countersign/countersign/server/Exchange" "failure" "Ljava/lang/String;" .null := f12.other W15 (Or.inr (slot_ne (Or.inr (hw _ (List.mem_of_getElem? (i := 39) rfl))) (Or.inr (hw _ (List.mem_of_getElem? (i := 33) rfl))) (by decide) (t := (.object "java/lang/String")) (t' := (.object "java/lang/Long")) (by decide) (by decide)))
  have O23 := own_oldWr O13 W15 big_a1
  replace hS := own_since hS (Nat.le_of_eq W15.size.symm)
  have K24 : Keep h0 h15 [a1] := K14.wr W15 (Or.inl (List.mem_of_getElem? (i := 0) rfl))
  show own_Go p e below s _ _ _ (T15.setTop (mkF m 14 #[.val (.ref a1), .val gv2, .val gv3, .val gv4, .val gv5, .val gv6] []))
  refine own_go (fun _ k => XS.aloadN X15.here hx rfl (hb hby d2_14) rfl rfl k) ?_
  show own_Go p e below s _ _ _ (T15.setTop (mkF m 15 #[.val (.ref a1), .val gv2, .val gv3, .val gv4, .val gv5, .val gv6] [(.ref a1)]))
  refine own_go (fun _ k => XS.aloadN X15.here hx rfl (hb hby d2_15) rfl r_gv4 k) ?_
  show own_Go p e below s _ _ _ (T15.setTop (mkF m 16 #[.val (.ref a1), .val gv2, .val gv3, .val gv4, .val gv5, .val gv6] [gv4, (.ref a1)]))
  obtain ⟨T25, h25, X25, e25, W25, st25⟩ := putF X15 hx hZ hown (host := "") (Or.inl (hw _ (List.mem_of_getElem? (i := 34) rfl))) Via.refl e15 f20 f17 (Or.inr ⟨(hw _ (List.mem_of_getElem? (i := 35) rfl)), rfl, hnm⟩) (hw _ (List.mem_of_getElem? (i := 9) rfl)) (ty := (.object "java/lang/Long")) (by decide) (own_narRef _ r_gv4 (by decide)) (own_fitsRef _ r_gv4 (by decide)) (g := (mkF m 16 #[.val (.ref a1), .val gv2, .val gv3, .val gv4, .val gv5, .val gv6] [gv4, (.ref a1)])) rfl rfl (hb hby d2_16)
  refine own_go st25 ?_
  have N26 := Fr.snoc X25 N16 big_a1
  have f27 : Exa Z h25 a1 "com/example/countersign/countersign/server/Exchange" := f17.wr W25
  have f28 : Fld Z h25 a1 "com/example/countersign/countersign/server/Exchange" "artefact" "Ljava/lang/String;" gv2 := f18.other W25 (Or.inr (slot_ne (Or.inr (hw _ (List.mem_of_getElem? (i := 31) rfl))) (Or.inr (hw _ (List.mem_of_getElem? (i := 35) rfl))) (by decide) (t := (.object "java/lang/String")) (t' := (.object "java/lang/Long")) (by decide) (by decide)))
  have f29 : Fld Z h25 a1 "com/example/countersign/countersign/server/Exchange" "activatedAt" "Ljava/lang/Long;" gv3 := f19.other W25 (Or.inr (slot_ne (Or.inr (hw _ (List.mem_of_getElem? (i := 33) rfl))) (Or.inr (hw _ (List.mem_of_getElem? (i := 35) rfl))) (by decide) (t := (.object "java/lang/Long")) (t' := (.object "java/lang/Long")) (by decide) (by decide)))
  have f30 : Fld Z h25 a1 "com/example/countersign/countersign/server/Exchange" "expiresAt" "Ljava/lang/Long;" gv4 := f20.same W25
  have f31 : Fld Z h25 a1 "com/example/countersign/countersign/server/Exchange" "refreshAt" "Ljava/lang/Long;" .null := f21.other W25 (Or.inr (slot_ne (Or.inr (hw _ (List.mem_of_getElem? (i := 37) rfl))) (Or.inr (hw _ (List.mem_of_getElem? (i := 35) rfl))) (by decide) (t := (.object "java/lang/Long")) (t' := (.object "java/lang/Long")) (by decide) (by decide)))
  have f32 : Fld Z h25 a1 "com/example/countersign/countersign/server/Exchange" "failure" "Ljava/lang/String;" .null := f22.other W25 (Or.inr (slot_ne (Or.inr (hw _ (List.mem_of_getElem? (i := 39) rfl))) (Or.inr (hw _ (List.mem_of_getElem? (i := 35) rfl))) (by decide) (t := (.object "java/lang/String")) (t' := (.object "java/lang/Long")) (by decide) (by decide)))
  have O33 := own_oldWr O23 W25 big_a1
  replace hS := own_since hS (Nat.le_of_eq W25.size.symm)
  have K34 : Keep h0 h25 [a1] := K24.wr W25 (Or.inl (List.mem_of_getElem? (i := 0) rfl))
  show own_Go p e below s _ _ _ (T25.setTop (mkF m 19 #[.val (.ref a1), .val gv2, .val gv3, .val gv4, .val gv5, .val gv6] []))
  refine own_go (fun _ k => XS.aloadN X25.here hx rfl (hb hby d2_19) rfl rfl k) ?_
  show own_Go p e below s _ _ _ (T25.setTop (mkF m 20 #[.val (.ref a1), .val gv2, .val gv3, .val gv4, .val gv5, .val gv6] [(.ref a1)]))
  refine own_go (fun _ k => XS.aload X25.here hx rfl (hb hby d2_20) rfl r_gv5 k) ?_
  show own_Go p e below s _ _ _ (T25.setTop (mkF m 22 #[.val (.ref a1), .val gv2, .val gv3, .val gv4, .val gv5, .val gv6] [gv5, (.ref a1)]))
  obtain ⟨T35, h35, X35, e35, W35, st35⟩ := putF X25 hx hZ hown (host := "") (Or.inl (hw _ (List.mem_of_getElem? (i := 36) rfl))) Via.refl e25 f31 f27 (Or.inr ⟨(hw _ (List.mem_of_getElem? (i := 37) rfl)), rfl, hnm⟩) (hw _ (List.mem_of_getElem? (i := 9) rfl)) (ty := (.object "java/lang/Long")) (by decide) (own_narRef _ r_gv5 (by decide)) (own_fitsRef _ r_gv5 (by decide)) (g := (mkF m 22 #[.val (.ref a1), .val gv2, .val gv3, .val gv4, .val gv5, .val gv6] [gv5, (.ref a1)])) rfl rfl (hb hby d2_22)
  refine own_go st35 ?_
  have N36 := Fr.snoc X35 N26 big_a1
  have f37 : Exa Z h35 a1 "com/example/countersign/countersign/server/Exchange" := f27.wr W35
  have f38 : Fld Z h35 a1 "com/example/countersign/countersign/server/Exchange" "artefact" "Ljava/lang/String;" gv2 := f28.other W35 (Or.inr (slot_ne (Or.inr (hw _ (List.mem_of_getElem? (i := 31) rfl))) (Or.inr (hw _ (List.mem_of_getElem? (i := 37) rfl))) (by decide) (t := (.object "java/lang/String")) (t' := (.object "java/lang/Long")) (by decide) (by decide)))
  have f39 : Fld Z h35 a1 "com/example/countersign/countersign/server/Exchange" "activatedAt" "Ljava/lang/Long;" gv3 := f29.other W35 (Or.inr (slot_ne (Or.inr (hw _ (List.mem_of_getElem? (i := 33) rfl))) (Or.inr (hw _ (List.mem_of_getElem? (i := 37) rfl))) (by decide) (t := (.object "java/lang/Long")) (t' := (.object "java/lang/Long")) (by decide) (by decide)))
  have f40 : Fld Z h35 a1 "com/example/countersign/countersign/server/Exchange" "expiresAt" "Ljava/lang/Long;" gv4 := f30.other W35 (Or.inr (slot_ne (Or.inr (hw _ (List.mem_of_getElem? (i := 35) rfl))) (Or.inr (hw _ (List.mem_of_getElem? (i := 37) rfl))) (by decide) (t := (.object "java/lang/Long")) (t' := (.object "java/lang/Long")) (by decide) (by decide)))
  have f41 : Fld Z h35 a1 "com/example/countersign/countersign/server/Exchange" "refreshAt" "Ljava/lang/Long;" gv5 := f31.same W35
  have f42 : Fld Z h35 a1 "com/example/countersign/countersign/server/Exchange" "failure" "Ljava/lang/String;" .null := f32.other W35 (Or.inr (slot_ne (Or.inr (hw _ (List.mem_of_getElem? (i := 39) rfl))) (Or.inr (hw _ (List.mem_of_getElem? (i := 37) rfl))) (by decide) (t := (.object "java/lang/String")) (t' := (.object "java/lang/Long")) (by decide) (by decide)))
  have O43 := own_oldWr O33 W35 big_a1
  replace hS := own_since hS (Nat.le_of_eq W35.size.symm)
  have K44 : Keep h0 h35 [a1] := K34.wr W35 (Or.inl (List.mem_of_getElem? (i := 0) rfl))
  show own_Go p e below s _ _ _ (T35.setTop (mkF m 25 #[.val (.ref a1), .val gv2, .val gv3, .val gv4, .val gv5, .val gv6] []))
  refine own_go (fun _ k => XS.aloadN X35.here hx rfl (hb hby d2_25) rfl rfl k) ?_
  show own_Go p e below s _ _ _ (T35.setTop (mkF m 26 #[.val (.ref a1), .val gv2, .val gv3, .val gv4, .val gv5, .val gv6] [(.ref a1)]))
  refine own_go (fun _ k => XS.aload X35.here hx rfl (hb hby d2_26) rfl r_gv6 k) ?_
  show own_Go p e below s _ _ _ (T35.setTop (mkF m 28 #[.val (.ref a1), .val gv2, .val gv3, .val gv4, .val gv5, .val gv6] [gv6, (.ref a1)]))
  obtain ⟨T45, h45, X45, e45, W45, st45⟩ := putF X35 hx hZ hown (host := "") (Or.inl (hw _ (List.mem_of_getElem? (i := 38) rfl))) Via.refl e35 f42 f37 (Or.inr ⟨(hw _ (List.mem_of_getElem? (i := 39) rfl)), rfl, hnm⟩) (hw _ (List.mem_of_getElem? (i := 9) rfl)) (ty := (.object "java/lang/String")) (by decide) (own_narRef _ r_gv6 (by decide)) (own_fitsRef _ r_gv6 (by decide)) (g := (mkF m 28 #[.val (.ref a1), .val gv2, .val gv3, .val gv4, .val gv5, .val gv6] [gv6, (.ref a1)])) rfl rfl (hb hby d2_28)
  refine own_go st45 ?_
  have N46 := Fr.snoc X45 N36 big_a1
  have f47 : Exa Z h45 a1 "com/example/countersign/countersign/server/Exchange" := f37.wr W45
  have f48 : Fld Z h45 a1 "com/example/countersign/countersign/server/Exchange" "artefact" "Ljava/lang/String;" gv2 := f38.other W45 (Or.inr (slot_ne (Or.inr (hw _ (List.mem_of_getElem? (i := 31) rfl))) (Or.inr (hw _ (List.mem_of_getElem? (i := 39) rfl))) (by decide) (t := (.object "java/lang/String")) (t' := (.object "java/lang/String")) (by decide) (by decide)))
  have f49 : Fld Z h45 a1 "com/example/countersign/countersign/server/Exchange" "activatedAt" "Ljava/lang/Long;" gv3 := f39.other W45 (Or.inr (slot_ne (Or.inr (hw _ (List.mem_of_getElem? (i := 33) rfl))) (Or.inr (hw _ (List.mem_of_getElem? (i := 39) rfl))) (by decide) (t := (.object "java/lang/Long")) (t' := (.object "java/lang/String")) (by decide) (by decide)))
  have f50 : Fld Z h45 a1 "com/example/countersign/countersign/server/Exchange" "expiresAt" "Ljava/lang/Long;" gv4 := f40.other W45 (Or.inr (slot_ne (Or.inr (hw _ (List.mem_of_getElem? (i := 35) rfl))) (Or.inr (hw _ (List.mem_of_getElem? (i := 39) rfl))) (by decide) (t := (.object "java/lang/Long")) (t' := (.object "java/lang/String")) (by decide) (by decide)))
  have f51 : Fld Z h45 a1 "com/example/countersign/countersign/server/Exchange" "refreshAt" "Ljava/lang/Long;" gv5 := f41.other W45 (Or.inr (slot_ne (Or.inr (hw _ (List.mem_of_getElem? (i := 37) rfl))) (Or.inr (hw _ (List.mem_of_getElem? (i := 39) rfl))) (by decide) (t := (.object "java/lang/Long")) (t' := (.object "java/lang/String")) (by decide) (by decide)))
  have f52 : Fld Z h45 a1 "com/example/countersign/countersign/server/Exchange" "failure" "Ljava/lang/String;" gv6 := f42.same W45
  have O53 := own_oldWr O43 W45 big_a1
  replace hS := own_since hS (Nat.le_of_eq W45.size.symm)
  have K54 : Keep h0 h45 [a1] := K44.wr W45 (Or.inl (List.mem_of_getElem? (i := 0) rfl))
  show own_Go p e below s _ _ _ (T45.setTop (mkF m 31 #[.val (.ref a1), .val gv2, .val gv3, .val gv4, .val gv5, .val gv6] []))
  refine own_retV X45 hS hx hlk e45 hret (hb hby d2_31) (by show _ ≤ 0; omega) (by show _ ≤ 0; omega) ?_
  exact ⟨rfl, N46, K54, f47, f48, f49, f50, f51, f52⟩
theorem d7_0 : decode jdk_29_method_66_code 0 = .ok (.lload_n 0, 1) := by decide +kernel
theorem d7_1 : decode jdk_29_method_66_code 1 = .ok (.lload_n 2, 1) := by decide +kernel
theorem d7_2 : decode jdk_29_method_66_code 2 = .ok (.lcmp, 1) := by decide +kernel
theorem d7_3 : decode jdk_29_method_66_code 3 = .ok (.ifCond .lt 7, 3) := by decide +kernel
theorem d7_6 : decode jdk_29_method_66_code 6 = .ok (.lload_n 0, 1) := by decide +kernel
theorem d7_7 : decode jdk_29_method_66_code 7 = .ok (.goto 4, 3) := by decide +kernel
theorem d7_10 : decode jdk_29_method_66_code 10 = .ok (.lload_n 2, 1) := by decide +kernel
theorem d7_11 : decode jdk_29_method_66_code 11 = .ok (.lreturn, 1) := by decide +kernel
def Q_maxj (Z : State) (wc : Addr) (clc : Cell) (q1 : Int64) (q2 : Int64) (h0 : Heap) (v : Option Value) (h : Heap) (L : List Loc) : Prop := (v = some (.long q2) ∧ Fr Z.heap.size L ∧ q1 < q2 ∧ h = h0) ∨ (v = some (.long q1) ∧ Fr Z.heap.size L ∧ ¬ (q1 < q2) ∧ h = h0)
theorem ef_maxj (m : MethodId) (x0 : Int64) (x1 : Int64) : entryFrame m #[(.long x0), (.long x1)] 4 = mkF m 0 #[.val (.long x0), .second, .val (.long x1), .second] [] := by first | (simp [entryFrame, mkF, argsToLocals, Value.category]; done) | rfl
set_option maxRecDepth 65536 in
set_option maxHeartbeats 40000000 in
theorem rm_maxj (l : Launch) (Z : State) (a0 : Array Value) (hw : ∀ d ∈ tables_1, d.before a0 Z = true) {wc : Addr} {clc : Cell} (oCa : Sta Z Z.heap "java/lang/Long$LongCache" "cache" "[Ljava/lang/Long;" (.ref wc)) (oBx : Bxs Z wc clc "java/lang/Long" "J" (256 : Int32) own_bxv) (ws : List Jvm.Cond) (q1 : Int64) (q2 : Int64) (h0 : Heap) (O0 : Ext Z.heap h0) :
    MetFree l (⟨"java/lang/Math", "max", "(JJ)J"⟩ : MethodName) (head1 (Jvm.Cond.code (⟨"java/lang/Math", "max", "(JJ)J"⟩ : MethodName) jdk_29_method_66_code 4 (some .long) :: ws) ({ frames := 0, cells := 0, slots := 0, locals := 0 } : Room)) (fun a U => a = #[(.long q1), (.long q2)] ∧ Z.Warmed39 U.vm ∧ U.heap = h0) (fun _ _ _ _ _ => True) (fun _ U o U' => ∃ v L, o = .returned v ∧ (Q_maxj Z wc clc q1 q2 h0) v U'.heap L ∧ ReturnedEndW U o U' L ({ frames := 0, cells := 0, slots := 0, locals := 0 } : Room).cells ({ frames := 0, cells := 0, slots := 0, locals := 0 } : Room).slots) := by
  refine own_met (Q := (Q_maxj Z wc clc q1 q2 h0)) _ _ (Jvm.Free.JP.mathPlain rfl (by decide +kernel)) ?_
  intro p e s vm0 m below meth c T X0 hS hx hby hml hret hlk hZ hown hnm e0
  replace hown : (s.setVm vm0).vm.findClass "java/lang/Math" = some m.cls := hown
  replace hnm : meth.name = "max" := hnm
  have hml : c.maxLocals = 4 := hml
  have N0 := Fr.nil Z.heap.size
  have K0 := Keep.refl h0 []
  refine own_go (fun _ k => castTop (ef_maxj m q1 q2) k) ?_
  show own_Go p e below s _ _ _ (T.setTop (mkF m 0 #[.val (.long q1), .second, .val (.long q2), .second] []))
  refine own_go (fun _ k => XS.lloadN X0.here hx rfl (hb hby d7_0) rfl k) ?_
  show own_Go p e below s _ _ _ (T.setTop (mkF m 1 #[.val (.long q1), .second, .val (.long q2), .second] [(.long q1)]))
  refine own_go (fun _ k => XS.lloadN X0.here hx rfl (hb hby d7_1) rfl k) ?_
  show own_Go p e below s _ _ _ (T.setTop (mkF m 2 #[.val (.long q1), .second, .val (.long q2), .second] [(.long q2), (.long q1)]))
  refine own_go (fun _ k => XS.lcmp X0.here hx rfl (hb hby d7_2) rfl k) ?_
  show own_Go p e below s _ _ _ (T.setTop (mkF m 3 #[.val (.long q1), .second, .val (.long q2), .second] [(.int (lcmpW q1 q2))]))
  by_cases hc1 : q1 < q2
  · refine own_go (fun _ k => XS.ifYes X0.here hx rfl (pc0 := 3) (pc' := 10) rfl (hb hby d7_3) rfl ((if0 _ _).trans (tlt ((lw_lt _ _).mpr hc1)).1) (by decide) (by decide) k) ?_
    show own_Go p e below s _ _ _ (T.setTop (mkF m 10 #[.val (.long q1), .second, .val (.long q2), .second] []))
    refine own_go (fun _ k => XS.lloadN X0.here hx rfl (hb hby d7_10) rfl k) ?_
    show own_Go p e below s _ _ _ (T.setTop (mkF m 11 #[.val (.long q1), .second, .val (.long q2), .second] [(.long q2)]))
    refine own_retJ X0 hS hx hlk e0 hret (hb hby d7_11) (by show _ ≤ 0; omega) (by show _ ≤ 0; omega) ?_
    exact Or.inl ⟨rfl, N0, hc1, rfl⟩
  · refine own_go (fun _ k => XS.ifNo X0.here hx rfl (hb hby d7_3) rfl ((if0 _ _).trans (flt (fun q => hc1 ((lw_lt _ _).mp q))).1) k) ?_
    show own_Go p e below s _ _ _ (T.setTop (mkF m 6 #[.val (.long q1), .second, .val (.long q2), .second] []))
    refine own_go (fun _ k => XS.lloadN X0.here hx rfl (hb hby d7_6) rfl k) ?_
    show own_Go p e below s _ _ _ (T.setTop (mkF m 7 #[.val (.long q1), .second, .val (.long q2), .second] [(.long q1)]))
    refine own_go (fun _ k => XS.goto X0.here hx rfl (pc0 := 7) (pc' := 11) rfl (hb hby d7_7) (by decide) (by decide) k) ?_
    show own_Go p e below s _ _ _ (T.setTop (mkF m 11 #[.val (.long q1), .second, .val (.long q2), .second] [(.long q1)]))
    refine own_retJ X0 hS hx hlk e0 hret (hb hby d7_11) (by show _ ≤ 0; omega) (by show _ ≤ 0; omega) ?_
    exact Or.inr (⟨rfl, N0, hc1, rfl⟩)
theorem d5_0 : decode prog_24_method_6_code 0 = .ok (.aload_n 0, 1) := by decide +kernel
theorem d5_1 : decode prog_24_method_6_code 1 = .ok (.getfield 17, 3) := by decide +kernel
theorem d5_4 : decode prog_24_method_6_code 4 = .ok (.ifnull 19, 3) := by decide +kernel
theorem d5_23 : decode prog_24_method_6_code 23 = .ok (.iconst 0, 1) := by decide +kernel
theorem d5_24 : decode prog_24_method_6_code 24 = .ok (.ireturn, 1) := by decide +kernel
def Q_expN (Z : State) (wc : Addr) (clc : Cell) (a1 : Addr) (q1 : Int64) (h0 : Heap) (v : Option Value) (h : Heap) (L : List Loc) : Prop := (v = some (.int (0 : Int32)) ∧ Fr Z.heap.size L ∧ h = h0)
theorem ef_expN (m : MethodId) (x0 : Addr) (x1 : Int64) : entryFrame m #[(.ref x0), (.long x1)] 3 = mkF m 0 #[.val (.ref x0), .val (.long x1), .second] [] := by first | (simp [entryFrame, mkF, argsToLocals, Value.category]; done) | rfl
set_option maxRecDepth 65536 in
set_option maxHeartbeats 40000000 in
theorem rm_expN (l : Launch) (Z : State) (a0 : Array Value) (hw : ∀ d ∈ tables_1, d.before a0 Z = true) {wc : Addr} {clc : Cell} (oCa : Sta Z Z.heap "java/lang/Long$LongCache" "cache" "[Ljava/lang/Long;" (.ref wc)) (oBx : Bxs Z wc clc "java/lang/Long" "J" (256 : Int32) own_bxv) (ws : List Jvm.Cond) (a1 : Addr) (q1 : Int64) (h0 : Heap) (O0 : Ext Z.heap h0) (f_F_a1_expiresAt : Fld Z h0 a1 "com/example/countersign/countersign/server/Exchange" "expiresAt" "Ljava/lang/Long;" .null) :
    MetFree l (⟨"com/example/countersign/countersign/server/Exchange", "expiredBy", "(J)Z"⟩ : MethodName) (head1 (Jvm.Cond.code (⟨"com/example/countersign/countersign/server/Exchange", "expiredBy", "(J)Z"⟩ : MethodName) prog_24_method_6_code 3 (some .boolean) :: ws) ({ frames := 0, cells := 0, slots := 0, locals := 0 } : Room)) (fun a U => a = #[(.ref a1), (.long q1)] ∧ Z.Warmed39 U.vm ∧ U.heap = h0) (fun _ _ _ _ _ => True) (fun _ U o U' => ∃ v L, o = .returned v ∧ (Q_expN Z wc clc a1 q1 h0) v U'.heap L ∧ ReturnedEndW U o U' L ({ frames := 0, cells := 0, slots := 0, locals := 0 } : Room).cells ({ frames := 0, cells := 0, slots := 0, locals := 0 } : Room).slots) := by
  refine own_met (Q := (Q_expN Z wc clc a1 q1 h0)) _ _ (plainFor_of_name own_pn_3) ?_
  intro p e s vm0 m below meth c T X0 hS hx hby hml hret hlk hZ hown hnm e0
  replace hown : (s.setVm vm0).vm.findClass "com/example/countersign/countersign/server/Exchange" = some m.cls := hown
  replace hnm : meth.name = "expiredBy" := hnm
  have hml : c.maxLocals = 3 := hml
  have N0 := Fr.nil Z.heap.size
  have K0 := Keep.refl h0 []
  refine own_go (fun _ k => castTop (ef_expN m a1 q1) k) ?_
  show own_Go p e below s _ _ _ (T.setTop (mkF m 0 #[.val (.ref a1), .val (.long q1), .second] []))
  refine own_go (fun _ k => XS.aloadN X0.here hx rfl (hb hby d5_0) rfl rfl k) ?_
  show own_Go p e below s _ _ _ (T.setTop (mkF m 1 #[.val (.ref a1), .val (.long q1), .second] [(.ref a1)]))
  obtain ⟨T1, X1, e1, st1⟩ := getF X0 hx hZ hown (host := "") (Or.inl (hw _ (List.mem_of_getElem? (i := 34) rfl))) Via.refl e0 f_F_a1_expiresAt (g := (mkF m 1 #[.val (.ref a1), .val (.long q1), .second] [(.ref a1)])) rfl rfl (hb hby d5_1)
  refine own_go st1 ?_
  show own_Go p e below s _ _ _ (T1.setTop (mkF m 4 #[.val (.ref a1), .val (.long q1), .second] [.null]))
  refine own_go (fun _ k => XS.ifnullYes X1.here hx rfl (pc0 := 4) (pc' := 23) rfl (hb hby d5_4) rfl (by decide) (by decide) k) ?_
  show own_Go p e below s _ _ _ (T1.setTop (mkF m 23 #[.val (.ref a1), .val (.long q1), .second] []))
  refine own_go (fun _ k => XS.iconst X1.here hx rfl (hb hby d5_23) k) ?_
  show own_Go p e below s _ _ _ (T1.setTop (mkF m 24 #[.val (.ref a1), .val (.long q1), .second] [(.int (0 : Int32))]))
  refine own_retN X1 hS hx hlk e1 (t := .boolean) hret (by simp) (hb hby d5_24) (by show _ ≤ 0; omega) (by show _ ≤ 0; omega) ?_
  exact ⟨rfl, N0, rfl⟩
theorem d5_7 : decode prog_24_method_6_code 7 = .ok (.aload_n 0, 1) := by decide +kernel
theorem d5_8 : decode prog_24_method_6_code 8 = .ok (.getfield 17, 3) := by decide +kernel
theorem d5_11 : decode prog_24_method_6_code 11 = .ok (.invokevirtual 35, 3) := by decide +kernel
theorem d5_14 : decode prog_24_method_6_code 14 = .ok (.lload_n 1, 1) := by decide +kernel
theorem d5_15 : decode prog_24_method_6_code 15 = .ok (.lcmp, 1) := by decide +kernel
theorem d5_16 : decode prog_24_method_6_code 16 = .ok (.ifCond .gt 7, 3) := by decide +kernel
theorem d5_19 : decode prog_24_method_6_code 19 = .ok (.iconst 1, 1) := by decide +kernel
theorem d5_20 : decode prog_24_method_6_code 20 = .ok (.goto 4, 3) := by decide +kernel
def Q_expR (Z : State) (wc : Addr) (clc : Cell) (a1 : Addr) (q1 : Int64) (b : Addr) (w : Int64) (h0 : Heap) (v : Option Value) (h : Heap) (L : List Loc) : Prop := (v = some (.int (0 : Int32)) ∧ Fr Z.heap.size L ∧ q1 < w ∧ h = h0) ∨ (v = some (.int (1 : Int32)) ∧ Fr Z.heap.size L ∧ ¬ (q1 < w) ∧ h = h0)
theorem ef_expR (m : MethodId) (x0 : Addr) (x1 : Int64) : entryFrame m #[(.ref x0), (.long x1)] 3 = mkF m 0 #[.val (.ref x0), .val (.long x1), .second] [] := by first | (simp [entryFrame, mkF, argsToLocals, Value.category]; done) | rfl
set_option maxRecDepth 65536 in
set_option maxHeartbeats 40000000 in
theorem rm_expR (l : Launch) (Z : State) (a0 : Array Value) (hw : ∀ d ∈ tables_1, d.before a0 Z = true) {wc : Addr} {clc : Cell} (oCa : Sta Z Z.heap "java/lang/Long$LongCache" "cache" "[Ljava/lang/Long;" (.ref wc)) (oBx : Bxs Z wc clc "java/lang/Long" "J" (256 : Int32) own_bxv) (ws : List Jvm.Cond) (a1 : Addr) (q1 : Int64) (b : Addr) (w : Int64) (h0 : Heap) (O0 : Ext Z.heap h0) (f_F_a1_expiresAt : Fld Z h0 a1 "com/example/countersign/countersign/server/Exchange" "expiresAt" "Ljava/lang/Long;" (.ref b)) (f_E_b : Exa Z h0 b "java/lang/Long") (f_F_b_value : Fld Z h0 b "java/lang/Long" "value" "J" (.long w)) :
    MetFree l (⟨"com/example/countersign/countersign/server/Exchange", "expiredBy", "(J)Z"⟩ : MethodName) (head1 (Jvm.Cond.code (⟨"com/example/countersign/countersign/server/Exchange", "expiredBy", "(J)Z"⟩ : MethodName) prog_24_method_6_code 3 (some .boolean) :: ws) ({ frames := 1, cells := 0, slots := 0, locals := 12 } : Room)) (fun a U => a = #[(.ref a1), (.long q1)] ∧ Z.Warmed39 U.vm ∧ U.heap = h0) (fun _ _ _ _ _ => True) (fun _ U o U' => ∃ v L, o = .returned v ∧ (Q_expR Z wc clc a1 q1 b w h0) v U'.heap L ∧ ReturnedEndW U o U' L ({ frames := 1, cells := 0, slots := 0, locals := 12 } : Room).cells ({ frames := 1, cells := 0, slots := 0, locals := 12 } : Room).slots) := by
  refine own_met (Q := (Q_expR Z wc clc a1 q1 b w h0)) _ _ (plainFor_of_name own_pn_3) ?_
  intro p e s vm0 m below meth c T X0 hS hx hby hml hret hlk hZ hown hnm e0
  replace hown : (s.setVm vm0).vm.findClass "com/example/countersign/countersign/server/Exchange" = some m.cls := hown
  replace hnm : meth.name = "expiredBy" := hnm
  have hml : c.maxLocals = 3 := hml
  have N0 := Fr.nil Z.heap.size
  have K0 := Keep.refl h0 []
  refine own_go (fun _ k => castTop (ef_expR m a1 q1) k) ?_
  show own_Go p e below s _ _ _ (T.setTop (mkF m 0 #[.val (.ref a1), .val (.long q1), .second] []))
  refine own_go (fun _ k => XS.aloadN X0.here hx rfl (hb hby d5_0) rfl rfl k) ?_
  show own_Go p e below s _ _ _ (T.setTop (mkF m 1 #[.val (.ref a1), .val (.long q1), .second] [(.ref a1)]))
  obtain ⟨T1, X1, e1, st1⟩ := getF X0 hx hZ hown (host := "") (Or.inl (hw _ (List.mem_of_getElem? (i := 34) rfl))) Via.refl e0 f_F_a1_expiresAt (g := (mkF m 1 #[.val (.ref a1), .val (.long q1), .second] [(.ref a1)])) rfl rfl (hb hby d5_1)
  refine own_go st1 ?_
  show own_Go p e below s _ _ _ (T1.setTop (mkF m 4 #[.val (.ref a1), .val (.long q1), .second] [(.ref b)]))
  refine own_go (fun _ k => XS.ifnullNo X1.here hx rfl (hb hby d5_4) rfl k) ?_
  show own_Go p e below s _ _ _ (T1.setTop (mkF m 7 #[.val (.ref a1), .val (.long q1), .second] []))
  refine own_go (fun _ k => XS.aloadN X1.here hx rfl (hb hby d5_7) rfl rfl k) ?_
  show own_Go p e below s _ _ _ (T1.setTop (mkF m 8 #[.val (.ref a1), .val (.long q1), .second] [(.ref a1)]))
  obtain ⟨T2, X2, e2, st2⟩ := getF X1 hx hZ hown (host := "") (Or.inl (hw _ (List.mem_of_getElem? (i := 34) rfl))) Via.refl e1 f_F_a1_expiresAt (g := (mkF m 8 #[.val (.ref a1), .val (.long q1), .second] [(.ref a1)])) rfl rfl (hb hby d5_8)
  refine own_go st2 ?_
  show own_Go p e below s _ _ _ (T2.setTop (mkF m 11 #[.val (.ref a1), .val (.long q1), .second] [(.ref b)]))
  obtain ⟨v3, T3, L3, X3, hSn, hZn, hownn, hQ3, st3⟩ := own_callV (y := (⟨"java/lang/Long", "longValue", "()J"⟩ : MethodName)) (z := (⟨"java/lang/Long", "longValue", "()J"⟩ : MethodName)) X2 hS hx hZ hown (hw _ (List.mem_of_getElem? (i := 45) rfl)) (hw _ (List.mem_of_getElem? (i := 46) rfl)) (notFace_of_selects (args := #[]) (mvT hZ (hw _ (List.mem_of_getElem? (i := 48) rfl)))) (hw _ (List.mem_of_getElem? (i := 48) rfl)) (hw _ (List.mem_of_getElem? (i := 47) rfl)) (hw _ (List.mem_of_getElem? (i := 2) rfl)) (hw _ (List.mem_of_getElem? (i := 49) rfl)) (rm_longValue l Z a0 hw oCa oBx [] b w h0 O0 f_F_b_value) 0 0 0 rfl rfl (by decide) (by decide) (by decide) (by show _ ≤ 0; omega) (by show _ ≤ 0; omega) e2 f_E_b (g := (mkF m 11 #[.val (.ref a1), .val (.long q1), .second] [(.ref b)])) rfl (by rw [hml]; rfl) [] [] (lenOf own_pd_2 rfl) rfl rfl (by show 2 * 0 + _ ≤ _; exact Nat.le_of_eq rfl) (hb hby d5_11)
  replace hS := hSn
  replace hZ := hZn
  replace hown := hownn
  clear hSn hZn hownn
  obtain ⟨rfl, Nc5, Kc4⟩ := hQ3
  refine own_go st3 ?_
  have N6 := Fr.app N0 Nc5
  rw [Kc4] at hS
  show own_Go p e below s _ _ _ (T3.setTop (mkF m 14 #[.val (.ref a1), .val (.long q1), .second] [(.long w)]))
  refine own_go (fun _ k => XS.lloadN X3.here hx rfl (hb hby d5_14) rfl k) ?_
  show own_Go p e below s _ _ _ (T3.setTop (mkF m 15 #[.val (.ref a1), .val (.long q1), .second] [(.long q1), (.long w)]))
  refine own_go (fun _ k => XS.lcmp X3.here hx rfl (hb hby d5_15) rfl k) ?_
  show own_Go p e below s _ _ _ (T3.setTop (mkF m 16 #[.val (.ref a1), .val (.long q1), .second] [(.int (lcmpW w q1))]))
  by_cases hc7 : q1 < w
  · refine own_go (fun _ k => XS.ifYes X3.here hx rfl (pc0 := 16) (pc' := 23) rfl (hb hby d5_16) rfl ((if0 _ _).trans (tlt ((lw_gt _ _).mpr hc7)).2.2.1) (by decide) (by decide) k) ?_
    show own_Go p e below s _ _ _ (T3.setTop (mkF m 23 #[.val (.ref a1), .val (.long q1), .second] []))
    refine own_go (fun _ k => XS.iconst X3.here hx rfl (hb hby d5_23) k) ?_
    show own_Go p e below s _ _ _ (T3.setTop (mkF m 24 #[.val (.ref a1), .val (.long q1), .second] [(.int (0 : Int32))]))
    refine own_retN X3 hS hx hlk Kc4 (t := .boolean) hret (by simp) (hb hby d5_24) (by show _ ≤ 0; omega) (by show _ ≤ 0; omega) ?_
    exact Or.inl ⟨rfl, N6, hc7, rfl⟩
  · refine own_go (fun _ k => XS.ifNo X3.here hx rfl (hb hby d5_16) rfl ((if0 _ _).trans (flt (fun q => hc7 ((lw_gt _ _).mp q))).2.2.1) k) ?_
    show own_Go p e below s _ _ _ (T3.setTop (mkF m 19 #[.val (.ref a1), .val (.long q1), .second] []))
    refine own_go (fun _ k => XS.iconst X3.here hx rfl (hb hby d5_19) k) ?_
    show own_Go p e below s _ _ _ (T3.setTop (mkF m 20 #[.val (.ref a1), .val (.long q1), .second] [(.int (1 : Int32))]))
    refine own_go (fun _ k => XS.goto X3.here hx rfl (pc0 := 20) (pc' := 24) rfl (hb hby d5_20) (by decide) (by decide) k) ?_
    show own_Go p e below s _ _ _ (T3.setTop (mkF m 24 #[.val (.ref a1), .val (.long q1), .second] [(.int (1 : Int32))]))
    refine own_retN X3 hS hx hlk Kc4 (t := .boolean) hret (by simp) (hb hby d5_24) (by show _ ≤ 0; omega) (by show _ ≤ 0; omega) ?_
    exact Or.inr (⟨rfl, N6, hc7, rfl⟩)
def Q_law (Z : State) (wc : Addr) (clc : Cell) (q1 : Int64) (q2 : Int64) (p3 : Int32) (h0 : Heap) (v : Option Value) (h : Heap) (L : List Loc) : Prop := (v = some (.int (1 : Int32)) ∧ Fr Z.heap.size L ∧ Keep h0 h [])
theorem ef_law (m : MethodId) (x0 : Int64) (x1 : Int64) (x2 : Int32) : entryFrame m #[(.long x0), (.long x1), (.int x2)] maxLocals = mkF m 0 #[.val (.long x0), .second, .val (.long x1), .second, .val (.int x2), .unset, .unset, .unset, .unset, .unset, .unset, .unset] [] := by first | (simp [entryFrame, mkF, argsToLocals, Value.category, maxLocals]; done) | rfl
set_option maxRecDepth 65536 in
set_option maxHeartbeats 40000000 in
theorem rm_law (l : Launch) (Z : State) (a0 : Array Value) (hw : ∀ d ∈ tables_1, d.before a0 Z = true) {wc : Addr} {clc : Cell} (oCa : Sta Z Z.heap "java/lang/Long$LongCache" "cache" "[Ljava/lang/Long;" (.ref wc)) (oBx : Bxs Z wc clc "java/lang/Long" "J" (256 : Int32) own_bxv) (ws : List Jvm.Cond) (q1 : Int64) (q2 : Int64) (p3 : Int32) (h0 : Heap) (O0 : Ext Z.heap h0) :
    MetFree l x (head1 (Jvm.Cond.code x code maxLocals ret :: ws) room_1) (fun a U => a = #[(.long q1), (.long q2), (.int p3)] ∧ Z.Warmed39 U.vm ∧ U.heap = h0) (fun _ _ _ _ _ => True) (fun _ U o U' => ∃ v L, o = .returned v ∧ (Q_law Z wc clc q1 q2 p3 h0) v U'.heap L ∧ ReturnedEndW U o U' L room_1.cells room_1.slots) := by
  refine own_met (Q := (Q_law Z wc clc q1 q2 p3 h0)) _ _ (plainFor_of_name own_pn_4) ?_
  intro p e s vm0 m below meth c T X0 hS hx hby hml hret hlk hZ hown hnm e0
  replace hown : (s.setVm vm0).vm.findClass "com/example/countersign/countersign/server/ExchangeExpiredByPinLaw" = some m.cls := hown
  replace hnm : meth.name = "law" := hnm
  have hml : c.maxLocals = 12 := hml
  have N0 := Fr.nil Z.heap.size
  have K0 := Keep.refl h0 []
  refine own_go (fun _ k => castTop (ef_law m q1 q2 p3) k) ?_
  show own_Go p e below s _ _ _ (T.setTop (mkF m 0 #[.val (.long q1), .second, .val (.long q2), .second, .val (.int p3), .unset, .unset, .unset, .unset, .unset, .unset, .unset] []))
  refine own_go (fun _ k => XS.iload X0.here hx rfl (hb hby at_0) rfl k) ?_
  show own_Go p e below s _ _ _ (T.setTop (mkF m 2 #[.val (.long q1), .second, .val (.long q2), .second, .val (.int p3), .unset, .unset, .unset, .unset, .unset, .unset, .unset] [(.int p3)]))
  refine own_go (fun _ k => XS.iconst X0.here hx rfl (hb hby at_2) k) ?_
  show own_Go p e below s _ _ _ (T.setTop (mkF m 3 #[.val (.long q1), .second, .val (.long q2), .second, .val (.int p3), .unset, .unset, .unset, .unset, .unset, .unset, .unset] [(.int (1 : Int32)), (.int p3)]))
  refine own_go (fun _ k => XS.iand X0.here hx rfl (hb hby at_3) rfl k) ?_
  show own_Go p e below s _ _ _ (T.setTop (mkF m 4 #[.val (.long q1), .second, .val (.long q2), .second, .val (.int p3), .unset, .unset, .unset, .unset, .unset, .unset, .unset] [(.int (p3 &&& (1 : Int32)))]))
  by_cases hc1 : (p3 &&& (1 : Int32)) = (0 : Int32)
  · refine own_go (fun _ k => XS.ifYes X0.here hx rfl (pc0 := 4) (pc' := 11) rfl (hb hby at_4) rfl ((if0 _ _).trans (teq hc1).1) (by decide) (by decide) k) ?_
    show own_Go p e below s _ _ _ (T.setTop (mkF m 11 #[.val (.long q1), .second, .val (.long q2), .second, .val (.int p3), .unset, .unset, .unset, .unset, .unset, .unset, .unset] []))
    refine own_go (fun _ k => XS.iconst X0.here hx rfl (hb hby at_11) k) ?_
    show own_Go p e below s _ _ _ (T.setTop (mkF m 12 #[.val (.long q1), .second, .val (.long q2), .second, .val (.int p3), .unset, .unset, .unset, .unset, .unset, .unset, .unset] [(.int (0 : Int32))]))
    refine own_go (fun _ k => XS.istore X0.here hx rfl (hb hby at_12) rfl (l' := #[.val (.long q1), .second, .val (.long q2), .second, .val (.int p3), .val (.int (0 : Int32)), .unset, .unset, .unset, .unset, .unset, .unset]) rfl k) ?_
    show own_Go p e below s _ _ _ (T.setTop (mkF m 14 #[.val (.long q1), .second, .val (.long q2), .second, .val (.int p3), .val (.int (0 : Int32)), .unset, .unset, .unset, .unset, .unset, .unset] []))
    refine own_go (fun _ k => XS.iload X0.here hx rfl (hb hby at_14) rfl k) ?_
    show own_Go p e below s _ _ _ (T.setTop (mkF m 16 #[.val (.long q1), .second, .val (.long q2), .second, .val (.int p3), .val (.int (0 : Int32)), .unset, .unset, .unset, .unset, .unset, .unset] [(.int (0 : Int32))]))
    refine own_go (fun _ k => XS.ifYes X0.here hx rfl (pc0 := 16) (pc' := 23) rfl (hb hby at_16) rfl ((if0 _ _).trans (teq (by decide : (0 : Int32) = (0 : Int32))).1) (by decide) (by decide) k) ?_
    show own_Go p e below s _ _ _ (T.setTop (mkF m 23 #[.val (.long q1), .second, .val (.long q2), .second, .val (.int p3), .val (.int (0 : Int32)), .unset, .unset, .unset, .unset, .unset, .unset] []))
    refine own_go (fun _ k => XS.lloadN X0.here hx rfl (hb hby at_23) rfl k) ?_
    show own_Go p e below s _ _ _ (T.setTop (mkF m 24 #[.val (.long q1), .second, .val (.long q2), .second, .val (.int p3), .val (.int (0 : Int32)), .unset, .unset, .unset, .unset, .unset, .unset] [(.long q1)]))
    obtain ⟨v2, T2, L2, X2, hSn, hZn, hownn, hQ2, st2⟩ := own_callS (y := (⟨"java/lang/Long", "valueOf", "(J)Ljava/lang/Long;"⟩ : MethodName)) X0 hS hx hZ hown (hw _ (List.mem_of_getElem? (i := 0) rfl)) (hw _ (List.mem_of_getElem? (i := 1) rfl)) (hw _ (List.mem_of_getElem? (i := 2) rfl)) (hw _ (List.mem_of_getElem? (i := 3) rfl)) (rm_valueOf l Z a0 hw oCa oBx [] q1 h0 O0) 0 1 1 rfl rfl (by decide) (by decide) (by decide) (by show _ ≤ 16; omega) (by show _ ≤ 1152; omega) e0 (g := (mkF m 24 #[.val (.long q1), .second, .val (.long q2), .second, .val (.int p3), .val (.int (0 : Int32)), .unset, .unset, .unset, .unset, .unset, .unset] [(.long q1)])) rfl (by rw [hml]; rfl) [(.long q1)] [] (lenOf own_pd_3 rfl) rfl rfl (by show 2 * 0 + _ ≤ _; exact Nat.le_of_eq rfl) (hb hby at_24)
    replace hS := hSn
    replace hZ := hZn
    replace hown := hownn
    clear hSn hZn hownn
    obtain ⟨w3, rfl, Nc7, Kc6, f4, f5⟩ := hQ2
    refine own_go st2 ?_
    have N8 := Fr.app N0 Nc7
    have O9 := own_oldKeep O0 Kc6 all0
    have K10 : Keep h0 T2.heap [] := K0.trans Kc6 all0
    show own_Go p e below s _ _ _ (T2.setTop (mkF m 27 #[.val (.long q1), .second, .val (.long q2), .second, .val (.int p3), .val (.int (0 : Int32)), .unset, .unset, .unset, .unset, .unset, .unset] [(.ref w3)]))
    refine own_go (fun _ k => XS.astore X2.here hx rfl (hb hby at_27) rfl rfl (l' := #[.val (.long q1), .second, .val (.long q2), .second, .val (.int p3), .val (.int (0 : Int32)), .val (.ref w3), .unset, .unset, .unset, .unset, .unset]) rfl k) ?_
    show own_Go p e below s _ _ _ (T2.setTop (mkF m 29 #[.val (.long q1), .second, .val (.long q2), .second, .val (.int p3), .val (.int (0 : Int32)), .val (.ref w3), .unset, .unset, .unset, .unset, .unset] []))
    obtain ⟨T11, h11, X11, e11, E11, A11, D11, -, st11⟩ := newO X2 hx hZ hown (hw _ (List.mem_of_getElem? (i := 8) rfl)) (hw _ (List.mem_of_getElem? (i := 9) rfl)) (hw _ (List.mem_of_getElem? (i := 10) rfl)) (rfl : T2.heap = T2.heap) (g := (mkF m 29 #[.val (.long q1), .second, .val (.long q2), .second, .val (.int p3), .val (.int (0 : Int32)), .val (.ref w3), .unset, .unset, .unset, .unset, .unset] [])) rfl (hb hby at_29) (by show _ ≤ 16; omega) (by show _ ≤ 1152; omega)
    obtain ⟨b11, g11⟩ : ∃ z, z = T2.heap.size := ⟨_, rfl⟩
    rw [← g11] at A11 D11 st11
    refine own_go st11 ?_
    have ge11 := Nat.le_of_eq g11.symm
    have ne12 : w3 ≠ b11 := Nat.ne_of_lt (Nat.lt_of_lt_of_le f4.lt ge11)
    have big13 : Z.heap.size ≤ b11 := Nat.le_trans O9.1 ge11
    have sz14 : h0.size ≤ b11 := Nat.le_trans K10.1 ge11
    have f15 : Exa Z h11 w3 "java/lang/Long" := f4.ext E11
    have f16 : Fld Z h11 w3 "java/lang/Long" "value" "J" (.long q1) := f5.ext E11
    have O17 := own_oldExt O9 E11
    replace hS := own_since hS E11.1
    have K18 := K10.ext E11
    have f19 : Fld Z h11 b11 "com/example/countersign/countersign/server/Exchange" "artefact" "Ljava/lang/String;" .null := D11 (Or.inr (hw _ (List.mem_of_getElem? (i := 31) rfl))) (ty := (.object "java/lang/String")) (by decide)
    have f20 : Fld Z h11 b11 "com/example/countersign/countersign/server/Exchange" "activatedAt" "Ljava/lang/Long;" .null := D11 (Or.inr (hw _ (List.mem_of_getElem? (i := 33) rfl))) (ty := (.object "java/lang/Long")) (by decide)
    have f21 : Fld Z h11 b11 "com/example/countersign/countersign/server/Exchange" "expiresAt" "Ljava/lang/Long;" .null := D11 (Or.inr (hw _ (List.mem_of_getElem? (i := 35) rfl))) (ty := (.object "java/lang/Long")) (by decide)
    have f22 : Fld Z h11 b11 "com/example/countersign/countersign/server/Exchange" "refreshAt" "Ljava/lang/Long;" .null := D11 (Or.inr (hw _ (List.mem_of_getElem? (i := 37) rfl))) (ty := (.object "java/lang/Long")) (by decide)
    have f23 : Fld Z h11 b11 "com/example/countersign/countersign/server/Exchange" "failure" "Ljava/lang/String;" .null := D11 (Or.inr (hw _ (List.mem_of_getElem? (i := 39) rfl))) (ty := (.object "java/lang/String")) (by decide)
    show own_Go p e below s _ _ _ (T11.setTop (mkF m 32 #[.val (.long q1), .second, .val (.long q2), .second, .val (.int p3), .val (.int (0 : Int32)), .val (.ref w3), .unset, .unset, .unset, .unset, .unset] [(.ref b11)]))
    refine own_go (fun _ k => XS.dup X11.here hx rfl (hb hby at_32) rfl rfl k) ?_
    show own_Go p e below s _ _ _ (T11.setTop (mkF m 33 #[.val (.long q1), .second, .val (.long q2), .second, .val (.int p3), .val (.int (0 : Int32)), .val (.ref w3), .unset, .unset, .unset, .unset, .unset] [(.ref b11), (.ref b11)]))
    obtain ⟨b24, T24, h24, k24, X24, e24, E24, hSn, hkn, hZn, hownn, st24⟩ := ldcS X11 hx hZ hown (hw _ (List.mem_of_getElem? (i := 11) rfl)) (own_wS hw) e11 hS (Nat.le_refl _) (g := (mkF m 33 #[.val (.long q1), .second, .val (.long q2), .second, .val (.int p3), .val (.int (0 : Int32)), .val (.ref w3), .unset, .unset, .unset, .unset, .unset] [(.ref b11), (.ref b11)])) rfl (hb hby at_33) (n := 4) (by decide) (by decide) (by show _ ≤ 16; omega) (by show _ ≤ 1152; omega)
    refine own_go st24 ?_
    replace hS := own_since hSn hkn
    replace hZ := hZn
    replace hown := hownn
    clear hSn hZn hownn
    have f25 : Exa Z h24 w3 "java/lang/Long" := f15.ext E24
    have f26 : Fld Z h24 w3 "java/lang/Long" "value" "J" (.long q1) := f16.ext E24
    have f27 : Exa Z h24 b11 "com/example/countersign/countersign/server/Exchange" := A11.ext E24
    have f28 : Fld Z h24 b11 "com/example/countersign/countersign/server/Exchange" "artefact" "Ljava/lang/String;" .null := f19.ext E24
    have f29 : Fld Z h24 b11 "com/example/countersign/countersign/server/Exchange" "activatedAt" "Ljava/lang/Long;" .null := f20.ext E24
    have f30 : Fld Z h24 b11 "com/example/countersign/countersign/server/Exchange" "expiresAt" "Ljava/lang/Long;" .null := f21.ext E24
    have f31 : Fld Z h24 b11 "com/example/countersign/countersign/server/Exchange" "refreshAt" "Ljava/lang/Long;" .null := f22.ext E24
    have f32 : Fld Z h24 b11 "com/example/countersign/countersign/server/Exchange" "failure" "Ljava/lang/String;" .null := f23.ext E24
    have O33 := own_oldExt O17 E24
    have K34 := K18.ext E24
    show own_Go p e below s _ _ _ (T24.setTop (mkF m 35 #[.val (.long q1), .second, .val (.long q2), .second, .val (.int p3), .val (.int (0 : Int32)), .val (.ref w3), .unset, .unset, .unset, .unset, .unset] [(.ref b24), (.ref b11), (.ref b11)]))
    refine own_go (fun _ k => XS.lconst X24.here hx rfl (hb hby at_35) k) ?_
    show own_Go p e below s _ _ _ (T24.setTop (mkF m 36 #[.val (.long q1), .second, .val (.long q2), .second, .val (.int p3), .val (.int (0 : Int32)), .val (.ref w3), .unset, .unset, .unset, .unset, .unset] [(.long (0 : Int64)), (.ref b24), (.ref b11), (.ref b11)]))
    obtain ⟨v35, T35, L35, X35, hSn, hZn, hownn, hQ35, st35⟩ := own_callS (y := (⟨"java/lang/Long", "valueOf", "(J)Ljava/lang/Long;"⟩ : MethodName)) X24 hS hx hZ hown (hw _ (List.mem_of_getElem? (i := 0) rfl)) (hw _ (List.mem_of_getElem? (i := 1) rfl)) (hw _ (List.mem_of_getElem? (i := 2) rfl)) (hw _ (List.mem_of_getElem? (i := 3) rfl)) (rm_valueOf l Z a0 hw oCa oBx [] (0 : Int64) h24 O33) 3 1 1 rfl rfl (by decide) (by decide) (by decide) (by show _ ≤ 16; omega) (by show _ ≤ 1152; omega) e24 (g := (mkF m 36 #[.val (.long q1), .second, .val (.long q2), .second, .val (.int p3), .val (.int (0 : Int32)), .val (.ref w3), .unset, .unset, .unset, .unset, .unset] [(.long (0 : Int64)), (.ref b24), (.ref b11), (.ref b11)])) rfl (by rw [hml]; rfl) [(.long (0 : Int64))] [(.ref b24), (.ref b11), (.ref b11)] (lenOf own_pd_3 rfl) rfl rfl (by show 2 * 0 + _ ≤ _; exact Nat.le_of_eq rfl) (hb hby at_36)
    replace hS := hSn
    replace hZ := hZn
    replace hown := hownn
    clear hSn hZn hownn
    obtain ⟨w36, rfl, Nc40, Kc39, f37, f38⟩ := hQ35
    refine own_go st35 ?_
    have N41 := Fr.app N8 Nc40
    have f42 : Exa Z T35.heap w3 "java/lang/Long" := f25.keep Kc39
    have f43 : Fld Z T35.heap w3 "java/lang/Long" "value" "J" (.long q1) := f26.keep Kc39 nin0
    have f44 : Exa Z T35.heap b11 "com/example/countersign/countersign/server/Exchange" := f27.keep Kc39
    have f45 : Fld Z T35.heap b11 "com/example/countersign/countersign/server/Exchange" "artefact" "Ljava/lang/String;" .null := f28.keep Kc39 nin0
    have f46 : Fld Z T35.heap b11 "com/example/countersign/countersign/server/Exchange" "activatedAt" "Ljava/lang/Long;" .null := f29.keep Kc39 nin0
    have f47 : Fld Z T35.heap b11 "com/example/countersign/countersign/server/Exchange" "expiresAt" "Ljava/lang/Long;" .null := f30.keep Kc39 nin0
    have f48 : Fld Z T35.heap b11 "com/example/countersign/countersign/server/Exchange" "refreshAt" "Ljava/lang/Long;" .null := f31.keep Kc39 nin0
    have f49 : Fld Z T35.heap b11 "com/example/countersign/countersign/server/Exchange" "failure" "Ljava/lang/String;" .null := f32.keep Kc39 nin0
    have O50 := own_oldKeep O33 Kc39 all0
    have K51 : Keep h0 T35.heap [] := K34.trans Kc39 all0
    show own_Go p e below s _ _ _ (T35.setTop (mkF m 39 #[.val (.long q1), .second, .val (.long q2), .second, .val (.int p3), .val (.int (0 : Int32)), .val (.ref w3), .unset, .unset, .unset, .unset, .unset] [(.ref w36), (.ref b24), (.ref b11), (.ref b11)]))
    refine own_go (fun _ k => XS.aload X35.here hx rfl (hb hby at_39) rfl rfl k) ?_
    show own_Go p e below s _ _ _ (T35.setTop (mkF m 41 #[.val (.long q1), .second, .val (.long q2), .second, .val (.int p3), .val (.int (0 : Int32)), .val (.ref w3), .unset, .unset, .unset, .unset, .unset] [(.ref w3), (.ref w36), (.ref b24), (.ref b11), (.ref b11)]))
    refine own_go (fun _ k => XS.aload X35.here hx rfl (hb hby at_41) rfl rfl k) ?_
    show own_Go p e below s _ _ _ (T35.setTop (mkF m 43 #[.val (.long q1), .second, .val (.long q2), .second, .val (.int p3), .val (.int (0 : Int32)), .val (.ref w3), .unset, .unset, .unset, .unset, .unset] [(.ref w3), (.ref w3), (.ref w36), (.ref b24), (.ref b11), (.ref b11)]))
    refine own_go (fun _ k => XS.aconstNull X35.here hx rfl (hb hby at_43) k) ?_
    show own_Go p e below s _ _ _ (T35.setTop (mkF m 44 #[.val (.long q1), .second, .val (.long q2), .second, .val (.int p3), .val (.int (0 : Int32)), .val (.ref w3), .unset, .unset, .unset, .unset, .unset] [.null, (.ref w3), (.ref w3), (.ref w36), (.ref b24), (.ref b11), (.ref b11)]))
    obtain ⟨v52, T52, L52, X52, hSn, hZn, hownn, hQ52, st52⟩ := own_callI (y := (⟨"com/example/countersign/countersign/server/Exchange", "<init>", "(Ljava/lang/String;Ljava/lang/Long;Ljava/lang/Long;Ljava/lang/Long;Ljava/lang/String;)V"⟩ : MethodName)) X35 hS hx hZ hown (hw _ (List.mem_of_getElem? (i := 19) rfl)) (hw _ (List.mem_of_getElem? (i := 20) rfl)) (hw _ (List.mem_of_getElem? (i := 10) rfl)) (hw _ (List.mem_of_getElem? (i := 21) rfl)) (rm_xinit l Z a0 hw oCa oBx [] b11 (.ref b24) (.ref w36) (.ref w3) (.ref w3) .null T35.heap O50 (rfl : ((.ref b24) : Value).isRef = true) (rfl : ((.ref w36) : Value).isRef = true) (rfl : ((.ref w3) : Value).isRef = true) (rfl : ((.ref w3) : Value).isRef = true) (rfl : (.null : Value).isRef = true) f44 f45 f46 f47 f48 f49 big13) 1 0 0 rfl rfl rfl (by decide) (by decide) (by decide) (by show _ ≤ 16; omega) (by show _ ≤ 1152; omega) (rfl : T35.heap = T35.heap) (g := (mkF m 44 #[.val (.long q1), .second, .val (.long q2), .second, .val (.int p3), .val (.int (0 : Int32)), .val (.ref w3), .unset, .unset, .unset, .unset, .unset] [.null, (.ref w3), (.ref w3), (.ref w36), (.ref b24), (.ref b11), (.ref b11)])) rfl (by rw [hml]; rfl) b11 [(.ref b24), (.ref w36), (.ref w3), (.ref w3), .null] [(.ref b11)] (lenOf own_pd_4 rfl) rfl rfl (by show 2 * 0 + _ ≤ _; exact Nat.le_of_eq rfl) (hb hby at_44)
    replace hS := hSn
    replace hZ := hZn
    replace hown := hownn
    clear hSn hZn hownn
    obtain ⟨rfl, Nc60, Kc59, f53, f54, f55, f56, f57, f58⟩ := hQ52
    refine own_go st52 ?_
    have N61 := Fr.app N41 Nc60
    have f62 : Exa Z T52.heap w3 "java/lang/Long" := f42.keep Kc59
    have f63 : Fld Z T52.heap w3 "java/lang/Long" "value" "J" (.long q1) := f43.keep Kc59 (ninS ne12 nin0)
    have f64 : Exa Z T52.heap b11 "com/example/countersign/countersign/server/Exchange" := f44.keep Kc59
    have f70 : Exa Z T52.heap w36 "java/lang/Long" := f37.keep Kc59
    have f71 : Fld Z T52.heap w36 "java/lang/Long" "value" "J" (.long (0 : Int64)) := f38.keep Kc59 (ninS (ne_exa f37 f44 (by decide)) nin0)
    have O72 := own_oldKeep O50 Kc59 (allS big13 all0)
    have K73 : Keep h0 T52.heap [] := K51.trans Kc59 (allS (Or.inr sz14) all0)
    show own_Go p e below s _ _ _ (T52.setTop (mkF m 47 #[.val (.long q1), .second, .val (.long q2), .second, .val (.int p3), .val (.int (0 : Int32)), .val (.ref w3), .unset, .unset, .unset, .unset, .unset] [(.ref b11)]))
    refine own_go (fun _ k => XS.astore X52.here hx rfl (hb hby at_47) rfl rfl (l' := #[.val (.long q1), .second, .val (.long q2), .second, .val (.int p3), .val (.int (0 : Int32)), .val (.ref w3), .val (.ref b11), .unset, .unset, .unset, .unset]) rfl k) ?_
    show own_Go p e below s _ _ _ (T52.setTop (mkF m 49 #[.val (.long q1), .second, .val (.long q2), .second, .val (.int p3), .val (.int (0 : Int32)), .val (.ref w3), .val (.ref b11), .unset, .unset, .unset, .unset] []))
    refine own_go (fun _ k => XS.aload X52.here hx rfl (hb hby at_49) rfl rfl k) ?_
    show own_Go p e below s _ _ _ (T52.setTop (mkF m 51 #[.val (.long q1), .second, .val (.long q2), .second, .val (.int p3), .val (.int (0 : Int32)), .val (.ref w3), .val (.ref b11), .unset, .unset, .unset, .unset] [(.ref b11)]))
    refine own_go (fun _ k => XS.lloadN X52.here hx rfl (hb hby at_51) rfl k) ?_
    show own_Go p e below s _ _ _ (T52.setTop (mkF m 52 #[.val (.long q1), .second, .val (.long q2), .second, .val (.int p3), .val (.int (0 : Int32)), .val (.ref w3), .val (.ref b11), .unset, .unset, .unset, .unset] [(.long q2), (.ref b11)]))
    obtain ⟨v74, T74, L74, X74, hSn, hZn, hownn, hQ74, st74⟩ := own_callV (y := (⟨"com/example/countersign/countersign/server/Exchange", "expiredBy", "(J)Z"⟩ : MethodName)) (z := (⟨"com/example/countersign/countersign/server/Exchange", "expiredBy", "(J)Z"⟩ : MethodName)) X52 hS hx hZ hown (hw _ (List.mem_of_getElem? (i := 40) rfl)) (hw _ (List.mem_of_getElem? (i := 41) rfl)) (notFace_of_selects (args := #[]) (mvT hZ (hw _ (List.mem_of_getElem? (i := 43) rfl)))) (hw _ (List.mem_of_getElem? (i := 43) rfl)) (hw _ (List.mem_of_getElem? (i := 42) rfl)) (hw _ (List.mem_of_getElem? (i := 10) rfl)) (hw _ (List.mem_of_getElem? (i := 44) rfl)) (rm_expR l Z a0 hw oCa oBx [] b11 q2 w3 q1 T52.heap O72 f56 f62 f63) 0 0 0 rfl rfl (by decide) (by decide) (by decide) (by show _ ≤ 16; omega) (by show _ ≤ 1152; omega) (rfl : T52.heap = T52.heap) f53 (g := (mkF m 52 #[.val (.long q1), .second, .val (.long q2), .second, .val (.int p3), .val (.int (0 : Int32)), .val (.ref w3), .val (.ref b11), .unset, .unset, .unset, .unset] [(.long q2), (.ref b11)])) rfl (by rw [hml]; rfl) [(.long q2)] [] (lenOf own_pd_5 rfl) rfl rfl (by show 2 * 0 + _ ≤ _; exact Nat.le_of_eq rfl) (hb hby at_52)
    replace hS := hSn
    replace hZ := hZn
    replace hown := hownn
    clear hSn hZn hownn
    rcases hQ74 with hQ74 | hQ74
    · obtain ⟨rfl, Nc77, hp75, Kc76⟩ := hQ74
      refine own_go st74 ?_
      have N78 := Fr.app N61 Nc77
      rw [Kc76] at hS
      show own_Go p e below s _ _ _ (T74.setTop (mkF m 55 #[.val (.long q1), .second, .val (.long q2), .second, .val (.int p3), .val (.int (0 : Int32)), .val (.ref w3), .val (.ref b11), .unset, .unset, .unset, .unset] [(.int (0 : Int32))]))
      refine own_go (fun _ k => XS.istore X74.here hx rfl (hb hby at_55) rfl (l' := #[.val (.long q1), .second, .val (.long q2), .second, .val (.int p3), .val (.int (0 : Int32)), .val (.ref w3), .val (.ref b11), .val (.int (0 : Int32)), .unset, .unset, .unset]) rfl k) ?_
      show own_Go p e below s _ _ _ (T74.setTop (mkF m 57 #[.val (.long q1), .second, .val (.long q2), .second, .val (.int p3), .val (.int (0 : Int32)), .val (.ref w3), .val (.ref b11), .val (.int (0 : Int32)), .unset, .unset, .unset] []))
      refine own_go (fun _ k => XS.iload X74.here hx rfl (hb hby at_57) rfl k) ?_
      show own_Go p e below s _ _ _ (T74.setTop (mkF m 59 #[.val (.long q1), .second, .val (.long q2), .second, .val (.int p3), .val (.int (0 : Int32)), .val (.ref w3), .val (.ref b11), .val (.int (0 : Int32)), .unset, .unset, .unset] [(.int (0 : Int32))]))
      refine own_go (fun _ k => XS.ifNo X74.here hx rfl (hb hby at_59) rfl ((if0 _ _).trans (teq (by decide : (0 : Int32) = (0 : Int32))).2) k) ?_
      show own_Go p e below s _ _ _ (T74.setTop (mkF m 62 #[.val (.long q1), .second, .val (.long q2), .second, .val (.int p3), .val (.int (0 : Int32)), .val (.ref w3), .val (.ref b11), .val (.int (0 : Int32)), .unset, .unset, .unset] []))
      refine own_go (fun _ k => XS.lloadN X74.here hx rfl (hb hby at_62) rfl k) ?_
      show own_Go p e below s _ _ _ (T74.setTop (mkF m 63 #[.val (.long q1), .second, .val (.long q2), .second, .val (.int p3), .val (.int (0 : Int32)), .val (.ref w3), .val (.ref b11), .val (.int (0 : Int32)), .unset, .unset, .unset] [(.long q1)]))
      refine own_go (fun _ k => XS.lloadN X74.here hx rfl (hb hby at_63) rfl k) ?_
      show own_Go p e below s _ _ _ (T74.setTop (mkF m 64 #[.val (.long q1), .second, .val (.long q2), .second, .val (.int p3), .val (.int (0 : Int32)), .val (.ref w3), .val (.ref b11), .val (.int (0 : Int32)), .unset, .unset, .unset] [(.long q2), (.long q1)]))
      obtain ⟨v79, T79, L79, X79, hSn, hZn, hownn, hQ79, st79⟩ := own_callS (y := (⟨"java/lang/Math", "max", "(JJ)J"⟩ : MethodName)) X74 hS hx hZ hown (hw _ (List.mem_of_getElem? (i := 52) rfl)) (hw _ (List.mem_of_getElem? (i := 53) rfl)) (hw _ (List.mem_of_getElem? (i := 54) rfl)) (hw _ (List.mem_of_getElem? (i := 55) rfl)) (rm_maxj l Z a0 hw oCa oBx [] q1 q2 T52.heap O72) 0 0 0 rfl rfl (by decide) (by decide) (by decide) (by show _ ≤ 16; omega) (by show _ ≤ 1152; omega) Kc76 (g := (mkF m 64 #[.val (.long q1), .second, .val (.long q2), .second, .val (.int p3), .val (.int (0 : Int32)), .val (.ref w3), .val (.ref b11), .val (.int (0 : Int32)), .unset, .unset, .unset] [(.long q2), (.long q1)])) rfl (by rw [hml]; rfl) [(.long q1), (.long q2)] [] (lenOf own_pd_6 rfl) rfl rfl (by show 2 * 0 + _ ≤ _; exact Nat.le_of_eq rfl) (hb hby at_64)
      replace hS := hSn
      replace hZ := hZn
      replace hown := hownn
      clear hSn hZn hownn
      rcases hQ79 with hQ79 | hQ79
      · obtain ⟨rfl, Nc82, hp80, Kc81⟩ := hQ79
        refine own_go st79 ?_
        have N83 := Fr.app N78 Nc82
        rw [Kc81] at hS
        show own_Go p e below s _ _ _ (T79.setTop (mkF m 67 #[.val (.long q1), .second, .val (.long q2), .second, .val (.int p3), .val (.int (0 : Int32)), .val (.ref w3), .val (.ref b11), .val (.int (0 : Int32)), .unset, .unset, .unset] [(.long q2)]))
        refine own_go (fun _ k => XS.lloadN X79.here hx rfl (hb hby at_67) rfl k) ?_
        show own_Go p e below s _ _ _ (T79.setTop (mkF m 68 #[.val (.long q1), .second, .val (.long q2), .second, .val (.int p3), .val (.int (0 : Int32)), .val (.ref w3), .val (.ref b11), .val (.int (0 : Int32)), .unset, .unset, .unset] [(.long q2), (.long q2)]))
        refine own_go (fun _ k => XS.lcmp X79.here hx rfl (hb hby at_68) rfl k) ?_
        show own_Go p e below s _ _ _ (T79.setTop (mkF m 69 #[.val (.long q1), .second, .val (.long q2), .second, .val (.int p3), .val (.int (0 : Int32)), .val (.ref w3), .val (.ref b11), .val (.int (0 : Int32)), .unset, .unset, .unset] [(.int (lcmpW q2 q2))]))
        refine own_go (fun _ k => XS.ifNo X79.here hx rfl (hb hby at_69) rfl ((if0 _ _).trans (teq ((lw_eq _ _).mpr (rfl : q2 = q2))).2) k) ?_
        show own_Go p e below s _ _ _ (T79.setTop (mkF m 72 #[.val (.long q1), .second, .val (.long q2), .second, .val (.int p3), .val (.int (0 : Int32)), .val (.ref w3), .val (.ref b11), .val (.int (0 : Int32)), .unset, .unset, .unset] []))
        refine own_go (fun _ k => XS.iconst X79.here hx rfl (hb hby at_72) k) ?_
        show own_Go p e below s _ _ _ (T79.setTop (mkF m 73 #[.val (.long q1), .second, .val (.long q2), .second, .val (.int p3), .val (.int (0 : Int32)), .val (.ref w3), .val (.ref b11), .val (.int (0 : Int32)), .unset, .unset, .unset] [(.int (1 : Int32))]))
        refine own_go (fun _ k => XS.goto X79.here hx rfl (pc0 := 73) (pc' := 77) rfl (hb hby at_73) (by decide) (by decide) k) ?_
        show own_Go p e below s _ _ _ (T79.setTop (mkF m 77 #[.val (.long q1), .second, .val (.long q2), .second, .val (.int p3), .val (.int (0 : Int32)), .val (.ref w3), .val (.ref b11), .val (.int (0 : Int32)), .unset, .unset, .unset] [(.int (1 : Int32))]))
        refine own_go (fun _ k => XS.istore X79.here hx rfl (hb hby at_77) rfl (l' := #[.val (.long q1), .second, .val (.long q2), .second, .val (.int p3), .val (.int (0 : Int32)), .val (.ref w3), .val (.ref b11), .val (.int (0 : Int32)), .val (.int (1 : Int32)), .unset, .unset]) rfl k) ?_
        show own_Go p e below s _ _ _ (T79.setTop (mkF m 79 #[.val (.long q1), .second, .val (.long q2), .second, .val (.int p3), .val (.int (0 : Int32)), .val (.ref w3), .val (.ref b11), .val (.int (0 : Int32)), .val (.int (1 : Int32)), .unset, .unset] []))
        refine own_go (fun _ k => XS.iload X79.here hx rfl (hb hby at_79) rfl k) ?_
        show own_Go p e below s _ _ _ (T79.setTop (mkF m 81 #[.val (.long q1), .second, .val (.long q2), .second, .val (.int p3), .val (.int (0 : Int32)), .val (.ref w3), .val (.ref b11), .val (.int (0 : Int32)), .val (.int (1 : Int32)), .unset, .unset] [(.int (0 : Int32))]))
        refine own_go (fun _ k => XS.iload X79.here hx rfl (hb hby at_81) rfl k) ?_
        show own_Go p e below s _ _ _ (T79.setTop (mkF m 83 #[.val (.long q1), .second, .val (.long q2), .second, .val (.int p3), .val (.int (0 : Int32)), .val (.ref w3), .val (.ref b11), .val (.int (0 : Int32)), .val (.int (1 : Int32)), .unset, .unset] [(.int (1 : Int32)), (.int (0 : Int32))]))
        refine own_go (fun _ k => XS.icmpNo X79.here hx rfl (hb hby at_83) rfl (feq (by decide : ¬ ((0 : Int32) = (1 : Int32)))).1 k) ?_
        show own_Go p e below s _ _ _ (T79.setTop (mkF m 86 #[.val (.long q1), .second, .val (.long q2), .second, .val (.int p3), .val (.int (0 : Int32)), .val (.ref w3), .val (.ref b11), .val (.int (0 : Int32)), .val (.int (1 : Int32)), .unset, .unset] []))
        refine own_go (fun _ k => XS.iconst X79.here hx rfl (hb hby at_86) k) ?_
        show own_Go p e below s _ _ _ (T79.setTop (mkF m 87 #[.val (.long q1), .second, .val (.long q2), .second, .val (.int p3), .val (.int (0 : Int32)), .val (.ref w3), .val (.ref b11), .val (.int (0 : Int32)), .val (.int (1 : Int32)), .unset, .unset] [(.int (0 : Int32))]))
        refine own_retN X79 hS hx hlk Kc81 (t := .boolean) hret (by simp) (hb hby at_87) (by show _ ≤ 16; omega) (by show _ ≤ 1152; omega) ?_
        exfalso
        have ar0 := rng64 q2
        have ar1 := rng64 q1
        have ar2 := Int64.lt_iff_toInt_lt.mp hp75
        have ar3 := rng64 q1
        have ar4 := rng64 q2
        have ar5 := Int64.lt_iff_toInt_lt.mp hp80
        omega
      · obtain ⟨rfl, Nc86, hp84, Kc85⟩ := hQ79
        refine own_go st79 ?_
        have N87 := Fr.app N78 Nc86
        rw [Kc85] at hS
        show own_Go p e below s _ _ _ (T79.setTop (mkF m 67 #[.val (.long q1), .second, .val (.long q2), .second, .val (.int p3), .val (.int (0 : Int32)), .val (.ref w3), .val (.ref b11), .val (.int (0 : Int32)), .unset, .unset, .unset] [(.long q1)]))
        refine own_go (fun _ k => XS.lloadN X79.here hx rfl (hb hby at_67) rfl k) ?_
        show own_Go p e below s _ _ _ (T79.setTop (mkF m 68 #[.val (.long q1), .second, .val (.long q2), .second, .val (.int p3), .val (.int (0 : Int32)), .val (.ref w3), .val (.ref b11), .val (.int (0 : Int32)), .unset, .unset, .unset] [(.long q2), (.long q1)]))
        refine own_go (fun _ k => XS.lcmp X79.here hx rfl (hb hby at_68) rfl k) ?_
        show own_Go p e below s _ _ _ (T79.setTop (mkF m 69 #[.val (.long q1), .second, .val (.long q2), .second, .val (.int p3), .val (.int (0 : Int32)), .val (.ref w3), .val (.ref b11), .val (.int (0 : Int32)), .unset, .unset, .unset] [(.int (lcmpW q1 q2))]))
        by_cases hc88 : q1 = q2
        · refine own_go (fun _ k => XS.ifNo X79.here hx rfl (hb hby at_69) rfl ((if0 _ _).trans (teq ((lw_eq _ _).mpr hc88)).2) k) ?_
          show own_Go p e below s _ _ _ (T79.setTop (mkF m 72 #[.val (.long q1), .second, .val (.long q2), .second, .val (.int p3), .val (.int (0 : Int32)), .val (.ref w3), .val (.ref b11), .val (.int (0 : Int32)), .unset, .unset, .unset] []))
          refine own_go (fun _ k => XS.iconst X79.here hx rfl (hb hby at_72) k) ?_
          show own_Go p e below s _ _ _ (T79.setTop (mkF m 73 #[.val (.long q1), .second, .val (.long q2), .second, .val (.int p3), .val (.int (0 : Int32)), .val (.ref w3), .val (.ref b11), .val (.int (0 : Int32)), .unset, .unset, .unset] [(.int (1 : Int32))]))
          refine own_go (fun _ k => XS.goto X79.here hx rfl (pc0 := 73) (pc' := 77) rfl (hb hby at_73) (by decide) (by decide) k) ?_
          show own_Go p e below s _ _ _ (T79.setTop (mkF m 77 #[.val (.long q1), .second, .val (.long q2), .second, .val (.int p3), .val (.int (0 : Int32)), .val (.ref w3), .val (.ref b11), .val (.int (0 : Int32)), .unset, .unset, .unset] [(.int (1 : Int32))]))
          refine own_go (fun _ k => XS.istore X79.here hx rfl (hb hby at_77) rfl (l' := #[.val (.long q1), .second, .val (.long q2), .second, .val (.int p3), .val (.int (0 : Int32)), .val (.ref w3), .val (.ref b11), .val (.int (0 : Int32)), .val (.int (1 : Int32)), .unset, .unset]) rfl k) ?_
          show own_Go p e below s _ _ _ (T79.setTop (mkF m 79 #[.val (.long q1), .second, .val (.long q2), .second, .val (.int p3), .val (.int (0 : Int32)), .val (.ref w3), .val (.ref b11), .val (.int (0 : Int32)), .val (.int (1 : Int32)), .unset, .unset] []))
          refine own_go (fun _ k => XS.iload X79.here hx rfl (hb hby at_79) rfl k) ?_
          show own_Go p e below s _ _ _ (T79.setTop (mkF m 81 #[.val (.long q1), .second, .val (.long q2), .second, .val (.int p3), .val (.int (0 : Int32)), .val (.ref w3), .val (.ref b11), .val (.int (0 : Int32)), .val (.int (1 : Int32)), .unset, .unset] [(.int (0 : Int32))]))
          refine own_go (fun _ k => XS.iload X79.here hx rfl (hb hby at_81) rfl k) ?_
          show own_Go p e below s _ _ _ (T79.setTop (mkF m 83 #[.val (.long q1), .second, .val (.long q2), .second, .val (.int p3), .val (.int (0 : Int32)), .val (.ref w3), .val (.ref b11), .val (.int (0 : Int32)), .val (.int (1 : Int32)), .unset, .unset] [(.int (1 : Int32)), (.int (0 : Int32))]))
          refine own_go (fun _ k => XS.icmpNo X79.here hx rfl (hb hby at_83) rfl (feq (by decide : ¬ ((0 : Int32) = (1 : Int32)))).1 k) ?_
          show own_Go p e below s _ _ _ (T79.setTop (mkF m 86 #[.val (.long q1), .second, .val (.long q2), .second, .val (.int p3), .val (.int (0 : Int32)), .val (.ref w3), .val (.ref b11), .val (.int (0 : Int32)), .val (.int (1 : Int32)), .unset, .unset] []))
          refine own_go (fun _ k => XS.iconst X79.here hx rfl (hb hby at_86) k) ?_
          show own_Go p e below s _ _ _ (T79.setTop (mkF m 87 #[.val (.long q1), .second, .val (.long q2), .second, .val (.int p3), .val (.int (0 : Int32)), .val (.ref w3), .val (.ref b11), .val (.int (0 : Int32)), .val (.int (1 : Int32)), .unset, .unset] [(.int (0 : Int32))]))
          refine own_retN X79 hS hx hlk Kc85 (t := .boolean) hret (by simp) (hb hby at_87) (by show _ ≤ 16; omega) (by show _ ≤ 1152; omega) ?_
          exfalso
          have ar0 := rng64 q2
          have ar1 := rng64 q1
          have ar2 := Int64.lt_iff_toInt_lt.mp hp75
          have ar3 := rng64 q1
          have ar4 := rng64 q2
          have ar5 := mt Int64.lt_iff_toInt_lt.mpr hp84
          have ar6 := rng64 q1
          have ar7 := rng64 q2
          have ar8 := congrArg Int64.toInt hc88
          omega
        · refine own_go (fun _ k => XS.ifYes X79.here hx rfl (pc0 := 69) (pc' := 76) rfl (hb hby at_69) rfl ((if0 _ _).trans (feq (fun q => hc88 ((lw_eq _ _).mp q))).2) (by decide) (by decide) k) ?_
          show own_Go p e below s _ _ _ (T79.setTop (mkF m 76 #[.val (.long q1), .second, .val (.long q2), .second, .val (.int p3), .val (.int (0 : Int32)), .val (.ref w3), .val (.ref b11), .val (.int (0 : Int32)), .unset, .unset, .unset] []))
          refine own_go (fun _ k => XS.iconst X79.here hx rfl (hb hby at_76) k) ?_
          show own_Go p e below s _ _ _ (T79.setTop (mkF m 77 #[.val (.long q1), .second, .val (.long q2), .second, .val (.int p3), .val (.int (0 : Int32)), .val (.ref w3), .val (.ref b11), .val (.int (0 : Int32)), .unset, .unset, .unset] [(.int (0 : Int32))]))
          refine own_go (fun _ k => XS.istore X79.here hx rfl (hb hby at_77) rfl (l' := #[.val (.long q1), .second, .val (.long q2), .second, .val (.int p3), .val (.int (0 : Int32)), .val (.ref w3), .val (.ref b11), .val (.int (0 : Int32)), .val (.int (0 : Int32)), .unset, .unset]) rfl k) ?_
          show own_Go p e below s _ _ _ (T79.setTop (mkF m 79 #[.val (.long q1), .second, .val (.long q2), .second, .val (.int p3), .val (.int (0 : Int32)), .val (.ref w3), .val (.ref b11), .val (.int (0 : Int32)), .val (.int (0 : Int32)), .unset, .unset] []))
          refine own_go (fun _ k => XS.iload X79.here hx rfl (hb hby at_79) rfl k) ?_
          show own_Go p e below s _ _ _ (T79.setTop (mkF m 81 #[.val (.long q1), .second, .val (.long q2), .second, .val (.int p3), .val (.int (0 : Int32)), .val (.ref w3), .val (.ref b11), .val (.int (0 : Int32)), .val (.int (0 : Int32)), .unset, .unset] [(.int (0 : Int32))]))
          refine own_go (fun _ k => XS.iload X79.here hx rfl (hb hby at_81) rfl k) ?_
          show own_Go p e below s _ _ _ (T79.setTop (mkF m 83 #[.val (.long q1), .second, .val (.long q2), .second, .val (.int p3), .val (.int (0 : Int32)), .val (.ref w3), .val (.ref b11), .val (.int (0 : Int32)), .val (.int (0 : Int32)), .unset, .unset] [(.int (0 : Int32)), (.int (0 : Int32))]))
          refine own_go (fun _ k => XS.icmpYes X79.here hx rfl (pc0 := 83) (pc' := 88) rfl (hb hby at_83) rfl (teq (by decide : (0 : Int32) = (0 : Int32))).1 (by decide) (by decide) k) ?_
          show own_Go p e below s _ _ _ (T79.setTop (mkF m 88 #[.val (.long q1), .second, .val (.long q2), .second, .val (.int p3), .val (.int (0 : Int32)), .val (.ref w3), .val (.ref b11), .val (.int (0 : Int32)), .val (.int (0 : Int32)), .unset, .unset] []))
          refine own_go (fun _ k => XS.aload X79.here hx rfl (hb hby at_88) rfl rfl k) ?_
          show own_Go p e below s _ _ _ (T79.setTop (mkF m 90 #[.val (.long q1), .second, .val (.long q2), .second, .val (.int p3), .val (.int (0 : Int32)), .val (.ref w3), .val (.ref b11), .val (.int (0 : Int32)), .val (.int (0 : Int32)), .unset, .unset] [(.ref b11)]))
          refine own_go (fun _ k => XS.lloadN X79.here hx rfl (hb hby at_90) rfl k) ?_
          show own_Go p e below s _ _ _ (T79.setTop (mkF m 91 #[.val (.long q1), .second, .val (.long q2), .second, .val (.int p3), .val (.int (0 : Int32)), .val (.ref w3), .val (.ref b11), .val (.int (0 : Int32)), .val (.int (0 : Int32)), .unset, .unset] [(.long q1), (.ref b11)]))
          obtain ⟨v89, T89, L89, X89, hSn, hZn, hownn, hQ89, st89⟩ := own_callV (y := (⟨"com/example/countersign/countersign/server/Exchange", "expiredBy", "(J)Z"⟩ : MethodName)) (z := (⟨"com/example/countersign/countersign/server/Exchange", "expiredBy", "(J)Z"⟩ : MethodName)) X79 hS hx hZ hown (hw _ (List.mem_of_getElem? (i := 40) rfl)) (hw _ (List.mem_of_getElem? (i := 41) rfl)) (notFace_of_selects (args := #[]) (mvT hZ (hw _ (List.mem_of_getElem? (i := 43) rfl)))) (hw _ (List.mem_of_getElem? (i := 43) rfl)) (hw _ (List.mem_of_getElem? (i := 42) rfl)) (hw _ (List.mem_of_getElem? (i := 10) rfl)) (hw _ (List.mem_of_getElem? (i := 44) rfl)) (rm_expR l Z a0 hw oCa oBx [] b11 q1 w3 q1 T52.heap O72 f56 f62 f63) 0 0 0 rfl rfl (by decide) (by decide) (by decide) (by show _ ≤ 16; omega) (by show _ ≤ 1152; omega) Kc85 f53 (g := (mkF m 91 #[.val (.long q1), .second, .val (.long q2), .second, .val (.int p3), .val (.int (0 : Int32)), .val (.ref w3), .val (.ref b11), .val (.int (0 : Int32)), .val (.int (0 : Int32)), .unset, .unset] [(.long q1), (.ref b11)])) rfl (by rw [hml]; rfl) [(.long q1)] [] (lenOf own_pd_5 rfl) rfl rfl (by show 2 * 0 + _ ≤ _; exact Nat.le_of_eq rfl) (hb hby at_91)
          replace hS := hSn
          replace hZ := hZn
          replace hown := hownn
          clear hSn hZn hownn
          rcases hQ89 with hQ89 | hQ89
          · obtain ⟨rfl, Nc92, hp90, Kc91⟩ := hQ89
            refine own_go st89 ?_
            have N93 := Fr.app N87 Nc92
            rw [Kc91] at hS
            show own_Go p e below s _ _ _ (T89.setTop (mkF m 94 #[.val (.long q1), .second, .val (.long q2), .second, .val (.int p3), .val (.int (0 : Int32)), .val (.ref w3), .val (.ref b11), .val (.int (0 : Int32)), .val (.int (0 : Int32)), .unset, .unset] [(.int (0 : Int32))]))
            refine own_go (fun _ k => XS.istore X89.here hx rfl (hb hby at_94) rfl (l' := #[.val (.long q1), .second, .val (.long q2), .second, .val (.int p3), .val (.int (0 : Int32)), .val (.ref w3), .val (.ref b11), .val (.int (0 : Int32)), .val (.int (0 : Int32)), .val (.int (0 : Int32)), .unset]) rfl k) ?_
            show own_Go p e below s _ _ _ (T89.setTop (mkF m 96 #[.val (.long q1), .second, .val (.long q2), .second, .val (.int p3), .val (.int (0 : Int32)), .val (.ref w3), .val (.ref b11), .val (.int (0 : Int32)), .val (.int (0 : Int32)), .val (.int (0 : Int32)), .unset] []))
            refine own_go (fun _ k => XS.iload X89.here hx rfl (hb hby at_96) rfl k) ?_
            show own_Go p e below s _ _ _ (T89.setTop (mkF m 98 #[.val (.long q1), .second, .val (.long q2), .second, .val (.int p3), .val (.int (0 : Int32)), .val (.ref w3), .val (.ref b11), .val (.int (0 : Int32)), .val (.int (0 : Int32)), .val (.int (0 : Int32)), .unset] [(.int (0 : Int32))]))
            refine own_go (fun _ k => XS.iload X89.here hx rfl (hb hby at_98) rfl k) ?_
            show own_Go p e below s _ _ _ (T89.setTop (mkF m 100 #[.val (.long q1), .second, .val (.long q2), .second, .val (.int p3), .val (.int (0 : Int32)), .val (.ref w3), .val (.ref b11), .val (.int (0 : Int32)), .val (.int (0 : Int32)), .val (.int (0 : Int32)), .unset] [(.int (0 : Int32)), (.int (0 : Int32))]))
            refine own_go (fun _ k => XS.ifNo X89.here hx rfl (hb hby at_100) rfl ((if0 _ _).trans (teq (by decide : (0 : Int32) = (0 : Int32))).2) k) ?_
            show own_Go p e below s _ _ _ (T89.setTop (mkF m 103 #[.val (.long q1), .second, .val (.long q2), .second, .val (.int p3), .val (.int (0 : Int32)), .val (.ref w3), .val (.ref b11), .val (.int (0 : Int32)), .val (.int (0 : Int32)), .val (.int (0 : Int32)), .unset] [(.int (0 : Int32))]))
            refine own_go (fun _ k => XS.iconst X89.here hx rfl (hb hby at_103) k) ?_
            show own_Go p e below s _ _ _ (T89.setTop (mkF m 104 #[.val (.long q1), .second, .val (.long q2), .second, .val (.int p3), .val (.int (0 : Int32)), .val (.ref w3), .val (.ref b11), .val (.int (0 : Int32)), .val (.int (0 : Int32)), .val (.int (0 : Int32)), .unset] [(.int (1 : Int32)), (.int (0 : Int32))]))
            refine own_go (fun _ k => XS.goto X89.here hx rfl (pc0 := 104) (pc' := 108) rfl (hb hby at_104) (by decide) (by decide) k) ?_
            show own_Go p e below s _ _ _ (T89.setTop (mkF m 108 #[.val (.long q1), .second, .val (.long q2), .second, .val (.int p3), .val (.int (0 : Int32)), .val (.ref w3), .val (.ref b11), .val (.int (0 : Int32)), .val (.int (0 : Int32)), .val (.int (0 : Int32)), .unset] [(.int (1 : Int32)), (.int (0 : Int32))]))
            refine own_go (fun _ k => XS.icmpNo X89.here hx rfl (hb hby at_108) rfl (feq (by decide : ¬ ((0 : Int32) = (1 : Int32)))).1 k) ?_
            show own_Go p e below s _ _ _ (T89.setTop (mkF m 111 #[.val (.long q1), .second, .val (.long q2), .second, .val (.int p3), .val (.int (0 : Int32)), .val (.ref w3), .val (.ref b11), .val (.int (0 : Int32)), .val (.int (0 : Int32)), .val (.int (0 : Int32)), .unset] []))
            refine own_go (fun _ k => XS.iconst X89.here hx rfl (hb hby at_111) k) ?_
            show own_Go p e below s _ _ _ (T89.setTop (mkF m 112 #[.val (.long q1), .second, .val (.long q2), .second, .val (.int p3), .val (.int (0 : Int32)), .val (.ref w3), .val (.ref b11), .val (.int (0 : Int32)), .val (.int (0 : Int32)), .val (.int (0 : Int32)), .unset] [(.int (0 : Int32))]))
            refine own_retN X89 hS hx hlk Kc91 (t := .boolean) hret (by simp) (hb hby at_112) (by show _ ≤ 16; omega) (by show _ ≤ 1152; omega) ?_
            exfalso
            have ar0 := rng64 q2
            have ar1 := rng64 q1
            have ar2 := Int64.lt_iff_toInt_lt.mp hp75
            have ar3 := rng64 q1
            have ar4 := rng64 q2
            have ar5 := mt Int64.lt_iff_toInt_lt.mpr hp84
            have ar6 := rng64 q1
            have ar7 := rng64 q2
            have ar8 := mt Int64.toInt_inj.mp hc88
            have ar9 := rng64 q1
            have ar10 := rng64 q1
            have ar11 := Int64.lt_iff_toInt_lt.mp hp90
            omega
          · obtain ⟨rfl, Nc96, hp94, Kc95⟩ := hQ89
            refine own_go st89 ?_
            have N97 := Fr.app N87 Nc96
            rw [Kc95] at hS
            show own_Go p e below s _ _ _ (T89.setTop (mkF m 94 #[.val (.long q1), .second, .val (.long q2), .second, .val (.int p3), .val (.int (0 : Int32)), .val (.ref w3), .val (.ref b11), .val (.int (0 : Int32)), .val (.int (0 : Int32)), .unset, .unset] [(.int (1 : Int32))]))
            refine own_go (fun _ k => XS.istore X89.here hx rfl (hb hby at_94) rfl (l' := #[.val (.long q1), .second, .val (.long q2), .second, .val (.int p3), .val (.int (0 : Int32)), .val (.ref w3), .val (.ref b11), .val (.int (0 : Int32)), .val (.int (0 : Int32)), .val (.int (1 : Int32)), .unset]) rfl k) ?_
            show own_Go p e below s _ _ _ (T89.setTop (mkF m 96 #[.val (.long q1), .second, .val (.long q2), .second, .val (.int p3), .val (.int (0 : Int32)), .val (.ref w3), .val (.ref b11), .val (.int (0 : Int32)), .val (.int (0 : Int32)), .val (.int (1 : Int32)), .unset] []))
            refine own_go (fun _ k => XS.iload X89.here hx rfl (hb hby at_96) rfl k) ?_
            show own_Go p e below s _ _ _ (T89.setTop (mkF m 98 #[.val (.long q1), .second, .val (.long q2), .second, .val (.int p3), .val (.int (0 : Int32)), .val (.ref w3), .val (.ref b11), .val (.int (0 : Int32)), .val (.int (0 : Int32)), .val (.int (1 : Int32)), .unset] [(.int (1 : Int32))]))
            refine own_go (fun _ k => XS.iload X89.here hx rfl (hb hby at_98) rfl k) ?_
            show own_Go p e below s _ _ _ (T89.setTop (mkF m 100 #[.val (.long q1), .second, .val (.long q2), .second, .val (.int p3), .val (.int (0 : Int32)), .val (.ref w3), .val (.ref b11), .val (.int (0 : Int32)), .val (.int (0 : Int32)), .val (.int (1 : Int32)), .unset] [(.int (0 : Int32)), (.int (1 : Int32))]))
            refine own_go (fun _ k => XS.ifNo X89.here hx rfl (hb hby at_100) rfl ((if0 _ _).trans (teq (by decide : (0 : Int32) = (0 : Int32))).2) k) ?_
            show own_Go p e below s _ _ _ (T89.setTop (mkF m 103 #[.val (.long q1), .second, .val (.long q2), .second, .val (.int p3), .val (.int (0 : Int32)), .val (.ref w3), .val (.ref b11), .val (.int (0 : Int32)), .val (.int (0 : Int32)), .val (.int (1 : Int32)), .unset] [(.int (1 : Int32))]))
            refine own_go (fun _ k => XS.iconst X89.here hx rfl (hb hby at_103) k) ?_
            show own_Go p e below s _ _ _ (T89.setTop (mkF m 104 #[.val (.long q1), .second, .val (.long q2), .second, .val (.int p3), .val (.int (0 : Int32)), .val (.ref w3), .val (.ref b11), .val (.int (0 : Int32)), .val (.int (0 : Int32)), .val (.int (1 : Int32)), .unset] [(.int (1 : Int32)), (.int (1 : Int32))]))
            refine own_go (fun _ k => XS.goto X89.here hx rfl (pc0 := 104) (pc' := 108) rfl (hb hby at_104) (by decide) (by decide) k) ?_
            show own_Go p e below s _ _ _ (T89.setTop (mkF m 108 #[.val (.long q1), .second, .val (.long q2), .second, .val (.int p3), .val (.int (0 : Int32)), .val (.ref w3), .val (.ref b11), .val (.int (0 : Int32)), .val (.int (0 : Int32)), .val (.int (1 : Int32)), .unset] [(.int (1 : Int32)), (.int (1 : Int32))]))
            refine own_go (fun _ k => XS.icmpYes X89.here hx rfl (pc0 := 108) (pc' := 113) rfl (hb hby at_108) rfl (teq (by decide : (1 : Int32) = (1 : Int32))).1 (by decide) (by decide) k) ?_
            show own_Go p e below s _ _ _ (T89.setTop (mkF m 113 #[.val (.long q1), .second, .val (.long q2), .second, .val (.int p3), .val (.int (0 : Int32)), .val (.ref w3), .val (.ref b11), .val (.int (0 : Int32)), .val (.int (0 : Int32)), .val (.int (1 : Int32)), .unset] []))
            refine own_go (fun _ k => XS.lloadN X89.here hx rfl (hb hby at_113) rfl k) ?_
            show own_Go p e below s _ _ _ (T89.setTop (mkF m 114 #[.val (.long q1), .second, .val (.long q2), .second, .val (.int p3), .val (.int (0 : Int32)), .val (.ref w3), .val (.ref b11), .val (.int (0 : Int32)), .val (.int (0 : Int32)), .val (.int (1 : Int32)), .unset] [(.long q1)]))
            refine own_go (X89.ldc2Long hx hown (mvT hZ (hw _ (List.mem_of_getElem? (i := 56) rfl))) (g := (mkF m 114 #[.val (.long q1), .second, .val (.long q2), .second, .val (.int p3), .val (.int (0 : Int32)), .val (.ref w3), .val (.ref b11), .val (.int (0 : Int32)), .val (.int (0 : Int32)), .val (.int (1 : Int32)), .unset] [(.long q1)])) rfl (hb hby at_114)) ?_
            show own_Go p e below s _ _ _ (T89.setTop (mkF m 117 #[.val (.long q1), .second, .val (.long q2), .second, .val (.int p3), .val (.int (0 : Int32)), .val (.ref w3), .val (.ref b11), .val (.int (0 : Int32)), .val (.int (0 : Int32)), .val (.int (1 : Int32)), .unset] [(.long (-9223372036854775808 : Int64)), (.long q1)]))
            refine own_go (fun _ k => XS.lcmp X89.here hx rfl (hb hby at_117) rfl k) ?_
            show own_Go p e below s _ _ _ (T89.setTop (mkF m 118 #[.val (.long q1), .second, .val (.long q2), .second, .val (.int p3), .val (.int (0 : Int32)), .val (.ref w3), .val (.ref b11), .val (.int (0 : Int32)), .val (.int (0 : Int32)), .val (.int (1 : Int32)), .unset] [(.int (lcmpW q1 (-9223372036854775808 : Int64)))]))
            by_cases hc98 : q1 = (-9223372036854775808 : Int64)
            · refine own_go (fun _ k => XS.ifYes X89.here hx rfl (pc0 := 118) (pc' := 138) rfl (hb hby at_118) rfl ((if0 _ _).trans (teq ((lw_eq _ _).mpr hc98)).1) (by decide) (by decide) k) ?_
              show own_Go p e below s _ _ _ (T89.setTop (mkF m 138 #[.val (.long q1), .second, .val (.long q2), .second, .val (.int p3), .val (.int (0 : Int32)), .val (.ref w3), .val (.ref b11), .val (.int (0 : Int32)), .val (.int (0 : Int32)), .val (.int (1 : Int32)), .unset] []))
              refine own_go (fun _ k => XS.iconst X89.here hx rfl (hb hby at_138) k) ?_
              show own_Go p e below s _ _ _ (T89.setTop (mkF m 139 #[.val (.long q1), .second, .val (.long q2), .second, .val (.int p3), .val (.int (0 : Int32)), .val (.ref w3), .val (.ref b11), .val (.int (0 : Int32)), .val (.int (0 : Int32)), .val (.int (1 : Int32)), .unset] [(.int (1 : Int32))]))
              refine own_retN X89 hS hx hlk Kc95 (t := .boolean) hret (by simp) (hb hby at_139) (by show _ ≤ 16; omega) (by show _ ≤ 1152; omega) ?_
              exact ⟨rfl, N97, K73⟩
            · refine own_go (fun _ k => XS.ifNo X89.here hx rfl (hb hby at_118) rfl ((if0 _ _).trans (feq (fun q => hc98 ((lw_eq _ _).mp q))).1) k) ?_
              show own_Go p e below s _ _ _ (T89.setTop (mkF m 121 #[.val (.long q1), .second, .val (.long q2), .second, .val (.int p3), .val (.int (0 : Int32)), .val (.ref w3), .val (.ref b11), .val (.int (0 : Int32)), .val (.int (0 : Int32)), .val (.int (1 : Int32)), .unset] []))
              refine own_go (fun _ k => XS.aload X89.here hx rfl (hb hby at_121) rfl rfl k) ?_
              show own_Go p e below s _ _ _ (T89.setTop (mkF m 123 #[.val (.long q1), .second, .val (.long q2), .second, .val (.int p3), .val (.int (0 : Int32)), .val (.ref w3), .val (.ref b11), .val (.int (0 : Int32)), .val (.int (0 : Int32)), .val (.int (1 : Int32)), .unset] [(.ref b11)]))
              refine own_go (fun _ k => XS.lloadN X89.here hx rfl (hb hby at_123) rfl k) ?_
              show own_Go p e below s _ _ _ (T89.setTop (mkF m 124 #[.val (.long q1), .second, .val (.long q2), .second, .val (.int p3), .val (.int (0 : Int32)), .val (.ref w3), .val (.ref b11), .val (.int (0 : Int32)), .val (.int (0 : Int32)), .val (.int (1 : Int32)), .unset] [(.long q1), (.ref b11)]))
              refine own_go (fun _ k => XS.lconst X89.here hx rfl (hb hby at_124) k) ?_
              show own_Go p e below s _ _ _ (T89.setTop (mkF m 125 #[.val (.long q1), .second, .val (.long q2), .second, .val (.int p3), .val (.int (0 : Int32)), .val (.ref w3), .val (.ref b11), .val (.int (0 : Int32)), .val (.int (0 : Int32)), .val (.int (1 : Int32)), .unset] [(.long (1 : Int64)), (.long q1), (.ref b11)]))
              refine own_go (fun _ k => XS.lsub X89.here hx rfl (hb hby at_125) rfl k) ?_
              show own_Go p e below s _ _ _ (T89.setTop (mkF m 126 #[.val (.long q1), .second, .val (.long q2), .second, .val (.int p3), .val (.int (0 : Int32)), .val (.ref w3), .val (.ref b11), .val (.int (0 : Int32)), .val (.int (0 : Int32)), .val (.int (1 : Int32)), .unset] [(.long (q1 - (1 : Int64))), (.ref b11)]))
              obtain ⟨v99, T99, L99, X99, hSn, hZn, hownn, hQ99, st99⟩ := own_callV (y := (⟨"com/example/countersign/countersign/server/Exchange", "expiredBy", "(J)Z"⟩ : MethodName)) (z := (⟨"com/example/countersign/countersign/server/Exchange", "expiredBy", "(J)Z"⟩ : MethodName)) X89 hS hx hZ hown (hw _ (List.mem_of_getElem? (i := 40) rfl)) (hw _ (List.mem_of_getElem? (i := 41) rfl)) (notFace_of_selects (args := #[]) (mvT hZ (hw _ (List.mem_of_getElem? (i := 43) rfl)))) (hw _ (List.mem_of_getElem? (i := 43) rfl)) (hw _ (List.mem_of_getElem? (i := 42) rfl)) (hw _ (List.mem_of_getElem? (i := 10) rfl)) (hw _ (List.mem_of_getElem? (i := 44) rfl)) (rm_expR l Z a0 hw oCa oBx [] b11 (q1 - (1 : Int64)) w3 q1 T52.heap O72 f56 f62 f63) 0 0 0 rfl rfl (by decide) (by decide) (by decide) (by show _ ≤ 16; omega) (by show _ ≤ 1152; omega) Kc95 f53 (g := (mkF m 126 #[.val (.long q1), .second, .val (.long q2), .second, .val (.int p3), .val (.int (0 : Int32)), .val (.ref w3), .val (.ref b11), .val (.int (0 : Int32)), .val (.int (0 : Int32)), .val (.int (1 : Int32)), .unset] [(.long (q1 - (1 : Int64))), (.ref b11)])) rfl (by rw [hml]; rfl) [(.long (q1 - (1 : Int64)))] [] (lenOf own_pd_5 rfl) rfl rfl (by show 2 * 0 + _ ≤ _; exact Nat.le_of_eq rfl) (hb hby at_126)
              replace hS := hSn
              replace hZ := hZn
              replace hown := hownn
              clear hSn hZn hownn
              rcases hQ99 with hQ99 | hQ99
              · obtain ⟨rfl, Nc102, hp100, Kc101⟩ := hQ99
                refine own_go st99 ?_
                have N103 := Fr.app N97 Nc102
                rw [Kc101] at hS
                show own_Go p e below s _ _ _ (T99.setTop (mkF m 129 #[.val (.long q1), .second, .val (.long q2), .second, .val (.int p3), .val (.int (0 : Int32)), .val (.ref w3), .val (.ref b11), .val (.int (0 : Int32)), .val (.int (0 : Int32)), .val (.int (1 : Int32)), .unset] [(.int (0 : Int32))]))
                refine own_go (fun _ k => XS.istore X99.here hx rfl (hb hby at_129) rfl (l' := #[.val (.long q1), .second, .val (.long q2), .second, .val (.int p3), .val (.int (0 : Int32)), .val (.ref w3), .val (.ref b11), .val (.int (0 : Int32)), .val (.int (0 : Int32)), .val (.int (1 : Int32)), .val (.int (0 : Int32))]) rfl k) ?_
                show own_Go p e below s _ _ _ (T99.setTop (mkF m 131 #[.val (.long q1), .second, .val (.long q2), .second, .val (.int p3), .val (.int (0 : Int32)), .val (.ref w3), .val (.ref b11), .val (.int (0 : Int32)), .val (.int (0 : Int32)), .val (.int (1 : Int32)), .val (.int (0 : Int32))] []))
                refine own_go (fun _ k => XS.iload X99.here hx rfl (hb hby at_131) rfl k) ?_
                show own_Go p e below s _ _ _ (T99.setTop (mkF m 133 #[.val (.long q1), .second, .val (.long q2), .second, .val (.int p3), .val (.int (0 : Int32)), .val (.ref w3), .val (.ref b11), .val (.int (0 : Int32)), .val (.int (0 : Int32)), .val (.int (1 : Int32)), .val (.int (0 : Int32))] [(.int (0 : Int32))]))
                refine own_go (fun _ k => XS.ifYes X99.here hx rfl (pc0 := 133) (pc' := 138) rfl (hb hby at_133) rfl ((if0 _ _).trans (teq (by decide : (0 : Int32) = (0 : Int32))).1) (by decide) (by decide) k) ?_
                show own_Go p e below s _ _ _ (T99.setTop (mkF m 138 #[.val (.long q1), .second, .val (.long q2), .second, .val (.int p3), .val (.int (0 : Int32)), .val (.ref w3), .val (.ref b11), .val (.int (0 : Int32)), .val (.int (0 : Int32)), .val (.int (1 : Int32)), .val (.int (0 : Int32))] []))
                refine own_go (fun _ k => XS.iconst X99.here hx rfl (hb hby at_138) k) ?_
                show own_Go p e below s _ _ _ (T99.setTop (mkF m 139 #[.val (.long q1), .second, .val (.long q2), .second, .val (.int p3), .val (.int (0 : Int32)), .val (.ref w3), .val (.ref b11), .val (.int (0 : Int32)), .val (.int (0 : Int32)), .val (.int (1 : Int32)), .val (.int (0 : Int32))] [(.int (1 : Int32))]))
                refine own_retN X99 hS hx hlk Kc101 (t := .boolean) hret (by simp) (hb hby at_139) (by show _ ≤ 16; omega) (by show _ ≤ 1152; omega) ?_
                exact ⟨rfl, N103, K73⟩
              · obtain ⟨rfl, Nc106, hp104, Kc105⟩ := hQ99
                refine own_go st99 ?_
                have N107 := Fr.app N97 Nc106
                rw [Kc105] at hS
                show own_Go p e below s _ _ _ (T99.setTop (mkF m 129 #[.val (.long q1), .second, .val (.long q2), .second, .val (.int p3), .val (.int (0 : Int32)), .val (.ref w3), .val (.ref b11), .val (.int (0 : Int32)), .val (.int (0 : Int32)), .val (.int (1 : Int32)), .unset] [(.int (1 : Int32))]))
                refine own_go (fun _ k => XS.istore X99.here hx rfl (hb hby at_129) rfl (l' := #[.val (.long q1), .second, .val (.long q2), .second, .val (.int p3), .val (.int (0 : Int32)), .val (.ref w3), .val (.ref b11), .val (.int (0 : Int32)), .val (.int (0 : Int32)), .val (.int (1 : Int32)), .val (.int (1 : Int32))]) rfl k) ?_
                show own_Go p e below s _ _ _ (T99.setTop (mkF m 131 #[.val (.long q1), .second, .val (.long q2), .second, .val (.int p3), .val (.int (0 : Int32)), .val (.ref w3), .val (.ref b11), .val (.int (0 : Int32)), .val (.int (0 : Int32)), .val (.int (1 : Int32)), .val (.int (1 : Int32))] []))
                refine own_go (fun _ k => XS.iload X99.here hx rfl (hb hby at_131) rfl k) ?_
                show own_Go p e below s _ _ _ (T99.setTop (mkF m 133 #[.val (.long q1), .second, .val (.long q2), .second, .val (.int p3), .val (.int (0 : Int32)), .val (.ref w3), .val (.ref b11), .val (.int (0 : Int32)), .val (.int (0 : Int32)), .val (.int (1 : Int32)), .val (.int (1 : Int32))] [(.int (1 : Int32))]))
                refine own_go (fun _ k => XS.ifNo X99.here hx rfl (hb hby at_133) rfl ((if0 _ _).trans (feq (by decide : ¬ ((1 : Int32) = (0 : Int32)))).1) k) ?_
                show own_Go p e below s _ _ _ (T99.setTop (mkF m 136 #[.val (.long q1), .second, .val (.long q2), .second, .val (.int p3), .val (.int (0 : Int32)), .val (.ref w3), .val (.ref b11), .val (.int (0 : Int32)), .val (.int (0 : Int32)), .val (.int (1 : Int32)), .val (.int (1 : Int32))] []))
                refine own_go (fun _ k => XS.iconst X99.here hx rfl (hb hby at_136) k) ?_
                show own_Go p e below s _ _ _ (T99.setTop (mkF m 137 #[.val (.long q1), .second, .val (.long q2), .second, .val (.int p3), .val (.int (0 : Int32)), .val (.ref w3), .val (.ref b11), .val (.int (0 : Int32)), .val (.int (0 : Int32)), .val (.int (1 : Int32)), .val (.int (1 : Int32))] [(.int (0 : Int32))]))
                refine own_retN X99 hS hx hlk Kc105 (t := .boolean) hret (by simp) (hb hby at_137) (by show _ ≤ 16; omega) (by show _ ≤ 1152; omega) ?_
                exfalso
                have ar0 := rng64 q2
                have ar1 := rng64 q1
                have ar2 := Int64.lt_iff_toInt_lt.mp hp75
                have ar3 := rng64 q1
                have ar4 := rng64 q2
                have ar5 := mt Int64.lt_iff_toInt_lt.mpr hp84
                have ar6 := rng64 q1
                have ar7 := rng64 q2
                have ar8 := mt Int64.toInt_inj.mp hc88
                have ar9 := rng64 q1
                have ar10 := rng64 q1
                have ar11 := mt Int64.lt_iff_toInt_lt.mpr hp94
                have ar12 := rng64 q1
                have ar13 : (-9223372036854775808 : Int64).toInt = -9223372036854775808 := by decide
                have ar14 := mt Int64.toInt_inj.mp hc98
                have ar15 := rng64 q1
                have ar16 : (1 : Int64).toInt = 1 := by decide
                have ar17 := c_lsub q1 (1 : Int64)
                have ar18 := rng64 (q1 - (1 : Int64))
                have ar19 := rng64 q1
                have ar20 := mt Int64.lt_iff_toInt_lt.mpr hp104
                omega
    · obtain ⟨rfl, Nc110, hp108, Kc109⟩ := hQ74
      refine own_go st74 ?_
      have N111 := Fr.app N61 Nc110
      rw [Kc109] at hS
      show own_Go p e below s _ _ _ (T74.setTop (mkF m 55 #[.val (.long q1), .second, .val (.long q2), .second, .val (.int p3), .val (.int (0 : Int32)), .val (.ref w3), .val (.ref b11), .unset, .unset, .unset, .unset] [(.int (1 : Int32))]))
      refine own_go (fun _ k => XS.istore X74.here hx rfl (hb hby at_55) rfl (l' := #[.val (.long q1), .second, .val (.long q2), .second, .val (.int p3), .val (.int (0 : Int32)), .val (.ref w3), .val (.ref b11), .val (.int (1 : Int32)), .unset, .unset, .unset]) rfl k) ?_
      show own_Go p e below s _ _ _ (T74.setTop (mkF m 57 #[.val (.long q1), .second, .val (.long q2), .second, .val (.int p3), .val (.int (0 : Int32)), .val (.ref w3), .val (.ref b11), .val (.int (1 : Int32)), .unset, .unset, .unset] []))
      refine own_go (fun _ k => XS.iload X74.here hx rfl (hb hby at_57) rfl k) ?_
      show own_Go p e below s _ _ _ (T74.setTop (mkF m 59 #[.val (.long q1), .second, .val (.long q2), .second, .val (.int p3), .val (.int (0 : Int32)), .val (.ref w3), .val (.ref b11), .val (.int (1 : Int32)), .unset, .unset, .unset] [(.int (0 : Int32))]))
      refine own_go (fun _ k => XS.ifNo X74.here hx rfl (hb hby at_59) rfl ((if0 _ _).trans (teq (by decide : (0 : Int32) = (0 : Int32))).2) k) ?_
      show own_Go p e below s _ _ _ (T74.setTop (mkF m 62 #[.val (.long q1), .second, .val (.long q2), .second, .val (.int p3), .val (.int (0 : Int32)), .val (.ref w3), .val (.ref b11), .val (.int (1 : Int32)), .unset, .unset, .unset] []))
      refine own_go (fun _ k => XS.lloadN X74.here hx rfl (hb hby at_62) rfl k) ?_
      show own_Go p e below s _ _ _ (T74.setTop (mkF m 63 #[.val (.long q1), .second, .val (.long q2), .second, .val (.int p3), .val (.int (0 : Int32)), .val (.ref w3), .val (.ref b11), .val (.int (1 : Int32)), .unset, .unset, .unset] [(.long q1)]))
      refine own_go (fun _ k => XS.lloadN X74.here hx rfl (hb hby at_63) rfl k) ?_
      show own_Go p e below s _ _ _ (T74.setTop (mkF m 64 #[.val (.long q1), .second, .val (.long q2), .second, .val (.int p3), .val (.int (0 : Int32)), .val (.ref w3), .val (.ref b11), .val (.int (1 : Int32)), .unset, .unset, .unset] [(.long q2), (.long q1)]))
      obtain ⟨v112, T112, L112, X112, hSn, hZn, hownn, hQ112, st112⟩ := own_callS (y := (⟨"java/lang/Math", "max", "(JJ)J"⟩ : MethodName)) X74 hS hx hZ hown (hw _ (List.mem_of_getElem? (i := 52) rfl)) (hw _ (List.mem_of_getElem? (i := 53) rfl)) (hw _ (List.mem_of_getElem? (i := 54) rfl)) (hw _ (List.mem_of_getElem? (i := 55) rfl)) (rm_maxj l Z a0 hw oCa oBx [] q1 q2 T52.heap O72) 0 0 0 rfl rfl (by decide) (by decide) (by decide) (by show _ ≤ 16; omega) (by show _ ≤ 1152; omega) Kc109 (g := (mkF m 64 #[.val (.long q1), .second, .val (.long q2), .second, .val (.int p3), .val (.int (0 : Int32)), .val (.ref w3), .val (.ref b11), .val (.int (1 : Int32)), .unset, .unset, .unset] [(.long q2), (.long q1)])) rfl (by rw [hml]; rfl) [(.long q1), (.long q2)] [] (lenOf own_pd_6 rfl) rfl rfl (by show 2 * 0 + _ ≤ _; exact Nat.le_of_eq rfl) (hb hby at_64)
      replace hS := hSn
      replace hZ := hZn
      replace hown := hownn
      clear hSn hZn hownn
      rcases hQ112 with hQ112 | hQ112
      · obtain ⟨rfl, Nc115, hp113, Kc114⟩ := hQ112
        refine own_go st112 ?_
        have N116 := Fr.app N111 Nc115
        rw [Kc114] at hS
        show own_Go p e below s _ _ _ (T112.setTop (mkF m 67 #[.val (.long q1), .second, .val (.long q2), .second, .val (.int p3), .val (.int (0 : Int32)), .val (.ref w3), .val (.ref b11), .val (.int (1 : Int32)), .unset, .unset, .unset] [(.long q2)]))
        refine own_go (fun _ k => XS.lloadN X112.here hx rfl (hb hby at_67) rfl k) ?_
        show own_Go p e below s _ _ _ (T112.setTop (mkF m 68 #[.val (.long q1), .second, .val (.long q2), .second, .val (.int p3), .val (.int (0 : Int32)), .val (.ref w3), .val (.ref b11), .val (.int (1 : Int32)), .unset, .unset, .unset] [(.long q2), (.long q2)]))
        refine own_go (fun _ k => XS.lcmp X112.here hx rfl (hb hby at_68) rfl k) ?_
        show own_Go p e below s _ _ _ (T112.setTop (mkF m 69 #[.val (.long q1), .second, .val (.long q2), .second, .val (.int p3), .val (.int (0 : Int32)), .val (.ref w3), .val (.ref b11), .val (.int (1 : Int32)), .unset, .unset, .unset] [(.int (lcmpW q2 q2))]))
        refine own_go (fun _ k => XS.ifNo X112.here hx rfl (hb hby at_69) rfl ((if0 _ _).trans (teq ((lw_eq _ _).mpr (rfl : q2 = q2))).2) k) ?_
        show own_Go p e below s _ _ _ (T112.setTop (mkF m 72 #[.val (.long q1), .second, .val (.long q2), .second, .val (.int p3), .val (.int (0 : Int32)), .val (.ref w3), .val (.ref b11), .val (.int (1 : Int32)), .unset, .unset, .unset] []))
        refine own_go (fun _ k => XS.iconst X112.here hx rfl (hb hby at_72) k) ?_
        show own_Go p e below s _ _ _ (T112.setTop (mkF m 73 #[.val (.long q1), .second, .val (.long q2), .second, .val (.int p3), .val (.int (0 : Int32)), .val (.ref w3), .val (.ref b11), .val (.int (1 : Int32)), .unset, .unset, .unset] [(.int (1 : Int32))]))
        refine own_go (fun _ k => XS.goto X112.here hx rfl (pc0 := 73) (pc' := 77) rfl (hb hby at_73) (by decide) (by decide) k) ?_
        show own_Go p e below s _ _ _ (T112.setTop (mkF m 77 #[.val (.long q1), .second, .val (.long q2), .second, .val (.int p3), .val (.int (0 : Int32)), .val (.ref w3), .val (.ref b11), .val (.int (1 : Int32)), .unset, .unset, .unset] [(.int (1 : Int32))]))
        refine own_go (fun _ k => XS.istore X112.here hx rfl (hb hby at_77) rfl (l' := #[.val (.long q1), .second, .val (.long q2), .second, .val (.int p3), .val (.int (0 : Int32)), .val (.ref w3), .val (.ref b11), .val (.int (1 : Int32)), .val (.int (1 : Int32)), .unset, .unset]) rfl k) ?_
        show own_Go p e below s _ _ _ (T112.setTop (mkF m 79 #[.val (.long q1), .second, .val (.long q2), .second, .val (.int p3), .val (.int (0 : Int32)), .val (.ref w3), .val (.ref b11), .val (.int (1 : Int32)), .val (.int (1 : Int32)), .unset, .unset] []))
        refine own_go (fun _ k => XS.iload X112.here hx rfl (hb hby at_79) rfl k) ?_
        show own_Go p e below s _ _ _ (T112.setTop (mkF m 81 #[.val (.long q1), .second, .val (.long q2), .second, .val (.int p3), .val (.int (0 : Int32)), .val (.ref w3), .val (.ref b11), .val (.int (1 : Int32)), .val (.int (1 : Int32)), .unset, .unset] [(.int (1 : Int32))]))
        refine own_go (fun _ k => XS.iload X112.here hx rfl (hb hby at_81) rfl k) ?_
        show own_Go p e below s _ _ _ (T112.setTop (mkF m 83 #[.val (.long q1), .second, .val (.long q2), .second, .val (.int p3), .val (.int (0 : Int32)), .val (.ref w3), .val (.ref b11), .val (.int (1 : Int32)), .val (.int (1 : Int32)), .unset, .unset] [(.int (1 : Int32)), (.int (1 : Int32))]))
        refine own_go (fun _ k => XS.icmpYes X112.here hx rfl (pc0 := 83) (pc' := 88) rfl (hb hby at_83) rfl (teq (by decide : (1 : Int32) = (1 : Int32))).1 (by decide) (by decide) k) ?_
        show own_Go p e below s _ _ _ (T112.setTop (mkF m 88 #[.val (.long q1), .second, .val (.long q2), .second, .val (.int p3), .val (.int (0 : Int32)), .val (.ref w3), .val (.ref b11), .val (.int (1 : Int32)), .val (.int (1 : Int32)), .unset, .unset] []))
        refine own_go (fun _ k => XS.aload X112.here hx rfl (hb hby at_88) rfl rfl k) ?_
        show own_Go p e below s _ _ _ (T112.setTop (mkF m 90 #[.val (.long q1), .second, .val (.long q2), .second, .val (.int p3), .val (.int (0 : Int32)), .val (.ref w3), .val (.ref b11), .val (.int (1 : Int32)), .val (.int (1 : Int32)), .unset, .unset] [(.ref b11)]))
        refine own_go (fun _ k => XS.lloadN X112.here hx rfl (hb hby at_90) rfl k) ?_
        show own_Go p e below s _ _ _ (T112.setTop (mkF m 91 #[.val (.long q1), .second, .val (.long q2), .second, .val (.int p3), .val (.int (0 : Int32)), .val (.ref w3), .val (.ref b11), .val (.int (1 : Int32)), .val (.int (1 : Int32)), .unset, .unset] [(.long q1), (.ref b11)]))
        obtain ⟨v117, T117, L117, X117, hSn, hZn, hownn, hQ117, st117⟩ := own_callV (y := (⟨"com/example/countersign/countersign/server/Exchange", "expiredBy", "(J)Z"⟩ : MethodName)) (z := (⟨"com/example/countersign/countersign/server/Exchange", "expiredBy", "(J)Z"⟩ : MethodName)) X112 hS hx hZ hown (hw _ (List.mem_of_getElem? (i := 40) rfl)) (hw _ (List.mem_of_getElem? (i := 41) rfl)) (notFace_of_selects (args := #[]) (mvT hZ (hw _ (List.mem_of_getElem? (i := 43) rfl)))) (hw _ (List.mem_of_getElem? (i := 43) rfl)) (hw _ (List.mem_of_getElem? (i := 42) rfl)) (hw _ (List.mem_of_getElem? (i := 10) rfl)) (hw _ (List.mem_of_getElem? (i := 44) rfl)) (rm_expR l Z a0 hw oCa oBx [] b11 q1 w3 q1 T52.heap O72 f56 f62 f63) 0 0 0 rfl rfl (by decide) (by decide) (by decide) (by show _ ≤ 16; omega) (by show _ ≤ 1152; omega) Kc114 f53 (g := (mkF m 91 #[.val (.long q1), .second, .val (.long q2), .second, .val (.int p3), .val (.int (0 : Int32)), .val (.ref w3), .val (.ref b11), .val (.int (1 : Int32)), .val (.int (1 : Int32)), .unset, .unset] [(.long q1), (.ref b11)])) rfl (by rw [hml]; rfl) [(.long q1)] [] (lenOf own_pd_5 rfl) rfl rfl (by show 2 * 0 + _ ≤ _; exact Nat.le_of_eq rfl) (hb hby at_91)
        replace hS := hSn
        replace hZ := hZn
        replace hown := hownn
        clear hSn hZn hownn
        rcases hQ117 with hQ117 | hQ117
        · obtain ⟨rfl, Nc120, hp118, Kc119⟩ := hQ117
          refine own_go st117 ?_
          have N121 := Fr.app N116 Nc120
          rw [Kc119] at hS
          show own_Go p e below s _ _ _ (T117.setTop (mkF m 94 #[.val (.long q1), .second, .val (.long q2), .second, .val (.int p3), .val (.int (0 : Int32)), .val (.ref w3), .val (.ref b11), .val (.int (1 : Int32)), .val (.int (1 : Int32)), .unset, .unset] [(.int (0 : Int32))]))
          refine own_go (fun _ k => XS.istore X117.here hx rfl (hb hby at_94) rfl (l' := #[.val (.long q1), .second, .val (.long q2), .second, .val (.int p3), .val (.int (0 : Int32)), .val (.ref w3), .val (.ref b11), .val (.int (1 : Int32)), .val (.int (1 : Int32)), .val (.int (0 : Int32)), .unset]) rfl k) ?_
          show own_Go p e below s _ _ _ (T117.setTop (mkF m 96 #[.val (.long q1), .second, .val (.long q2), .second, .val (.int p3), .val (.int (0 : Int32)), .val (.ref w3), .val (.ref b11), .val (.int (1 : Int32)), .val (.int (1 : Int32)), .val (.int (0 : Int32)), .unset] []))
          refine own_go (fun _ k => XS.iload X117.here hx rfl (hb hby at_96) rfl k) ?_
          show own_Go p e below s _ _ _ (T117.setTop (mkF m 98 #[.val (.long q1), .second, .val (.long q2), .second, .val (.int p3), .val (.int (0 : Int32)), .val (.ref w3), .val (.ref b11), .val (.int (1 : Int32)), .val (.int (1 : Int32)), .val (.int (0 : Int32)), .unset] [(.int (0 : Int32))]))
          refine own_go (fun _ k => XS.iload X117.here hx rfl (hb hby at_98) rfl k) ?_
          show own_Go p e below s _ _ _ (T117.setTop (mkF m 100 #[.val (.long q1), .second, .val (.long q2), .second, .val (.int p3), .val (.int (0 : Int32)), .val (.ref w3), .val (.ref b11), .val (.int (1 : Int32)), .val (.int (1 : Int32)), .val (.int (0 : Int32)), .unset] [(.int (0 : Int32)), (.int (0 : Int32))]))
          refine own_go (fun _ k => XS.ifNo X117.here hx rfl (hb hby at_100) rfl ((if0 _ _).trans (teq (by decide : (0 : Int32) = (0 : Int32))).2) k) ?_
          show own_Go p e below s _ _ _ (T117.setTop (mkF m 103 #[.val (.long q1), .second, .val (.long q2), .second, .val (.int p3), .val (.int (0 : Int32)), .val (.ref w3), .val (.ref b11), .val (.int (1 : Int32)), .val (.int (1 : Int32)), .val (.int (0 : Int32)), .unset] [(.int (0 : Int32))]))
          refine own_go (fun _ k => XS.iconst X117.here hx rfl (hb hby at_103) k) ?_
          show own_Go p e below s _ _ _ (T117.setTop (mkF m 104 #[.val (.long q1), .second, .val (.long q2), .second, .val (.int p3), .val (.int (0 : Int32)), .val (.ref w3), .val (.ref b11), .val (.int (1 : Int32)), .val (.int (1 : Int32)), .val (.int (0 : Int32)), .unset] [(.int (1 : Int32)), (.int (0 : Int32))]))
          refine own_go (fun _ k => XS.goto X117.here hx rfl (pc0 := 104) (pc' := 108) rfl (hb hby at_104) (by decide) (by decide) k) ?_
          show own_Go p e below s _ _ _ (T117.setTop (mkF m 108 #[.val (.long q1), .second, .val (.long q2), .second, .val (.int p3), .val (.int (0 : Int32)), .val (.ref w3), .val (.ref b11), .val (.int (1 : Int32)), .val (.int (1 : Int32)), .val (.int (0 : Int32)), .unset] [(.int (1 : Int32)), (.int (0 : Int32))]))
          refine own_go (fun _ k => XS.icmpNo X117.here hx rfl (hb hby at_108) rfl (feq (by decide : ¬ ((0 : Int32) = (1 : Int32)))).1 k) ?_
          show own_Go p e below s _ _ _ (T117.setTop (mkF m 111 #[.val (.long q1), .second, .val (.long q2), .second, .val (.int p3), .val (.int (0 : Int32)), .val (.ref w3), .val (.ref b11), .val (.int (1 : Int32)), .val (.int (1 : Int32)), .val (.int (0 : Int32)), .unset] []))
          refine own_go (fun _ k => XS.iconst X117.here hx rfl (hb hby at_111) k) ?_
          show own_Go p e below s _ _ _ (T117.setTop (mkF m 112 #[.val (.long q1), .second, .val (.long q2), .second, .val (.int p3), .val (.int (0 : Int32)), .val (.ref w3), .val (.ref b11), .val (.int (1 : Int32)), .val (.int (1 : Int32)), .val (.int (0 : Int32)), .unset] [(.int (0 : Int32))]))
          refine own_retN X117 hS hx hlk Kc119 (t := .boolean) hret (by simp) (hb hby at_112) (by show _ ≤ 16; omega) (by show _ ≤ 1152; omega) ?_
          exfalso
          have ar0 := rng64 q2
          have ar1 := rng64 q1
          have ar2 := mt Int64.lt_iff_toInt_lt.mpr hp108
          have ar3 := rng64 q1
          have ar4 := rng64 q2
          have ar5 := Int64.lt_iff_toInt_lt.mp hp113
          have ar6 := rng64 q1
          have ar7 := rng64 q1
          have ar8 := Int64.lt_iff_toInt_lt.mp hp118
          omega
        · obtain ⟨rfl, Nc124, hp122, Kc123⟩ := hQ117
          refine own_go st117 ?_
          have N125 := Fr.app N116 Nc124
          rw [Kc123] at hS
          show own_Go p e below s _ _ _ (T117.setTop (mkF m 94 #[.val (.long q1), .second, .val (.long q2), .second, .val (.int p3), .val (.int (0 : Int32)), .val (.ref w3), .val (.ref b11), .val (.int (1 : Int32)), .val (.int (1 : Int32)), .unset, .unset] [(.int (1 : Int32))]))
          refine own_go (fun _ k => XS.istore X117.here hx rfl (hb hby at_94) rfl (l' := #[.val (.long q1), .second, .val (.long q2), .second, .val (.int p3), .val (.int (0 : Int32)), .val (.ref w3), .val (.ref b11), .val (.int (1 : Int32)), .val (.int (1 : Int32)), .val (.int (1 : Int32)), .unset]) rfl k) ?_
          show own_Go p e below s _ _ _ (T117.setTop (mkF m 96 #[.val (.long q1), .second, .val (.long q2), .second, .val (.int p3), .val (.int (0 : Int32)), .val (.ref w3), .val (.ref b11), .val (.int (1 : Int32)), .val (.int (1 : Int32)), .val (.int (1 : Int32)), .unset] []))
          refine own_go (fun _ k => XS.iload X117.here hx rfl (hb hby at_96) rfl k) ?_
          show own_Go p e below s _ _ _ (T117.setTop (mkF m 98 #[.val (.long q1), .second, .val (.long q2), .second, .val (.int p3), .val (.int (0 : Int32)), .val (.ref w3), .val (.ref b11), .val (.int (1 : Int32)), .val (.int (1 : Int32)), .val (.int (1 : Int32)), .unset] [(.int (1 : Int32))]))
          refine own_go (fun _ k => XS.iload X117.here hx rfl (hb hby at_98) rfl k) ?_
          show own_Go p e below s _ _ _ (T117.setTop (mkF m 100 #[.val (.long q1), .second, .val (.long q2), .second, .val (.int p3), .val (.int (0 : Int32)), .val (.ref w3), .val (.ref b11), .val (.int (1 : Int32)), .val (.int (1 : Int32)), .val (.int (1 : Int32)), .unset] [(.int (0 : Int32)), (.int (1 : Int32))]))
          refine own_go (fun _ k => XS.ifNo X117.here hx rfl (hb hby at_100) rfl ((if0 _ _).trans (teq (by decide : (0 : Int32) = (0 : Int32))).2) k) ?_
          show own_Go p e below s _ _ _ (T117.setTop (mkF m 103 #[.val (.long q1), .second, .val (.long q2), .second, .val (.int p3), .val (.int (0 : Int32)), .val (.ref w3), .val (.ref b11), .val (.int (1 : Int32)), .val (.int (1 : Int32)), .val (.int (1 : Int32)), .unset] [(.int (1 : Int32))]))
          refine own_go (fun _ k => XS.iconst X117.here hx rfl (hb hby at_103) k) ?_
          show own_Go p e below s _ _ _ (T117.setTop (mkF m 104 #[.val (.long q1), .second, .val (.long q2), .second, .val (.int p3), .val (.int (0 : Int32)), .val (.ref w3), .val (.ref b11), .val (.int (1 : Int32)), .val (.int (1 : Int32)), .val (.int (1 : Int32)), .unset] [(.int (1 : Int32)), (.int (1 : Int32))]))
          refine own_go (fun _ k => XS.goto X117.here hx rfl (pc0 := 104) (pc' := 108) rfl (hb hby at_104) (by decide) (by decide) k) ?_
          show own_Go p e below s _ _ _ (T117.setTop (mkF m 108 #[.val (.long q1), .second, .val (.long q2), .second, .val (.int p3), .val (.int (0 : Int32)), .val (.ref w3), .val (.ref b11), .val (.int (1 : Int32)), .val (.int (1 : Int32)), .val (.int (1 : Int32)), .unset] [(.int (1 : Int32)), (.int (1 : Int32))]))
          refine own_go (fun _ k => XS.icmpYes X117.here hx rfl (pc0 := 108) (pc' := 113) rfl (hb hby at_108) rfl (teq (by decide : (1 : Int32) = (1 : Int32))).1 (by decide) (by decide) k) ?_
          show own_Go p e below s _ _ _ (T117.setTop (mkF m 113 #[.val (.long q1), .second, .val (.long q2), .second, .val (.int p3), .val (.int (0 : Int32)), .val (.ref w3), .val (.ref b11), .val (.int (1 : Int32)), .val (.int (1 : Int32)), .val (.int (1 : Int32)), .unset] []))
          refine own_go (fun _ k => XS.lloadN X117.here hx rfl (hb hby at_113) rfl k) ?_
          show own_Go p e below s _ _ _ (T117.setTop (mkF m 114 #[.val (.long q1), .second, .val (.long q2), .second, .val (.int p3), .val (.int (0 : Int32)), .val (.ref w3), .val (.ref b11), .val (.int (1 : Int32)), .val (.int (1 : Int32)), .val (.int (1 : Int32)), .unset] [(.long q1)]))
          refine own_go (X117.ldc2Long hx hown (mvT hZ (hw _ (List.mem_of_getElem? (i := 56) rfl))) (g := (mkF m 114 #[.val (.long q1), .second, .val (.long q2), .second, .val (.int p3), .val (.int (0 : Int32)), .val (.ref w3), .val (.ref b11), .val (.int (1 : Int32)), .val (.int (1 : Int32)), .val (.int (1 : Int32)), .unset] [(.long q1)])) rfl (hb hby at_114)) ?_
          show own_Go p e below s _ _ _ (T117.setTop (mkF m 117 #[.val (.long q1), .second, .val (.long q2), .second, .val (.int p3), .val (.int (0 : Int32)), .val (.ref w3), .val (.ref b11), .val (.int (1 : Int32)), .val (.int (1 : Int32)), .val (.int (1 : Int32)), .unset] [(.long (-9223372036854775808 : Int64)), (.long q1)]))
          refine own_go (fun _ k => XS.lcmp X117.here hx rfl (hb hby at_117) rfl k) ?_
          show own_Go p e below s _ _ _ (T117.setTop (mkF m 118 #[.val (.long q1), .second, .val (.long q2), .second, .val (.int p3), .val (.int (0 : Int32)), .val (.ref w3), .val (.ref b11), .val (.int (1 : Int32)), .val (.int (1 : Int32)), .val (.int (1 : Int32)), .unset] [(.int (lcmpW q1 (-9223372036854775808 : Int64)))]))
          by_cases hc126 : q1 = (-9223372036854775808 : Int64)
          · refine own_go (fun _ k => XS.ifYes X117.here hx rfl (pc0 := 118) (pc' := 138) rfl (hb hby at_118) rfl ((if0 _ _).trans (teq ((lw_eq _ _).mpr hc126)).1) (by decide) (by decide) k) ?_
            show own_Go p e below s _ _ _ (T117.setTop (mkF m 138 #[.val (.long q1), .second, .val (.long q2), .second, .val (.int p3), .val (.int (0 : Int32)), .val (.ref w3), .val (.ref b11), .val (.int (1 : Int32)), .val (.int (1 : Int32)), .val (.int (1 : Int32)), .unset] []))
            refine own_go (fun _ k => XS.iconst X117.here hx rfl (hb hby at_138) k) ?_
            show own_Go p e below s _ _ _ (T117.setTop (mkF m 139 #[.val (.long q1), .second, .val (.long q2), .second, .val (.int p3), .val (.int (0 : Int32)), .val (.ref w3), .val (.ref b11), .val (.int (1 : Int32)), .val (.int (1 : Int32)), .val (.int (1 : Int32)), .unset] [(.int (1 : Int32))]))
            refine own_retN X117 hS hx hlk Kc123 (t := .boolean) hret (by simp) (hb hby at_139) (by show _ ≤ 16; omega) (by show _ ≤ 1152; omega) ?_
            exact ⟨rfl, N125, K73⟩
          · refine own_go (fun _ k => XS.ifNo X117.here hx rfl (hb hby at_118) rfl ((if0 _ _).trans (feq (fun q => hc126 ((lw_eq _ _).mp q))).1) k) ?_
            show own_Go p e below s _ _ _ (T117.setTop (mkF m 121 #[.val (.long q1), .second, .val (.long q2), .second, .val (.int p3), .val (.int (0 : Int32)), .val (.ref w3), .val (.ref b11), .val (.int (1 : Int32)), .val (.int (1 : Int32)), .val (.int (1 : Int32)), .unset] []))
            refine own_go (fun _ k => XS.aload X117.here hx rfl (hb hby at_121) rfl rfl k) ?_
            show own_Go p e below s _ _ _ (T117.setTop (mkF m 123 #[.val (.long q1), .second, .val (.long q2), .second, .val (.int p3), .val (.int (0 : Int32)), .val (.ref w3), .val (.ref b11), .val (.int (1 : Int32)), .val (.int (1 : Int32)), .val (.int (1 : Int32)), .unset] [(.ref b11)]))
            refine own_go (fun _ k => XS.lloadN X117.here hx rfl (hb hby at_123) rfl k) ?_
            show own_Go p e below s _ _ _ (T117.setTop (mkF m 124 #[.val (.long q1), .second, .val (.long q2), .second, .val (.int p3), .val (.int (0 : Int32)), .val (.ref w3), .val (.ref b11), .val (.int (1 : Int32)), .val (.int (1 : Int32)), .val (.int (1 : Int32)), .unset] [(.long q1), (.ref b11)]))
            refine own_go (fun _ k => XS.lconst X117.here hx rfl (hb hby at_124) k) ?_
            show own_Go p e below s _ _ _ (T117.setTop (mkF m 125 #[.val (.long q1), .second, .val (.long q2), .second, .val (.int p3), .val (.int (0 : Int32)), .val (.ref w3), .val (.ref b11), .val (.int (1 : Int32)), .val (.int (1 : Int32)), .val (.int (1 : Int32)), .unset] [(.long (1 : Int64)), (.long q1), (.ref b11)]))
            refine own_go (fun _ k => XS.lsub X117.here hx rfl (hb hby at_125) rfl k) ?_
            show own_Go p e below s _ _ _ (T117.setTop (mkF m 126 #[.val (.long q1), .second, .val (.long q2), .second, .val (.int p3), .val (.int (0 : Int32)), .val (.ref w3), .val (.ref b11), .val (.int (1 : Int32)), .val (.int (1 : Int32)), .val (.int (1 : Int32)), .unset] [(.long (q1 - (1 : Int64))), (.ref b11)]))
            obtain ⟨v127, T127, L127, X127, hSn, hZn, hownn, hQ127, st127⟩ := own_callV (y := (⟨"com/example/countersign/countersign/server/Exchange", "expiredBy", "(J)Z"⟩ : MethodName)) (z := (⟨"com/example/countersign/countersign/server/Exchange", "expiredBy", "(J)Z"⟩ : MethodName)) X117 hS hx hZ hown (hw _ (List.mem_of_getElem? (i := 40) rfl)) (hw _ (List.mem_of_getElem? (i := 41) rfl)) (notFace_of_selects (args := #[]) (mvT hZ (hw _ (List.mem_of_getElem? (i := 43) rfl)))) (hw _ (List.mem_of_getElem? (i := 43) rfl)) (hw _ (List.mem_of_getElem? (i := 42) rfl)) (hw _ (List.mem_of_getElem? (i := 10) rfl)) (hw _ (List.mem_of_getElem? (i := 44) rfl)) (rm_expR l Z a0 hw oCa oBx [] b11 (q1 - (1 : Int64)) w3 q1 T52.heap O72 f56 f62 f63) 0 0 0 rfl rfl (by decide) (by decide) (by decide) (by show _ ≤ 16; omega) (by show _ ≤ 1152; omega) Kc123 f53 (g := (mkF m 126 #[.val (.long q1), .second, .val (.long q2), .second, .val (.int p3), .val (.int (0 : Int32)), .val (.ref w3), .val (.ref b11), .val (.int (1 : Int32)), .val (.int (1 : Int32)), .val (.int (1 : Int32)), .unset] [(.long (q1 - (1 : Int64))), (.ref b11)])) rfl (by rw [hml]; rfl) [(.long (q1 - (1 : Int64)))] [] (lenOf own_pd_5 rfl) rfl rfl (by show 2 * 0 + _ ≤ _; exact Nat.le_of_eq rfl) (hb hby at_126)
            replace hS := hSn
            replace hZ := hZn
            replace hown := hownn
            clear hSn hZn hownn
            rcases hQ127 with hQ127 | hQ127
            · obtain ⟨rfl, Nc130, hp128, Kc129⟩ := hQ127
              refine own_go st127 ?_
              have N131 := Fr.app N125 Nc130
              rw [Kc129] at hS
              show own_Go p e below s _ _ _ (T127.setTop (mkF m 129 #[.val (.long q1), .second, .val (.long q2), .second, .val (.int p3), .val (.int (0 : Int32)), .val (.ref w3), .val (.ref b11), .val (.int (1 : Int32)), .val (.int (1 : Int32)), .val (.int (1 : Int32)), .unset] [(.int (0 : Int32))]))
              refine own_go (fun _ k => XS.istore X127.here hx rfl (hb hby at_129) rfl (l' := #[.val (.long q1), .second, .val (.long q2), .second, .val (.int p3), .val (.int (0 : Int32)), .val (.ref w3), .val (.ref b11), .val (.int (1 : Int32)), .val (.int (1 : Int32)), .val (.int (1 : Int32)), .val (.int (0 : Int32))]) rfl k) ?_
              show own_Go p e below s _ _ _ (T127.setTop (mkF m 131 #[.val (.long q1), .second, .val (.long q2), .second, .val (.int p3), .val (.int (0 : Int32)), .val (.ref w3), .val (.ref b11), .val (.int (1 : Int32)), .val (.int (1 : Int32)), .val (.int (1 : Int32)), .val (.int (0 : Int32))] []))
              refine own_go (fun _ k => XS.iload X127.here hx rfl (hb hby at_131) rfl k) ?_
              show own_Go p e below s _ _ _ (T127.setTop (mkF m 133 #[.val (.long q1), .second, .val (.long q2), .second, .val (.int p3), .val (.int (0 : Int32)), .val (.ref w3), .val (.ref b11), .val (.int (1 : Int32)), .val (.int (1 : Int32)), .val (.int (1 : Int32)), .val (.int (0 : Int32))] [(.int (0 : Int32))]))
              refine own_go (fun _ k => XS.ifYes X127.here hx rfl (pc0 := 133) (pc' := 138) rfl (hb hby at_133) rfl ((if0 _ _).trans (teq (by decide : (0 : Int32) = (0 : Int32))).1) (by decide) (by decide) k) ?_
              show own_Go p e below s _ _ _ (T127.setTop (mkF m 138 #[.val (.long q1), .second, .val (.long q2), .second, .val (.int p3), .val (.int (0 : Int32)), .val (.ref w3), .val (.ref b11), .val (.int (1 : Int32)), .val (.int (1 : Int32)), .val (.int (1 : Int32)), .val (.int (0 : Int32))] []))
              refine own_go (fun _ k => XS.iconst X127.here hx rfl (hb hby at_138) k) ?_
              show own_Go p e below s _ _ _ (T127.setTop (mkF m 139 #[.val (.long q1), .second, .val (.long q2), .second, .val (.int p3), .val (.int (0 : Int32)), .val (.ref w3), .val (.ref b11), .val (.int (1 : Int32)), .val (.int (1 : Int32)), .val (.int (1 : Int32)), .val (.int (0 : Int32))] [(.int (1 : Int32))]))
              refine own_retN X127 hS hx hlk Kc129 (t := .boolean) hret (by simp) (hb hby at_139) (by show _ ≤ 16; omega) (by show _ ≤ 1152; omega) ?_
              exact ⟨rfl, N131, K73⟩
            · obtain ⟨rfl, Nc134, hp132, Kc133⟩ := hQ127
              refine own_go st127 ?_
              have N135 := Fr.app N125 Nc134
              rw [Kc133] at hS
              show own_Go p e below s _ _ _ (T127.setTop (mkF m 129 #[.val (.long q1), .second, .val (.long q2), .second, .val (.int p3), .val (.int (0 : Int32)), .val (.ref w3), .val (.ref b11), .val (.int (1 : Int32)), .val (.int (1 : Int32)), .val (.int (1 : Int32)), .unset] [(.int (1 : Int32))]))
              refine own_go (fun _ k => XS.istore X127.here hx rfl (hb hby at_129) rfl (l' := #[.val (.long q1), .second, .val (.long q2), .second, .val (.int p3), .val (.int (0 : Int32)), .val (.ref w3), .val (.ref b11), .val (.int (1 : Int32)), .val (.int (1 : Int32)), .val (.int (1 : Int32)), .val (.int (1 : Int32))]) rfl k) ?_
              show own_Go p e below s _ _ _ (T127.setTop (mkF m 131 #[.val (.long q1), .second, .val (.long q2), .second, .val (.int p3), .val (.int (0 : Int32)), .val (.ref w3), .val (.ref b11), .val (.int (1 : Int32)), .val (.int (1 : Int32)), .val (.int (1 : Int32)), .val (.int (1 : Int32))] []))
              refine own_go (fun _ k => XS.iload X127.here hx rfl (hb hby at_131) rfl k) ?_
              show own_Go p e below s _ _ _ (T127.setTop (mkF m 133 #[.val (.long q1), .second, .val (.long q2), .second, .val (.int p3), .val (.int (0 : Int32)), .val (.ref w3), .val (.ref b11), .val (.int (1 : Int32)), .val (.int (1 : Int32)), .val (.int (1 : Int32)), .val (.int (1 : Int32))] [(.int (1 : Int32))]))
              refine own_go (fun _ k => XS.ifNo X127.here hx rfl (hb hby at_133) rfl ((if0 _ _).trans (feq (by decide : ¬ ((1 : Int32) = (0 : Int32)))).1) k) ?_
              show own_Go p e below s _ _ _ (T127.setTop (mkF m 136 #[.val (.long q1), .second, .val (.long q2), .second, .val (.int p3), .val (.int (0 : Int32)), .val (.ref w3), .val (.ref b11), .val (.int (1 : Int32)), .val (.int (1 : Int32)), .val (.int (1 : Int32)), .val (.int (1 : Int32))] []))
              refine own_go (fun _ k => XS.iconst X127.here hx rfl (hb hby at_136) k) ?_
              show own_Go p e below s _ _ _ (T127.setTop (mkF m 137 #[.val (.long q1), .second, .val (.long q2), .second, .val (.int p3), .val (.int (0 : Int32)), .val (.ref w3), .val (.ref b11), .val (.int (1 : Int32)), .val (.int (1 : Int32)), .val (.int (1 : Int32)), .val (.int (1 : Int32))] [(.int (0 : Int32))]))
              refine own_retN X127 hS hx hlk Kc133 (t := .boolean) hret (by simp) (hb hby at_137) (by show _ ≤ 16; omega) (by show _ ≤ 1152; omega) ?_
              exfalso
              have ar0 := rng64 q2
              have ar1 := rng64 q1
              have ar2 := mt Int64.lt_iff_toInt_lt.mpr hp108
              have ar3 := rng64 q1
              have ar4 := rng64 q2
              have ar5 := Int64.lt_iff_toInt_lt.mp hp113
              have ar6 := rng64 q1
              have ar7 := rng64 q1
              have ar8 := mt Int64.lt_iff_toInt_lt.mpr hp122
              have ar9 := rng64 q1
              have ar10 : (-9223372036854775808 : Int64).toInt = -9223372036854775808 := by decide
              have ar11 := mt Int64.toInt_inj.mp hc126
              have ar12 := rng64 q1
              have ar13 : (1 : Int64).toInt = 1 := by decide
              have ar14 := c_lsub q1 (1 : Int64)
              have ar15 := rng64 (q1 - (1 : Int64))
              have ar16 := rng64 q1
              have ar17 := mt Int64.lt_iff_toInt_lt.mpr hp132
              omega
      · obtain ⟨rfl, Nc138, hp136, Kc137⟩ := hQ112
        refine own_go st112 ?_
        have N139 := Fr.app N111 Nc138
        rw [Kc137] at hS
        show own_Go p e below s _ _ _ (T112.setTop (mkF m 67 #[.val (.long q1), .second, .val (.long q2), .second, .val (.int p3), .val (.int (0 : Int32)), .val (.ref w3), .val (.ref b11), .val (.int (1 : Int32)), .unset, .unset, .unset] [(.long q1)]))
        refine own_go (fun _ k => XS.lloadN X112.here hx rfl (hb hby at_67) rfl k) ?_
        show own_Go p e below s _ _ _ (T112.setTop (mkF m 68 #[.val (.long q1), .second, .val (.long q2), .second, .val (.int p3), .val (.int (0 : Int32)), .val (.ref w3), .val (.ref b11), .val (.int (1 : Int32)), .unset, .unset, .unset] [(.long q2), (.long q1)]))
        refine own_go (fun _ k => XS.lcmp X112.here hx rfl (hb hby at_68) rfl k) ?_
        show own_Go p e below s _ _ _ (T112.setTop (mkF m 69 #[.val (.long q1), .second, .val (.long q2), .second, .val (.int p3), .val (.int (0 : Int32)), .val (.ref w3), .val (.ref b11), .val (.int (1 : Int32)), .unset, .unset, .unset] [(.int (lcmpW q1 q2))]))
        by_cases hc140 : q1 = q2
        · refine own_go (fun _ k => XS.ifNo X112.here hx rfl (hb hby at_69) rfl ((if0 _ _).trans (teq ((lw_eq _ _).mpr hc140)).2) k) ?_
          show own_Go p e below s _ _ _ (T112.setTop (mkF m 72 #[.val (.long q1), .second, .val (.long q2), .second, .val (.int p3), .val (.int (0 : Int32)), .val (.ref w3), .val (.ref b11), .val (.int (1 : Int32)), .unset, .unset, .unset] []))
          refine own_go (fun _ k => XS.iconst X112.here hx rfl (hb hby at_72) k) ?_
          show own_Go p e below s _ _ _ (T112.setTop (mkF m 73 #[.val (.long q1), .second, .val (.long q2), .second, .val (.int p3), .val (.int (0 : Int32)), .val (.ref w3), .val (.ref b11), .val (.int (1 : Int32)), .unset, .unset, .unset] [(.int (1 : Int32))]))
          refine own_go (fun _ k => XS.goto X112.here hx rfl (pc0 := 73) (pc' := 77) rfl (hb hby at_73) (by decide) (by decide) k) ?_
          show own_Go p e below s _ _ _ (T112.setTop (mkF m 77 #[.val (.long q1), .second, .val (.long q2), .second, .val (.int p3), .val (.int (0 : Int32)), .val (.ref w3), .val (.ref b11), .val (.int (1 : Int32)), .unset, .unset, .unset] [(.int (1 : Int32))]))
          refine own_go (fun _ k => XS.istore X112.here hx rfl (hb hby at_77) rfl (l' := #[.val (.long q1), .second, .val (.long q2), .second, .val (.int p3), .val (.int (0 : Int32)), .val (.ref w3), .val (.ref b11), .val (.int (1 : Int32)), .val (.int (1 : Int32)), .unset, .unset]) rfl k) ?_
          show own_Go p e below s _ _ _ (T112.setTop (mkF m 79 #[.val (.long q1), .second, .val (.long q2), .second, .val (.int p3), .val (.int (0 : Int32)), .val (.ref w3), .val (.ref b11), .val (.int (1 : Int32)), .val (.int (1 : Int32)), .unset, .unset] []))
          refine own_go (fun _ k => XS.iload X112.here hx rfl (hb hby at_79) rfl k) ?_
          show own_Go p e below s _ _ _ (T112.setTop (mkF m 81 #[.val (.long q1), .second, .val (.long q2), .second, .val (.int p3), .val (.int (0 : Int32)), .val (.ref w3), .val (.ref b11), .val (.int (1 : Int32)), .val (.int (1 : Int32)), .unset, .unset] [(.int (1 : Int32))]))
          refine own_go (fun _ k => XS.iload X112.here hx rfl (hb hby at_81) rfl k) ?_
          show own_Go p e below s _ _ _ (T112.setTop (mkF m 83 #[.val (.long q1), .second, .val (.long q2), .second, .val (.int p3), .val (.int (0 : Int32)), .val (.ref w3), .val (.ref b11), .val (.int (1 : Int32)), .val (.int (1 : Int32)), .unset, .unset] [(.int (1 : Int32)), (.int (1 : Int32))]))
          refine own_go (fun _ k => XS.icmpYes X112.here hx rfl (pc0 := 83) (pc' := 88) rfl (hb hby at_83) rfl (teq (by decide : (1 : Int32) = (1 : Int32))).1 (by decide) (by decide) k) ?_
          show own_Go p e below s _ _ _ (T112.setTop (mkF m 88 #[.val (.long q1), .second, .val (.long q2), .second, .val (.int p3), .val (.int (0 : Int32)), .val (.ref w3), .val (.ref b11), .val (.int (1 : Int32)), .val (.int (1 : Int32)), .unset, .unset] []))
          refine own_go (fun _ k => XS.aload X112.here hx rfl (hb hby at_88) rfl rfl k) ?_
          show own_Go p e below s _ _ _ (T112.setTop (mkF m 90 #[.val (.long q1), .second, .val (.long q2), .second, .val (.int p3), .val (.int (0 : Int32)), .val (.ref w3), .val (.ref b11), .val (.int (1 : Int32)), .val (.int (1 : Int32)), .unset, .unset] [(.ref b11)]))
          refine own_go (fun _ k => XS.lloadN X112.here hx rfl (hb hby at_90) rfl k) ?_
          show own_Go p e below s _ _ _ (T112.setTop (mkF m 91 #[.val (.long q1), .second, .val (.long q2), .second, .val (.int p3), .val (.int (0 : Int32)), .val (.ref w3), .val (.ref b11), .val (.int (1 : Int32)), .val (.int (1 : Int32)), .unset, .unset] [(.long q1), (.ref b11)]))
          obtain ⟨v141, T141, L141, X141, hSn, hZn, hownn, hQ141, st141⟩ := own_callV (y := (⟨"com/example/countersign/countersign/server/Exchange", "expiredBy", "(J)Z"⟩ : MethodName)) (z := (⟨"com/example/countersign/countersign/server/Exchange", "expiredBy", "(J)Z"⟩ : MethodName)) X112 hS hx hZ hown (hw _ (List.mem_of_getElem? (i := 40) rfl)) (hw _ (List.mem_of_getElem? (i := 41) rfl)) (notFace_of_selects (args := #[]) (mvT hZ (hw _ (List.mem_of_getElem? (i := 43) rfl)))) (hw _ (List.mem_of_getElem? (i := 43) rfl)) (hw _ (List.mem_of_getElem? (i := 42) rfl)) (hw _ (List.mem_of_getElem? (i := 10) rfl)) (hw _ (List.mem_of_getElem? (i := 44) rfl)) (rm_expR l Z a0 hw oCa oBx [] b11 q1 w3 q1 T52.heap O72 f56 f62 f63) 0 0 0 rfl rfl (by decide) (by decide) (by decide) (by show _ ≤ 16; omega) (by show _ ≤ 1152; omega) Kc137 f53 (g := (mkF m 91 #[.val (.long q1), .second, .val (.long q2), .second, .val (.int p3), .val (.int (0 : Int32)), .val (.ref w3), .val (.ref b11), .val (.int (1 : Int32)), .val (.int (1 : Int32)), .unset, .unset] [(.long q1), (.ref b11)])) rfl (by rw [hml]; rfl) [(.long q1)] [] (lenOf own_pd_5 rfl) rfl rfl (by show 2 * 0 + _ ≤ _; exact Nat.le_of_eq rfl) (hb hby at_91)
          replace hS := hSn
          replace hZ := hZn
          replace hown := hownn
          clear hSn hZn hownn
          rcases hQ141 with hQ141 | hQ141
          · obtain ⟨rfl, Nc144, hp142, Kc143⟩ := hQ141
            refine own_go st141 ?_
            have N145 := Fr.app N139 Nc144
            rw [Kc143] at hS
            show own_Go p e below s _ _ _ (T141.setTop (mkF m 94 #[.val (.long q1), .second, .val (.long q2), .second, .val (.int p3), .val (.int (0 : Int32)), .val (.ref w3), .val (.ref b11), .val (.int (1 : Int32)), .val (.int (1 : Int32)), .unset, .unset] [(.int (0 : Int32))]))
            refine own_go (fun _ k => XS.istore X141.here hx rfl (hb hby at_94) rfl (l' := #[.val (.long q1), .second, .val (.long q2), .second, .val (.int p3), .val (.int (0 : Int32)), .val (.ref w3), .val (.ref b11), .val (.int (1 : Int32)), .val (.int (1 : Int32)), .val (.int (0 : Int32)), .unset]) rfl k) ?_
            show own_Go p e below s _ _ _ (T141.setTop (mkF m 96 #[.val (.long q1), .second, .val (.long q2), .second, .val (.int p3), .val (.int (0 : Int32)), .val (.ref w3), .val (.ref b11), .val (.int (1 : Int32)), .val (.int (1 : Int32)), .val (.int (0 : Int32)), .unset] []))
            refine own_go (fun _ k => XS.iload X141.here hx rfl (hb hby at_96) rfl k) ?_
            show own_Go p e below s _ _ _ (T141.setTop (mkF m 98 #[.val (.long q1), .second, .val (.long q2), .second, .val (.int p3), .val (.int (0 : Int32)), .val (.ref w3), .val (.ref b11), .val (.int (1 : Int32)), .val (.int (1 : Int32)), .val (.int (0 : Int32)), .unset] [(.int (0 : Int32))]))
            refine own_go (fun _ k => XS.iload X141.here hx rfl (hb hby at_98) rfl k) ?_
            show own_Go p e below s _ _ _ (T141.setTop (mkF m 100 #[.val (.long q1), .second, .val (.long q2), .second, .val (.int p3), .val (.int (0 : Int32)), .val (.ref w3), .val (.ref b11), .val (.int (1 : Int32)), .val (.int (1 : Int32)), .val (.int (0 : Int32)), .unset] [(.int (0 : Int32)), (.int (0 : Int32))]))
            refine own_go (fun _ k => XS.ifNo X141.here hx rfl (hb hby at_100) rfl ((if0 _ _).trans (teq (by decide : (0 : Int32) = (0 : Int32))).2) k) ?_
            show own_Go p e below s _ _ _ (T141.setTop (mkF m 103 #[.val (.long q1), .second, .val (.long q2), .second, .val (.int p3), .val (.int (0 : Int32)), .val (.ref w3), .val (.ref b11), .val (.int (1 : Int32)), .val (.int (1 : Int32)), .val (.int (0 : Int32)), .unset] [(.int (0 : Int32))]))
            refine own_go (fun _ k => XS.iconst X141.here hx rfl (hb hby at_103) k) ?_
            show own_Go p e below s _ _ _ (T141.setTop (mkF m 104 #[.val (.long q1), .second, .val (.long q2), .second, .val (.int p3), .val (.int (0 : Int32)), .val (.ref w3), .val (.ref b11), .val (.int (1 : Int32)), .val (.int (1 : Int32)), .val (.int (0 : Int32)), .unset] [(.int (1 : Int32)), (.int (0 : Int32))]))
            refine own_go (fun _ k => XS.goto X141.here hx rfl (pc0 := 104) (pc' := 108) rfl (hb hby at_104) (by decide) (by decide) k) ?_
            show own_Go p e below s _ _ _ (T141.setTop (mkF m 108 #[.val (.long q1), .second, .val (.long q2), .second, .val (.int p3), .val (.int (0 : Int32)), .val (.ref w3), .val (.ref b11), .val (.int (1 : Int32)), .val (.int (1 : Int32)), .val (.int (0 : Int32)), .unset] [(.int (1 : Int32)), (.int (0 : Int32))]))
            refine own_go (fun _ k => XS.icmpNo X141.here hx rfl (hb hby at_108) rfl (feq (by decide : ¬ ((0 : Int32) = (1 : Int32)))).1 k) ?_
            show own_Go p e below s _ _ _ (T141.setTop (mkF m 111 #[.val (.long q1), .second, .val (.long q2), .second, .val (.int p3), .val (.int (0 : Int32)), .val (.ref w3), .val (.ref b11), .val (.int (1 : Int32)), .val (.int (1 : Int32)), .val (.int (0 : Int32)), .unset] []))
            refine own_go (fun _ k => XS.iconst X141.here hx rfl (hb hby at_111) k) ?_
            show own_Go p e below s _ _ _ (T141.setTop (mkF m 112 #[.val (.long q1), .second, .val (.long q2), .second, .val (.int p3), .val (.int (0 : Int32)), .val (.ref w3), .val (.ref b11), .val (.int (1 : Int32)), .val (.int (1 : Int32)), .val (.int (0 : Int32)), .unset] [(.int (0 : Int32))]))
            refine own_retN X141 hS hx hlk Kc143 (t := .boolean) hret (by simp) (hb hby at_112) (by show _ ≤ 16; omega) (by show _ ≤ 1152; omega) ?_
            exfalso
            have ar0 := rng64 q2
            have ar1 := rng64 q1
            have ar2 := mt Int64.lt_iff_toInt_lt.mpr hp108
            have ar3 := rng64 q1
            have ar4 := rng64 q2
            have ar5 := mt Int64.lt_iff_toInt_lt.mpr hp136
            have ar6 := rng64 q1
            have ar7 := rng64 q2
            have ar8 := congrArg Int64.toInt hc140
            have ar9 := rng64 q1
            have ar10 := rng64 q1
            have ar11 := Int64.lt_iff_toInt_lt.mp hp142
            omega
          · obtain ⟨rfl, Nc148, hp146, Kc147⟩ := hQ141
            refine own_go st141 ?_
            have N149 := Fr.app N139 Nc148
            rw [Kc147] at hS
            show own_Go p e below s _ _ _ (T141.setTop (mkF m 94 #[.val (.long q1), .second, .val (.long q2), .second, .val (.int p3), .val (.int (0 : Int32)), .val (.ref w3), .val (.ref b11), .val (.int (1 : Int32)), .val (.int (1 : Int32)), .unset, .unset] [(.int (1 : Int32))]))
            refine own_go (fun _ k => XS.istore X141.here hx rfl (hb hby at_94) rfl (l' := #[.val (.long q1), .second, .val (.long q2), .second, .val (.int p3), .val (.int (0 : Int32)), .val (.ref w3), .val (.ref b11), .val (.int (1 : Int32)), .val (.int (1 : Int32)), .val (.int (1 : Int32)), .unset]) rfl k) ?_
            show own_Go p e below s _ _ _ (T141.setTop (mkF m 96 #[.val (.long q1), .second, .val (.long q2), .second, .val (.int p3), .val (.int (0 : Int32)), .val (.ref w3), .val (.ref b11), .val (.int (1 : Int32)), .val (.int (1 : Int32)), .val (.int (1 : Int32)), .unset] []))
            refine own_go (fun _ k => XS.iload X141.here hx rfl (hb hby at_96) rfl k) ?_
            show own_Go p e below s _ _ _ (T141.setTop (mkF m 98 #[.val (.long q1), .second, .val (.long q2), .second, .val (.int p3), .val (.int (0 : Int32)), .val (.ref w3), .val (.ref b11), .val (.int (1 : Int32)), .val (.int (1 : Int32)), .val (.int (1 : Int32)), .unset] [(.int (1 : Int32))]))
            refine own_go (fun _ k => XS.iload X141.here hx rfl (hb hby at_98) rfl k) ?_
            show own_Go p e below s _ _ _ (T141.setTop (mkF m 100 #[.val (.long q1), .second, .val (.long q2), .second, .val (.int p3), .val (.int (0 : Int32)), .val (.ref w3), .val (.ref b11), .val (.int (1 : Int32)), .val (.int (1 : Int32)), .val (.int (1 : Int32)), .unset] [(.int (0 : Int32)), (.int (1 : Int32))]))
            refine own_go (fun _ k => XS.ifNo X141.here hx rfl (hb hby at_100) rfl ((if0 _ _).trans (teq (by decide : (0 : Int32) = (0 : Int32))).2) k) ?_
            show own_Go p e below s _ _ _ (T141.setTop (mkF m 103 #[.val (.long q1), .second, .val (.long q2), .second, .val (.int p3), .val (.int (0 : Int32)), .val (.ref w3), .val (.ref b11), .val (.int (1 : Int32)), .val (.int (1 : Int32)), .val (.int (1 : Int32)), .unset] [(.int (1 : Int32))]))
            refine own_go (fun _ k => XS.iconst X141.here hx rfl (hb hby at_103) k) ?_
            show own_Go p e below s _ _ _ (T141.setTop (mkF m 104 #[.val (.long q1), .second, .val (.long q2), .second, .val (.int p3), .val (.int (0 : Int32)), .val (.ref w3), .val (.ref b11), .val (.int (1 : Int32)), .val (.int (1 : Int32)), .val (.int (1 : Int32)), .unset] [(.int (1 : Int32)), (.int (1 : Int32))]))
            refine own_go (fun _ k => XS.goto X141.here hx rfl (pc0 := 104) (pc' := 108) rfl (hb hby at_104) (by decide) (by decide) k) ?_
            show own_Go p e below s _ _ _ (T141.setTop (mkF m 108 #[.val (.long q1), .second, .val (.long q2), .second, .val (.int p3), .val (.int (0 : Int32)), .val (.ref w3), .val (.ref b11), .val (.int (1 : Int32)), .val (.int (1 : Int32)), .val (.int (1 : Int32)), .unset] [(.int (1 : Int32)), (.int (1 : Int32))]))
            refine own_go (fun _ k => XS.icmpYes X141.here hx rfl (pc0 := 108) (pc' := 113) rfl (hb hby at_108) rfl (teq (by decide : (1 : Int32) = (1 : Int32))).1 (by decide) (by decide) k) ?_
            show own_Go p e below s _ _ _ (T141.setTop (mkF m 113 #[.val (.long q1), .second, .val (.long q2), .second, .val (.int p3), .val (.int (0 : Int32)), .val (.ref w3), .val (.ref b11), .val (.int (1 : Int32)), .val (.int (1 : Int32)), .val (.int (1 : Int32)), .unset] []))
            refine own_go (fun _ k => XS.lloadN X141.here hx rfl (hb hby at_113) rfl k) ?_
            show own_Go p e below s _ _ _ (T141.setTop (mkF m 114 #[.val (.long q1), .second, .val (.long q2), .second, .val (.int p3), .val (.int (0 : Int32)), .val (.ref w3), .val (.ref b11), .val (.int (1 : Int32)), .val (.int (1 : Int32)), .val (.int (1 : Int32)), .unset] [(.long q1)]))
            refine own_go (X141.ldc2Long hx hown (mvT hZ (hw _ (List.mem_of_getElem? (i := 56) rfl))) (g := (mkF m 114 #[.val (.long q1), .second, .val (.long q2), .second, .val (.int p3), .val (.int (0 : Int32)), .val (.ref w3), .val (.ref b11), .val (.int (1 : Int32)), .val (.int (1 : Int32)), .val (.int (1 : Int32)), .unset] [(.long q1)])) rfl (hb hby at_114)) ?_
            show own_Go p e below s _ _ _ (T141.setTop (mkF m 117 #[.val (.long q1), .second, .val (.long q2), .second, .val (.int p3), .val (.int (0 : Int32)), .val (.ref w3), .val (.ref b11), .val (.int (1 : Int32)), .val (.int (1 : Int32)), .val (.int (1 : Int32)), .unset] [(.long (-9223372036854775808 : Int64)), (.long q1)]))
            refine own_go (fun _ k => XS.lcmp X141.here hx rfl (hb hby at_117) rfl k) ?_
            show own_Go p e below s _ _ _ (T141.setTop (mkF m 118 #[.val (.long q1), .second, .val (.long q2), .second, .val (.int p3), .val (.int (0 : Int32)), .val (.ref w3), .val (.ref b11), .val (.int (1 : Int32)), .val (.int (1 : Int32)), .val (.int (1 : Int32)), .unset] [(.int (lcmpW q1 (-9223372036854775808 : Int64)))]))
            by_cases hc150 : q1 = (-9223372036854775808 : Int64)
            · refine own_go (fun _ k => XS.ifYes X141.here hx rfl (pc0 := 118) (pc' := 138) rfl (hb hby at_118) rfl ((if0 _ _).trans (teq ((lw_eq _ _).mpr hc150)).1) (by decide) (by decide) k) ?_
              show own_Go p e below s _ _ _ (T141.setTop (mkF m 138 #[.val (.long q1), .second, .val (.long q2), .second, .val (.int p3), .val (.int (0 : Int32)), .val (.ref w3), .val (.ref b11), .val (.int (1 : Int32)), .val (.int (1 : Int32)), .val (.int (1 : Int32)), .unset] []))
              refine own_go (fun _ k => XS.iconst X141.here hx rfl (hb hby at_138) k) ?_
              show own_Go p e below s _ _ _ (T141.setTop (mkF m 139 #[.val (.long q1), .second, .val (.long q2), .second, .val (.int p3), .val (.int (0 : Int32)), .val (.ref w3), .val (.ref b11), .val (.int (1 : Int32)), .val (.int (1 : Int32)), .val (.int (1 : Int32)), .unset] [(.int (1 : Int32))]))
              refine own_retN X141 hS hx hlk Kc147 (t := .boolean) hret (by simp) (hb hby at_139) (by show _ ≤ 16; omega) (by show _ ≤ 1152; omega) ?_
              exact ⟨rfl, N149, K73⟩
            · refine own_go (fun _ k => XS.ifNo X141.here hx rfl (hb hby at_118) rfl ((if0 _ _).trans (feq (fun q => hc150 ((lw_eq _ _).mp q))).1) k) ?_
              show own_Go p e below s _ _ _ (T141.setTop (mkF m 121 #[.val (.long q1), .second, .val (.long q2), .second, .val (.int p3), .val (.int (0 : Int32)), .val (.ref w3), .val (.ref b11), .val (.int (1 : Int32)), .val (.int (1 : Int32)), .val (.int (1 : Int32)), .unset] []))
              refine own_go (fun _ k => XS.aload X141.here hx rfl (hb hby at_121) rfl rfl k) ?_
              show own_Go p e below s _ _ _ (T141.setTop (mkF m 123 #[.val (.long q1), .second, .val (.long q2), .second, .val (.int p3), .val (.int (0 : Int32)), .val (.ref w3), .val (.ref b11), .val (.int (1 : Int32)), .val (.int (1 : Int32)), .val (.int (1 : Int32)), .unset] [(.ref b11)]))
              refine own_go (fun _ k => XS.lloadN X141.here hx rfl (hb hby at_123) rfl k) ?_
              show own_Go p e below s _ _ _ (T141.setTop (mkF m 124 #[.val (.long q1), .second, .val (.long q2), .second, .val (.int p3), .val (.int (0 : Int32)), .val (.ref w3), .val (.ref b11), .val (.int (1 : Int32)), .val (.int (1 : Int32)), .val (.int (1 : Int32)), .unset] [(.long q1), (.ref b11)]))
              refine own_go (fun _ k => XS.lconst X141.here hx rfl (hb hby at_124) k) ?_
              show own_Go p e below s _ _ _ (T141.setTop (mkF m 125 #[.val (.long q1), .second, .val (.long q2), .second, .val (.int p3), .val (.int (0 : Int32)), .val (.ref w3), .val (.ref b11), .val (.int (1 : Int32)), .val (.int (1 : Int32)), .val (.int (1 : Int32)), .unset] [(.long (1 : Int64)), (.long q1), (.ref b11)]))
              refine own_go (fun _ k => XS.lsub X141.here hx rfl (hb hby at_125) rfl k) ?_
              show own_Go p e below s _ _ _ (T141.setTop (mkF m 126 #[.val (.long q1), .second, .val (.long q2), .second, .val (.int p3), .val (.int (0 : Int32)), .val (.ref w3), .val (.ref b11), .val (.int (1 : Int32)), .val (.int (1 : Int32)), .val (.int (1 : Int32)), .unset] [(.long (q1 - (1 : Int64))), (.ref b11)]))
              obtain ⟨v151, T151, L151, X151, hSn, hZn, hownn, hQ151, st151⟩ := own_callV (y := (⟨"com/example/countersign/countersign/server/Exchange", "expiredBy", "(J)Z"⟩ : MethodName)) (z := (⟨"com/example/countersign/countersign/server/Exchange", "expiredBy", "(J)Z"⟩ : MethodName)) X141 hS hx hZ hown (hw _ (List.mem_of_getElem? (i := 40) rfl)) (hw _ (List.mem_of_getElem? (i := 41) rfl)) (notFace_of_selects (args := #[]) (mvT hZ (hw _ (List.mem_of_getElem? (i := 43) rfl)))) (hw _ (List.mem_of_getElem? (i := 43) rfl)) (hw _ (List.mem_of_getElem? (i := 42) rfl)) (hw _ (List.mem_of_getElem? (i := 10) rfl)) (hw _ (List.mem_of_getElem? (i := 44) rfl)) (rm_expR l Z a0 hw oCa oBx [] b11 (q1 - (1 : Int64)) w3 q1 T52.heap O72 f56 f62 f63) 0 0 0 rfl rfl (by decide) (by decide) (by decide) (by show _ ≤ 16; omega) (by show _ ≤ 1152; omega) Kc147 f53 (g := (mkF m 126 #[.val (.long q1), .second, .val (.long q2), .second, .val (.int p3), .val (.int (0 : Int32)), .val (.ref w3), .val (.ref b11), .val (.int (1 : Int32)), .val (.int (1 : Int32)), .val (.int (1 : Int32)), .unset] [(.long (q1 - (1 : Int64))), (.ref b11)])) rfl (by rw [hml]; rfl) [(.long (q1 - (1 : Int64)))] [] (lenOf own_pd_5 rfl) rfl rfl (by show 2 * 0 + _ ≤ _; exact Nat.le_of_eq rfl) (hb hby at_126)
              replace hS := hSn
              replace hZ := hZn
              replace hown := hownn
              clear hSn hZn hownn
              rcases hQ151 with hQ151 | hQ151
              · obtain ⟨rfl, Nc154, hp152, Kc153⟩ := hQ151
                refine own_go st151 ?_
                have N155 := Fr.app N149 Nc154
                rw [Kc153] at hS
                show own_Go p e below s _ _ _ (T151.setTop (mkF m 129 #[.val (.long q1), .second, .val (.long q2), .second, .val (.int p3), .val (.int (0 : Int32)), .val (.ref w3), .val (.ref b11), .val (.int (1 : Int32)), .val (.int (1 : Int32)), .val (.int (1 : Int32)), .unset] [(.int (0 : Int32))]))
                refine own_go (fun _ k => XS.istore X151.here hx rfl (hb hby at_129) rfl (l' := #[.val (.long q1), .second, .val (.long q2), .second, .val (.int p3), .val (.int (0 : Int32)), .val (.ref w3), .val (.ref b11), .val (.int (1 : Int32)), .val (.int (1 : Int32)), .val (.int (1 : Int32)), .val (.int (0 : Int32))]) rfl k) ?_
                show own_Go p e below s _ _ _ (T151.setTop (mkF m 131 #[.val (.long q1), .second, .val (.long q2), .second, .val (.int p3), .val (.int (0 : Int32)), .val (.ref w3), .val (.ref b11), .val (.int (1 : Int32)), .val (.int (1 : Int32)), .val (.int (1 : Int32)), .val (.int (0 : Int32))] []))
                refine own_go (fun _ k => XS.iload X151.here hx rfl (hb hby at_131) rfl k) ?_
                show own_Go p e below s _ _ _ (T151.setTop (mkF m 133 #[.val (.long q1), .second, .val (.long q2), .second, .val (.int p3), .val (.int (0 : Int32)), .val (.ref w3), .val (.ref b11), .val (.int (1 : Int32)), .val (.int (1 : Int32)), .val (.int (1 : Int32)), .val (.int (0 : Int32))] [(.int (0 : Int32))]))
                refine own_go (fun _ k => XS.ifYes X151.here hx rfl (pc0 := 133) (pc' := 138) rfl (hb hby at_133) rfl ((if0 _ _).trans (teq (by decide : (0 : Int32) = (0 : Int32))).1) (by decide) (by decide) k) ?_
                show own_Go p e below s _ _ _ (T151.setTop (mkF m 138 #[.val (.long q1), .second, .val (.long q2), .second, .val (.int p3), .val (.int (0 : Int32)), .val (.ref w3), .val (.ref b11), .val (.int (1 : Int32)), .val (.int (1 : Int32)), .val (.int (1 : Int32)), .val (.int (0 : Int32))] []))
                refine own_go (fun _ k => XS.iconst X151.here hx rfl (hb hby at_138) k) ?_
                show own_Go p e below s _ _ _ (T151.setTop (mkF m 139 #[.val (.long q1), .second, .val (.long q2), .second, .val (.int p3), .val (.int (0 : Int32)), .val (.ref w3), .val (.ref b11), .val (.int (1 : Int32)), .val (.int (1 : Int32)), .val (.int (1 : Int32)), .val (.int (0 : Int32))] [(.int (1 : Int32))]))
                refine own_retN X151 hS hx hlk Kc153 (t := .boolean) hret (by simp) (hb hby at_139) (by show _ ≤ 16; omega) (by show _ ≤ 1152; omega) ?_
                exact ⟨rfl, N155, K73⟩
              · obtain ⟨rfl, Nc158, hp156, Kc157⟩ := hQ151
                refine own_go st151 ?_
                have N159 := Fr.app N149 Nc158
                rw [Kc157] at hS
                show own_Go p e below s _ _ _ (T151.setTop (mkF m 129 #[.val (.long q1), .second, .val (.long q2), .second, .val (.int p3), .val (.int (0 : Int32)), .val (.ref w3), .val (.ref b11), .val (.int (1 : Int32)), .val (.int (1 : Int32)), .val (.int (1 : Int32)), .unset] [(.int (1 : Int32))]))
                refine own_go (fun _ k => XS.istore X151.here hx rfl (hb hby at_129) rfl (l' := #[.val (.long q1), .second, .val (.long q2), .second, .val (.int p3), .val (.int (0 : Int32)), .val (.ref w3), .val (.ref b11), .val (.int (1 : Int32)), .val (.int (1 : Int32)), .val (.int (1 : Int32)), .val (.int (1 : Int32))]) rfl k) ?_
                show own_Go p e below s _ _ _ (T151.setTop (mkF m 131 #[.val (.long q1), .second, .val (.long q2), .second, .val (.int p3), .val (.int (0 : Int32)), .val (.ref w3), .val (.ref b11), .val (.int (1 : Int32)), .val (.int (1 : Int32)), .val (.int (1 : Int32)), .val (.int (1 : Int32))] []))
                refine own_go (fun _ k => XS.iload X151.here hx rfl (hb hby at_131) rfl k) ?_
                show own_Go p e below s _ _ _ (T151.setTop (mkF m 133 #[.val (.long q1), .second, .val (.long q2), .second, .val (.int p3), .val (.int (0 : Int32)), .val (.ref w3), .val (.ref b11), .val (.int (1 : Int32)), .val (.int (1 : Int32)), .val (.int (1 : Int32)), .val (.int (1 : Int32))] [(.int (1 : Int32))]))
                refine own_go (fun _ k => XS.ifNo X151.here hx rfl (hb hby at_133) rfl ((if0 _ _).trans (feq (by decide : ¬ ((1 : Int32) = (0 : Int32)))).1) k) ?_
                show own_Go p e below s _ _ _ (T151.setTop (mkF m 136 #[.val (.long q1), .second, .val (.long q2), .second, .val (.int p3), .val (.int (0 : Int32)), .val (.ref w3), .val (.ref b11), .val (.int (1 : Int32)), .val (.int (1 : Int32)), .val (.int (1 : Int32)), .val (.int (1 : Int32))] []))
                refine own_go (fun _ k => XS.iconst X151.here hx rfl (hb hby at_136) k) ?_
                show own_Go p e below s _ _ _ (T151.setTop (mkF m 137 #[.val (.long q1), .second, .val (.long q2), .second, .val (.int p3), .val (.int (0 : Int32)), .val (.ref w3), .val (.ref b11), .val (.int (1 : Int32)), .val (.int (1 : Int32)), .val (.int (1 : Int32)), .val (.int (1 : Int32))] [(.int (0 : Int32))]))
                refine own_retN X151 hS hx hlk Kc157 (t := .boolean) hret (by simp) (hb hby at_137) (by show _ ≤ 16; omega) (by show _ ≤ 1152; omega) ?_
                exfalso
                have ar0 := rng64 q2
                have ar1 := rng64 q1
                have ar2 := mt Int64.lt_iff_toInt_lt.mpr hp108
                have ar3 := rng64 q1
                have ar4 := rng64 q2
                have ar5 := mt Int64.lt_iff_toInt_lt.mpr hp136
                have ar6 := rng64 q1
                have ar7 := rng64 q2
                have ar8 := congrArg Int64.toInt hc140
                have ar9 := rng64 q1
                have ar10 := rng64 q1
                have ar11 := mt Int64.lt_iff_toInt_lt.mpr hp146
                have ar12 := rng64 q1
                have ar13 : (-9223372036854775808 : Int64).toInt = -9223372036854775808 := by decide
                have ar14 := mt Int64.toInt_inj.mp hc150
                have ar15 := rng64 q1
                have ar16 : (1 : Int64).toInt = 1 := by decide
                have ar17 := c_lsub q1 (1 : Int64)
                have ar18 := rng64 (q1 - (1 : Int64))
                have ar19 := rng64 q1
                have ar20 := mt Int64.lt_iff_toInt_lt.mpr hp156
                omega
        · refine own_go (fun _ k => XS.ifYes X112.here hx rfl (pc0 := 69) (pc' := 76) rfl (hb hby at_69) rfl ((if0 _ _).trans (feq (fun q => hc140 ((lw_eq _ _).mp q))).2) (by decide) (by decide) k) ?_
          show own_Go p e below s _ _ _ (T112.setTop (mkF m 76 #[.val (.long q1), .second, .val (.long q2), .second, .val (.int p3), .val (.int (0 : Int32)), .val (.ref w3), .val (.ref b11), .val (.int (1 : Int32)), .unset, .unset, .unset] []))
          refine own_go (fun _ k => XS.iconst X112.here hx rfl (hb hby at_76) k) ?_
          show own_Go p e below s _ _ _ (T112.setTop (mkF m 77 #[.val (.long q1), .second, .val (.long q2), .second, .val (.int p3), .val (.int (0 : Int32)), .val (.ref w3), .val (.ref b11), .val (.int (1 : Int32)), .unset, .unset, .unset] [(.int (0 : Int32))]))
          refine own_go (fun _ k => XS.istore X112.here hx rfl (hb hby at_77) rfl (l' := #[.val (.long q1), .second, .val (.long q2), .second, .val (.int p3), .val (.int (0 : Int32)), .val (.ref w3), .val (.ref b11), .val (.int (1 : Int32)), .val (.int (0 : Int32)), .unset, .unset]) rfl k) ?_
          show own_Go p e below s _ _ _ (T112.setTop (mkF m 79 #[.val (.long q1), .second, .val (.long q2), .second, .val (.int p3), .val (.int (0 : Int32)), .val (.ref w3), .val (.ref b11), .val (.int (1 : Int32)), .val (.int (0 : Int32)), .unset, .unset] []))
          refine own_go (fun _ k => XS.iload X112.here hx rfl (hb hby at_79) rfl k) ?_
          show own_Go p e below s _ _ _ (T112.setTop (mkF m 81 #[.val (.long q1), .second, .val (.long q2), .second, .val (.int p3), .val (.int (0 : Int32)), .val (.ref w3), .val (.ref b11), .val (.int (1 : Int32)), .val (.int (0 : Int32)), .unset, .unset] [(.int (1 : Int32))]))
          refine own_go (fun _ k => XS.iload X112.here hx rfl (hb hby at_81) rfl k) ?_
          show own_Go p e below s _ _ _ (T112.setTop (mkF m 83 #[.val (.long q1), .second, .val (.long q2), .second, .val (.int p3), .val (.int (0 : Int32)), .val (.ref w3), .val (.ref b11), .val (.int (1 : Int32)), .val (.int (0 : Int32)), .unset, .unset] [(.int (0 : Int32)), (.int (1 : Int32))]))
          refine own_go (fun _ k => XS.icmpNo X112.here hx rfl (hb hby at_83) rfl (feq (by decide : ¬ ((1 : Int32) = (0 : Int32)))).1 k) ?_
          show own_Go p e below s _ _ _ (T112.setTop (mkF m 86 #[.val (.long q1), .second, .val (.long q2), .second, .val (.int p3), .val (.int (0 : Int32)), .val (.ref w3), .val (.ref b11), .val (.int (1 : Int32)), .val (.int (0 : Int32)), .unset, .unset] []))
          refine own_go (fun _ k => XS.iconst X112.here hx rfl (hb hby at_86) k) ?_
          show own_Go p e below s _ _ _ (T112.setTop (mkF m 87 #[.val (.long q1), .second, .val (.long q2), .second, .val (.int p3), .val (.int (0 : Int32)), .val (.ref w3), .val (.ref b11), .val (.int (1 : Int32)), .val (.int (0 : Int32)), .unset, .unset] [(.int (0 : Int32))]))
          refine own_retN X112 hS hx hlk Kc137 (t := .boolean) hret (by simp) (hb hby at_87) (by show _ ≤ 16; omega) (by show _ ≤ 1152; omega) ?_
          exfalso
          have ar0 := rng64 q2
          have ar1 := rng64 q1
          have ar2 := mt Int64.lt_iff_toInt_lt.mpr hp108
          have ar3 := rng64 q1
          have ar4 := rng64 q2
          have ar5 := mt Int64.lt_iff_toInt_lt.mpr hp136
          have ar6 := rng64 q1
          have ar7 := rng64 q2
          have ar8 := mt Int64.toInt_inj.mp hc140
          omega
  · refine own_go (fun _ k => XS.ifNo X0.here hx rfl (hb hby at_4) rfl ((if0 _ _).trans (feq hc1).1) k) ?_
    show own_Go p e below s _ _ _ (T.setTop (mkF m 7 #[.val (.long q1), .second, .val (.long q2), .second, .val (.int p3), .unset, .unset, .unset, .unset, .unset, .unset, .unset] []))
    refine own_go (fun _ k => XS.iconst X0.here hx rfl (hb hby at_7) k) ?_
    show own_Go p e below s _ _ _ (T.setTop (mkF m 8 #[.val (.long q1), .second, .val (.long q2), .second, .val (.int p3), .unset, .unset, .unset, .unset, .unset, .unset, .unset] [(.int (1 : Int32))]))
    refine own_go (fun _ k => XS.goto X0.here hx rfl (pc0 := 8) (pc' := 12) rfl (hb hby at_8) (by decide) (by decide) k) ?_
    show own_Go p e below s _ _ _ (T.setTop (mkF m 12 #[.val (.long q1), .second, .val (.long q2), .second, .val (.int p3), .unset, .unset, .unset, .unset, .unset, .unset, .unset] [(.int (1 : Int32))]))
    refine own_go (fun _ k => XS.istore X0.here hx rfl (hb hby at_12) rfl (l' := #[.val (.long q1), .second, .val (.long q2), .second, .val (.int p3), .val (.int (1 : Int32)), .unset, .unset, .unset, .unset, .unset, .unset]) rfl k) ?_
    show own_Go p e below s _ _ _ (T.setTop (mkF m 14 #[.val (.long q1), .second, .val (.long q2), .second, .val (.int p3), .val (.int (1 : Int32)), .unset, .unset, .unset, .unset, .unset, .unset] []))
    refine own_go (fun _ k => XS.iload X0.here hx rfl (hb hby at_14) rfl k) ?_
    show own_Go p e below s _ _ _ (T.setTop (mkF m 16 #[.val (.long q1), .second, .val (.long q2), .second, .val (.int p3), .val (.int (1 : Int32)), .unset, .unset, .unset, .unset, .unset, .unset] [(.int (1 : Int32))]))
    refine own_go (fun _ k => XS.ifNo X0.here hx rfl (hb hby at_16) rfl ((if0 _ _).trans (feq (by decide : ¬ ((1 : Int32) = (0 : Int32)))).1) k) ?_
    show own_Go p e below s _ _ _ (T.setTop (mkF m 19 #[.val (.long q1), .second, .val (.long q2), .second, .val (.int p3), .val (.int (1 : Int32)), .unset, .unset, .unset, .unset, .unset, .unset] []))
    refine own_go (fun _ k => XS.aconstNull X0.here hx rfl (hb hby at_19) k) ?_
    show own_Go p e below s _ _ _ (T.setTop (mkF m 20 #[.val (.long q1), .second, .val (.long q2), .second, .val (.int p3), .val (.int (1 : Int32)), .unset, .unset, .unset, .unset, .unset, .unset] [.null]))
    refine own_go (fun _ k => XS.goto X0.here hx rfl (pc0 := 20) (pc' := 27) rfl (hb hby at_20) (by decide) (by decide) k) ?_
    show own_Go p e below s _ _ _ (T.setTop (mkF m 27 #[.val (.long q1), .second, .val (.long q2), .second, .val (.int p3), .val (.int (1 : Int32)), .unset, .unset, .unset, .unset, .unset, .unset] [.null]))
    refine own_go (fun _ k => XS.astore X0.here hx rfl (hb hby at_27) rfl rfl (l' := #[.val (.long q1), .second, .val (.long q2), .second, .val (.int p3), .val (.int (1 : Int32)), .val .null, .unset, .unset, .unset, .unset, .unset]) rfl k) ?_
    show own_Go p e below s _ _ _ (T.setTop (mkF m 29 #[.val (.long q1), .second, .val (.long q2), .second, .val (.int p3), .val (.int (1 : Int32)), .val .null, .unset, .unset, .unset, .unset, .unset] []))
    obtain ⟨T160, h160, X160, e160, E160, A160, D160, -, st160⟩ := newO X0 hx hZ hown (hw _ (List.mem_of_getElem? (i := 8) rfl)) (hw _ (List.mem_of_getElem? (i := 9) rfl)) (hw _ (List.mem_of_getElem? (i := 10) rfl)) e0 (g := (mkF m 29 #[.val (.long q1), .second, .val (.long q2), .second, .val (.int p3), .val (.int (1 : Int32)), .val .null, .unset, .unset, .unset, .unset, .unset] [])) rfl (hb hby at_29) (by show _ ≤ 16; omega) (by show _ ≤ 1152; omega)
    obtain ⟨b160, g160⟩ : ∃ z, z = h0.size := ⟨_, rfl⟩
    rw [← g160] at A160 D160 st160
    refine own_go st160 ?_
    have ge160 := Nat.le_of_eq g160.symm
    have big161 : Z.heap.size ≤ b160 := Nat.le_trans O0.1 ge160
    have sz162 : h0.size ≤ b160 := Nat.le_trans K0.1 ge160
    have O163 := own_oldExt O0 E160
    replace hS := own_since hS E160.1
    have K164 := K0.ext E160
    have f165 : Fld Z h160 b160 "com/example/countersign/countersign/server/Exchange" "artefact" "Ljava/lang/String;" .null := D160 (Or.inr (hw _ (List.mem_of_getElem? (i := 31) rfl))) (ty := (.object "java/lang/String")) (by decide)
    have f166 : Fld Z h160 b160 "com/example/countersign/countersign/server/Exchange" "activatedAt" "Ljava/lang/Long;" .null := D160 (Or.inr (hw _ (List.mem_of_getElem? (i := 33) rfl))) (ty := (.object "java/lang/Long")) (by decide)
    have f167 : Fld Z h160 b160 "com/example/countersign/countersign/server/Exchange" "expiresAt" "Ljava/lang/Long;" .null := D160 (Or.inr (hw _ (List.mem_of_getElem? (i := 35) rfl))) (ty := (.object "java/lang/Long")) (by decide)
    have f168 : Fld Z h160 b160 "com/example/countersign/countersign/server/Exchange" "refreshAt" "Ljava/lang/Long;" .null := D160 (Or.inr (hw _ (List.mem_of_getElem? (i := 37) rfl))) (ty := (.object "java/lang/Long")) (by decide)
    have f169 : Fld Z h160 b160 "com/example/countersign/countersign/server/Exchange" "failure" "Ljava/lang/String;" .null := D160 (Or.inr (hw _ (List.mem_of_getElem? (i := 39) rfl))) (ty := (.object "java/lang/String")) (by decide)
    show own_Go p e below s _ _ _ (T160.setTop (mkF m 32 #[.val (.long q1), .second, .val (.long q2), .second, .val (.int p3), .val (.int (1 : Int32)), .val .null, .unset, .unset, .unset, .unset, .unset] [(.ref b160)]))
    refine own_go (fun _ k => XS.dup X160.here hx rfl (hb hby at_32) rfl rfl k) ?_
    show own_Go p e below s _ _ _ (T160.setTop (mkF m 33 #[.val (.long q1), .second, .val (.long q2), .second, .val (.int p3), .val (.int (1 : Int32)), .val .null, .unset, .unset, .unset, .unset, .unset] [(.ref b160), (.ref b160)]))
    obtain ⟨b170, T170, h170, k170, X170, e170, E170, hSn, hkn, hZn, hownn, st170⟩ := ldcS X160 hx hZ hown (hw _ (List.mem_of_getElem? (i := 11) rfl)) (own_wS hw) e160 hS (Nat.le_refl _) (g := (mkF m 33 #[.val (.long q1), .second, .val (.long q2), .second, .val (.int p3), .val (.int (1 : Int32)), .val .null, .unset, .unset, .unset, .unset, .unset] [(.ref b160), (.ref b160)])) rfl (hb hby at_33) (n := 4) (by decide) (by decide) (by show _ ≤ 16; omega) (by show _ ≤ 1152; omega)
    refine own_go st170 ?_
    replace hS := own_since hSn hkn
    replace hZ := hZn
    replace hown := hownn
    clear hSn hZn hownn
    have f171 : Exa Z h170 b160 "com/example/countersign/countersign/server/Exchange" := A160.ext E170
    have f172 : Fld Z h170 b160 "com/example/countersign/countersign/server/Exchange" "artefact" "Ljava/lang/String;" .null := f165.ext E170
    have f173 : Fld Z h170 b160 "com/example/countersign/countersign/server/Exchange" "activatedAt" "Ljava/lang/Long;" .null := f166.ext E170
    have f174 : Fld Z h170 b160 "com/example/countersign/countersign/server/Exchange" "expiresAt" "Ljava/lang/Long;" .null := f167.ext E170
    have f175 : Fld Z h170 b160 "com/example/countersign/countersign/server/Exchange" "refreshAt" "Ljava/lang/Long;" .null := f168.ext E170
    have f176 : Fld Z h170 b160 "com/example/countersign/countersign/server/Exchange" "failure" "Ljava/lang/String;" .null := f169.ext E170
    have O177 := own_oldExt O163 E170
    have K178 := K164.ext E170
    show own_Go p e below s _ _ _ (T170.setTop (mkF m 35 #[.val (.long q1), .second, .val (.long q2), .second, .val (.int p3), .val (.int (1 : Int32)), .val .null, .unset, .unset, .unset, .unset, .unset] [(.ref b170), (.ref b160), (.ref b160)]))
    refine own_go (fun _ k => XS.lconst X170.here hx rfl (hb hby at_35) k) ?_
    show own_Go p e below s _ _ _ (T170.setTop (mkF m 36 #[.val (.long q1), .second, .val (.long q2), .second, .val (.int p3), .val (.int (1 : Int32)), .val .null, .unset, .unset, .unset, .unset, .unset] [(.long (0 : Int64)), (.ref b170), (.ref b160), (.ref b160)]))
    obtain ⟨v179, T179, L179, X179, hSn, hZn, hownn, hQ179, st179⟩ := own_callS (y := (⟨"java/lang/Long", "valueOf", "(J)Ljava/lang/Long;"⟩ : MethodName)) X170 hS hx hZ hown (hw _ (List.mem_of_getElem? (i := 0) rfl)) (hw _ (List.mem_of_getElem? (i := 1) rfl)) (hw _ (List.mem_of_getElem? (i := 2) rfl)) (hw _ (List.mem_of_getElem? (i := 3) rfl)) (rm_valueOf l Z a0 hw oCa oBx [] (0 : Int64) h170 O177) 3 1 1 rfl rfl (by decide) (by decide) (by decide) (by show _ ≤ 16; omega) (by show _ ≤ 1152; omega) e170 (g := (mkF m 36 #[.val (.long q1), .second, .val (.long q2), .second, .val (.int p3), .val (.int (1 : Int32)), .val .null, .unset, .unset, .unset, .unset, .unset] [(.long (0 : Int64)), (.ref b170), (.ref b160), (.ref b160)])) rfl (by rw [hml]; rfl) [(.long (0 : Int64))] [(.ref b170), (.ref b160), (.ref b160)] (lenOf own_pd_3 rfl) rfl rfl (by show 2 * 0 + _ ≤ _; exact Nat.le_of_eq rfl) (hb hby at_36)
    replace hS := hSn
    replace hZ := hZn
    replace hown := hownn
    clear hSn hZn hownn
    obtain ⟨w180, rfl, Nc184, Kc183, f181, f182⟩ := hQ179
    refine own_go st179 ?_
    have N185 := Fr.app N0 Nc184
    have f186 : Exa Z T179.heap b160 "com/example/countersign/countersign/server/Exchange" := f171.keep Kc183
    have f187 : Fld Z T179.heap b160 "com/example/countersign/countersign/server/Exchange" "artefact" "Ljava/lang/String;" .null := f172.keep Kc183 nin0
    have f188 : Fld Z T179.heap b160 "com/example/countersign/countersign/server/Exchange" "activatedAt" "Ljava/lang/Long;" .null := f173.keep Kc183 nin0
    have f189 : Fld Z T179.heap b160 "com/example/countersign/countersign/server/Exchange" "expiresAt" "Ljava/lang/Long;" .null := f174.keep Kc183 nin0
    have f190 : Fld Z T179.heap b160 "com/example/countersign/countersign/server/Exchange" "refreshAt" "Ljava/lang/Long;" .null := f175.keep Kc183 nin0
    have f191 : Fld Z T179.heap b160 "com/example/countersign/countersign/server/Exchange" "failure" "Ljava/lang/String;" .null := f176.keep Kc183 nin0
    have O192 := own_oldKeep O177 Kc183 all0
    have K193 : Keep h0 T179.heap [] := K178.trans Kc183 all0
    show own_Go p e below s _ _ _ (T179.setTop (mkF m 39 #[.val (.long q1), .second, .val (.long q2), .second, .val (.int p3), .val (.int (1 : Int32)), .val .null, .unset, .unset, .unset, .unset, .unset] [(.ref w180), (.ref b170), (.ref b160), (.ref b160)]))
    refine own_go (fun _ k => XS.aload X179.here hx rfl (hb hby at_39) rfl rfl k) ?_
    show own_Go p e below s _ _ _ (T179.setTop (mkF m 41 #[.val (.long q1), .second, .val (.long q2), .second, .val (.int p3), .val (.int (1 : Int32)), .val .null, .unset, .unset, .unset, .unset, .unset] [.null, (.ref w180), (.ref b170), (.ref b160), (.ref b160)]))
    refine own_go (fun _ k => XS.aload X179.here hx rfl (hb hby at_41) rfl rfl k) ?_
    show own_Go p e below s _ _ _ (T179.setTop (mkF m 43 #[.val (.long q1), .second, .val (.long q2), .second, .val (.int p3), .val (.int (1 : Int32)), .val .null, .unset, .unset, .unset, .unset, .unset] [.null, .null, (.ref w180), (.ref b170), (.ref b160), (.ref b160)]))
    refine own_go (fun _ k => XS.aconstNull X179.here hx rfl (hb hby at_43) k) ?_
    show own_Go p e below s _ _ _ (T179.setTop (mkF m 44 #[.val (.long q1), .second, .val (.long q2), .second, .val (.int p3), .val (.int (1 : Int32)), .val .null, .unset, .unset, .unset, .unset, .unset] [.null, .null, .null, (.ref w180), (.ref b170), (.ref b160), (.ref b160)]))
    obtain ⟨v194, T194, L194, X194, hSn, hZn, hownn, hQ194, st194⟩ := own_callI (y := (⟨"com/example/countersign/countersign/server/Exchange", "<init>", "(Ljava/lang/String;Ljava/lang/Long;Ljava/lang/Long;Ljava/lang/Long;Ljava/lang/String;)V"⟩ : MethodName)) X179 hS hx hZ hown (hw _ (List.mem_of_getElem? (i := 19) rfl)) (hw _ (List.mem_of_getElem? (i := 20) rfl)) (hw _ (List.mem_of_getElem? (i := 10) rfl)) (hw _ (List.mem_of_getElem? (i := 21) rfl)) (rm_xinit l Z a0 hw oCa oBx [] b160 (.ref b170) (.ref w180) .null .null .null T179.heap O192 (rfl : ((.ref b170) : Value).isRef = true) (rfl : ((.ref w180) : Value).isRef = true) (rfl : (.null : Value).isRef = true) (rfl : (.null : Value).isRef = true) (rfl : (.null : Value).isRef = true) f186 f187 f188 f189 f190 f191 big161) 1 0 0 rfl rfl rfl (by decide) (by decide) (by decide) (by show _ ≤ 16; omega) (by show _ ≤ 1152; omega) (rfl : T179.heap = T179.heap) (g := (mkF m 44 #[.val (.long q1), .second, .val (.long q2), .second, .val (.int p3), .val (.int (1 : Int32)), .val .null, .unset, .unset, .unset, .unset, .unset] [.null, .null, .null, (.ref w180), (.ref b170), (.ref b160), (.ref b160)])) rfl (by rw [hml]; rfl) b160 [(.ref b170), (.ref w180), .null, .null, .null] [(.ref b160)] (lenOf own_pd_4 rfl) rfl rfl (by show 2 * 0 + _ ≤ _; exact Nat.le_of_eq rfl) (hb hby at_44)
    replace hS := hSn
    replace hZ := hZn
    replace hown := hownn
    clear hSn hZn hownn
    obtain ⟨rfl, Nc202, Kc201, f195, f196, f197, f198, f199, f200⟩ := hQ194
    refine own_go st194 ?_
    have N203 := Fr.app N185 Nc202
    have f204 : Exa Z T194.heap b160 "com/example/countersign/countersign/server/Exchange" := f186.keep Kc201
    have f210 : Exa Z T194.heap w180 "java/lang/Long" := f181.keep Kc201
    have f211 : Fld Z T194.heap w180 "java/lang/Long" "value" "J" (.long (0 : Int64)) := f182.keep Kc201 (ninS (ne_exa f181 f186 (by decide)) nin0)
    have O212 := own_oldKeep O192 Kc201 (allS big161 all0)
    have K213 : Keep h0 T194.heap [] := K193.trans Kc201 (allS (Or.inr sz162) all0)
    show own_Go p e below s _ _ _ (T194.setTop (mkF m 47 #[.val (.long q1), .second, .val (.long q2), .second, .val (.int p3), .val (.int (1 : Int32)), .val .null, .unset, .unset, .unset, .unset, .unset] [(.ref b160)]))
    refine own_go (fun _ k => XS.astore X194.here hx rfl (hb hby at_47) rfl rfl (l' := #[.val (.long q1), .second, .val (.long q2), .second, .val (.int p3), .val (.int (1 : Int32)), .val .null, .val (.ref b160), .unset, .unset, .unset, .unset]) rfl k) ?_
    show own_Go p e below s _ _ _ (T194.setTop (mkF m 49 #[.val (.long q1), .second, .val (.long q2), .second, .val (.int p3), .val (.int (1 : Int32)), .val .null, .val (.ref b160), .unset, .unset, .unset, .unset] []))
    refine own_go (fun _ k => XS.aload X194.here hx rfl (hb hby at_49) rfl rfl k) ?_
    show own_Go p e below s _ _ _ (T194.setTop (mkF m 51 #[.val (.long q1), .second, .val (.long q2), .second, .val (.int p3), .val (.int (1 : Int32)), .val .null, .val (.ref b160), .unset, .unset, .unset, .unset] [(.ref b160)]))
    refine own_go (fun _ k => XS.lloadN X194.here hx rfl (hb hby at_51) rfl k) ?_
    show own_Go p e below s _ _ _ (T194.setTop (mkF m 52 #[.val (.long q1), .second, .val (.long q2), .second, .val (.int p3), .val (.int (1 : Int32)), .val .null, .val (.ref b160), .unset, .unset, .unset, .unset] [(.long q2), (.ref b160)]))
    obtain ⟨v214, T214, L214, X214, hSn, hZn, hownn, hQ214, st214⟩ := own_callV (y := (⟨"com/example/countersign/countersign/server/Exchange", "expiredBy", "(J)Z"⟩ : MethodName)) (z := (⟨"com/example/countersign/countersign/server/Exchange", "expiredBy", "(J)Z"⟩ : MethodName)) X194 hS hx hZ hown (hw _ (List.mem_of_getElem? (i := 40) rfl)) (hw _ (List.mem_of_getElem? (i := 41) rfl)) (notFace_of_selects (args := #[]) (mvT hZ (hw _ (List.mem_of_getElem? (i := 43) rfl)))) (hw _ (List.mem_of_getElem? (i := 43) rfl)) (hw _ (List.mem_of_getElem? (i := 42) rfl)) (hw _ (List.mem_of_getElem? (i := 10) rfl)) (hw _ (List.mem_of_getElem? (i := 44) rfl)) (rm_expN l Z a0 hw oCa oBx [] b160 q2 T194.heap O212 f198) 0 0 0 rfl rfl (by decide) (by decide) (by decide) (by show _ ≤ 16; omega) (by show _ ≤ 1152; omega) (rfl : T194.heap = T194.heap) f195 (g := (mkF m 52 #[.val (.long q1), .second, .val (.long q2), .second, .val (.int p3), .val (.int (1 : Int32)), .val .null, .val (.ref b160), .unset, .unset, .unset, .unset] [(.long q2), (.ref b160)])) rfl (by rw [hml]; rfl) [(.long q2)] [] (lenOf own_pd_5 rfl) rfl rfl (by show 2 * 0 + _ ≤ _; exact Nat.le_of_eq rfl) (hb hby at_52)
    replace hS := hSn
    replace hZ := hZn
    replace hown := hownn
    clear hSn hZn hownn
    obtain ⟨rfl, Nc216, Kc215⟩ := hQ214
    refine own_go st214 ?_
    have N217 := Fr.app N203 Nc216
    rw [Kc215] at hS
    show own_Go p e below s _ _ _ (T214.setTop (mkF m 55 #[.val (.long q1), .second, .val (.long q2), .second, .val (.int p3), .val (.int (1 : Int32)), .val .null, .val (.ref b160), .unset, .unset, .unset, .unset] [(.int (0 : Int32))]))
    refine own_go (fun _ k => XS.istore X214.here hx rfl (hb hby at_55) rfl (l' := #[.val (.long q1), .second, .val (.long q2), .second, .val (.int p3), .val (.int (1 : Int32)), .val .null, .val (.ref b160), .val (.int (0 : Int32)), .unset, .unset, .unset]) rfl k) ?_
    show own_Go p e below s _ _ _ (T214.setTop (mkF m 57 #[.val (.long q1), .second, .val (.long q2), .second, .val (.int p3), .val (.int (1 : Int32)), .val .null, .val (.ref b160), .val (.int (0 : Int32)), .unset, .unset, .unset] []))
    refine own_go (fun _ k => XS.iload X214.here hx rfl (hb hby at_57) rfl k) ?_
    show own_Go p e below s _ _ _ (T214.setTop (mkF m 59 #[.val (.long q1), .second, .val (.long q2), .second, .val (.int p3), .val (.int (1 : Int32)), .val .null, .val (.ref b160), .val (.int (0 : Int32)), .unset, .unset, .unset] [(.int (1 : Int32))]))
    refine own_go (fun _ k => XS.ifYes X214.here hx rfl (pc0 := 59) (pc' := 76) rfl (hb hby at_59) rfl ((if0 _ _).trans (feq (by decide : ¬ ((1 : Int32) = (0 : Int32)))).2) (by decide) (by decide) k) ?_
    show own_Go p e below s _ _ _ (T214.setTop (mkF m 76 #[.val (.long q1), .second, .val (.long q2), .second, .val (.int p3), .val (.int (1 : Int32)), .val .null, .val (.ref b160), .val (.int (0 : Int32)), .unset, .unset, .unset] []))
    refine own_go (fun _ k => XS.iconst X214.here hx rfl (hb hby at_76) k) ?_
    show own_Go p e below s _ _ _ (T214.setTop (mkF m 77 #[.val (.long q1), .second, .val (.long q2), .second, .val (.int p3), .val (.int (1 : Int32)), .val .null, .val (.ref b160), .val (.int (0 : Int32)), .unset, .unset, .unset] [(.int (0 : Int32))]))
    refine own_go (fun _ k => XS.istore X214.here hx rfl (hb hby at_77) rfl (l' := #[.val (.long q1), .second, .val (.long q2), .second, .val (.int p3), .val (.int (1 : Int32)), .val .null, .val (.ref b160), .val (.int (0 : Int32)), .val (.int (0 : Int32)), .unset, .unset]) rfl k) ?_
    show own_Go p e below s _ _ _ (T214.setTop (mkF m 79 #[.val (.long q1), .second, .val (.long q2), .second, .val (.int p3), .val (.int (1 : Int32)), .val .null, .val (.ref b160), .val (.int (0 : Int32)), .val (.int (0 : Int32)), .unset, .unset] []))
    refine own_go (fun _ k => XS.iload X214.here hx rfl (hb hby at_79) rfl k) ?_
    show own_Go p e below s _ _ _ (T214.setTop (mkF m 81 #[.val (.long q1), .second, .val (.long q2), .second, .val (.int p3), .val (.int (1 : Int32)), .val .null, .val (.ref b160), .val (.int (0 : Int32)), .val (.int (0 : Int32)), .unset, .unset] [(.int (0 : Int32))]))
    refine own_go (fun _ k => XS.iload X214.here hx rfl (hb hby at_81) rfl k) ?_
    show own_Go p e below s _ _ _ (T214.setTop (mkF m 83 #[.val (.long q1), .second, .val (.long q2), .second, .val (.int p3), .val (.int (1 : Int32)), .val .null, .val (.ref b160), .val (.int (0 : Int32)), .val (.int (0 : Int32)), .unset, .unset] [(.int (0 : Int32)), (.int (0 : Int32))]))
    refine own_go (fun _ k => XS.icmpYes X214.here hx rfl (pc0 := 83) (pc' := 88) rfl (hb hby at_83) rfl (teq (by decide : (0 : Int32) = (0 : Int32))).1 (by decide) (by decide) k) ?_
    show own_Go p e below s _ _ _ (T214.setTop (mkF m 88 #[.val (.long q1), .second, .val (.long q2), .second, .val (.int p3), .val (.int (1 : Int32)), .val .null, .val (.ref b160), .val (.int (0 : Int32)), .val (.int (0 : Int32)), .unset, .unset] []))
    refine own_go (fun _ k => XS.aload X214.here hx rfl (hb hby at_88) rfl rfl k) ?_
    show own_Go p e below s _ _ _ (T214.setTop (mkF m 90 #[.val (.long q1), .second, .val (.long q2), .second, .val (.int p3), .val (.int (1 : Int32)), .val .null, .val (.ref b160), .val (.int (0 : Int32)), .val (.int (0 : Int32)), .unset, .unset] [(.ref b160)]))
    refine own_go (fun _ k => XS.lloadN X214.here hx rfl (hb hby at_90) rfl k) ?_
    show own_Go p e below s _ _ _ (T214.setTop (mkF m 91 #[.val (.long q1), .second, .val (.long q2), .second, .val (.int p3), .val (.int (1 : Int32)), .val .null, .val (.ref b160), .val (.int (0 : Int32)), .val (.int (0 : Int32)), .unset, .unset] [(.long q1), (.ref b160)]))
    obtain ⟨v218, T218, L218, X218, hSn, hZn, hownn, hQ218, st218⟩ := own_callV (y := (⟨"com/example/countersign/countersign/server/Exchange", "expiredBy", "(J)Z"⟩ : MethodName)) (z := (⟨"com/example/countersign/countersign/server/Exchange", "expiredBy", "(J)Z"⟩ : MethodName)) X214 hS hx hZ hown (hw _ (List.mem_of_getElem? (i := 40) rfl)) (hw _ (List.mem_of_getElem? (i := 41) rfl)) (notFace_of_selects (args := #[]) (mvT hZ (hw _ (List.mem_of_getElem? (i := 43) rfl)))) (hw _ (List.mem_of_getElem? (i := 43) rfl)) (hw _ (List.mem_of_getElem? (i := 42) rfl)) (hw _ (List.mem_of_getElem? (i := 10) rfl)) (hw _ (List.mem_of_getElem? (i := 44) rfl)) (rm_expN l Z a0 hw oCa oBx [] b160 q1 T194.heap O212 f198) 0 0 0 rfl rfl (by decide) (by decide) (by decide) (by show _ ≤ 16; omega) (by show _ ≤ 1152; omega) Kc215 f195 (g := (mkF m 91 #[.val (.long q1), .second, .val (.long q2), .second, .val (.int p3), .val (.int (1 : Int32)), .val .null, .val (.ref b160), .val (.int (0 : Int32)), .val (.int (0 : Int32)), .unset, .unset] [(.long q1), (.ref b160)])) rfl (by rw [hml]; rfl) [(.long q1)] [] (lenOf own_pd_5 rfl) rfl rfl (by show 2 * 0 + _ ≤ _; exact Nat.le_of_eq rfl) (hb hby at_91)
    replace hS := hSn
    replace hZ := hZn
    replace hown := hownn
    clear hSn hZn hownn
    obtain ⟨rfl, Nc220, Kc219⟩ := hQ218
    refine own_go st218 ?_
    have N221 := Fr.app N217 Nc220
    rw [Kc219] at hS
    show own_Go p e below s _ _ _ (T218.setTop (mkF m 94 #[.val (.long q1), .second, .val (.long q2), .second, .val (.int p3), .val (.int (1 : Int32)), .val .null, .val (.ref b160), .val (.int (0 : Int32)), .val (.int (0 : Int32)), .unset, .unset] [(.int (0 : Int32))]))
    refine own_go (fun _ k => XS.istore X218.here hx rfl (hb hby at_94) rfl (l' := #[.val (.long q1), .second, .val (.long q2), .second, .val (.int p3), .val (.int (1 : Int32)), .val .null, .val (.ref b160), .val (.int (0 : Int32)), .val (.int (0 : Int32)), .val (.int (0 : Int32)), .unset]) rfl k) ?_
    show own_Go p e below s _ _ _ (T218.setTop (mkF m 96 #[.val (.long q1), .second, .val (.long q2), .second, .val (.int p3), .val (.int (1 : Int32)), .val .null, .val (.ref b160), .val (.int (0 : Int32)), .val (.int (0 : Int32)), .val (.int (0 : Int32)), .unset] []))
    refine own_go (fun _ k => XS.iload X218.here hx rfl (hb hby at_96) rfl k) ?_
    show own_Go p e below s _ _ _ (T218.setTop (mkF m 98 #[.val (.long q1), .second, .val (.long q2), .second, .val (.int p3), .val (.int (1 : Int32)), .val .null, .val (.ref b160), .val (.int (0 : Int32)), .val (.int (0 : Int32)), .val (.int (0 : Int32)), .unset] [(.int (0 : Int32))]))
    refine own_go (fun _ k => XS.iload X218.here hx rfl (hb hby at_98) rfl k) ?_
    show own_Go p e below s _ _ _ (T218.setTop (mkF m 100 #[.val (.long q1), .second, .val (.long q2), .second, .val (.int p3), .val (.int (1 : Int32)), .val .null, .val (.ref b160), .val (.int (0 : Int32)), .val (.int (0 : Int32)), .val (.int (0 : Int32)), .unset] [(.int (1 : Int32)), (.int (0 : Int32))]))
    refine own_go (fun _ k => XS.ifYes X218.here hx rfl (pc0 := 100) (pc' := 107) rfl (hb hby at_100) rfl ((if0 _ _).trans (feq (by decide : ¬ ((1 : Int32) = (0 : Int32)))).2) (by decide) (by decide) k) ?_
    show own_Go p e below s _ _ _ (T218.setTop (mkF m 107 #[.val (.long q1), .second, .val (.long q2), .second, .val (.int p3), .val (.int (1 : Int32)), .val .null, .val (.ref b160), .val (.int (0 : Int32)), .val (.int (0 : Int32)), .val (.int (0 : Int32)), .unset] [(.int (0 : Int32))]))
    refine own_go (fun _ k => XS.iconst X218.here hx rfl (hb hby at_107) k) ?_
    show own_Go p e below s _ _ _ (T218.setTop (mkF m 108 #[.val (.long q1), .second, .val (.long q2), .second, .val (.int p3), .val (.int (1 : Int32)), .val .null, .val (.ref b160), .val (.int (0 : Int32)), .val (.int (0 : Int32)), .val (.int (0 : Int32)), .unset] [(.int (0 : Int32)), (.int (0 : Int32))]))
    refine own_go (fun _ k => XS.icmpYes X218.here hx rfl (pc0 := 108) (pc' := 113) rfl (hb hby at_108) rfl (teq (by decide : (0 : Int32) = (0 : Int32))).1 (by decide) (by decide) k) ?_
    show own_Go p e below s _ _ _ (T218.setTop (mkF m 113 #[.val (.long q1), .second, .val (.long q2), .second, .val (.int p3), .val (.int (1 : Int32)), .val .null, .val (.ref b160), .val (.int (0 : Int32)), .val (.int (0 : Int32)), .val (.int (0 : Int32)), .unset] []))
    refine own_go (fun _ k => XS.lloadN X218.here hx rfl (hb hby at_113) rfl k) ?_
    show own_Go p e below s _ _ _ (T218.setTop (mkF m 114 #[.val (.long q1), .second, .val (.long q2), .second, .val (.int p3), .val (.int (1 : Int32)), .val .null, .val (.ref b160), .val (.int (0 : Int32)), .val (.int (0 : Int32)), .val (.int (0 : Int32)), .unset] [(.long q1)]))
    refine own_go (X218.ldc2Long hx hown (mvT hZ (hw _ (List.mem_of_getElem? (i := 56) rfl))) (g := (mkF m 114 #[.val (.long q1), .second, .val (.long q2), .second, .val (.int p3), .val (.int (1 : Int32)), .val .null, .val (.ref b160), .val (.int (0 : Int32)), .val (.int (0 : Int32)), .val (.int (0 : Int32)), .unset] [(.long q1)])) rfl (hb hby at_114)) ?_
    show own_Go p e below s _ _ _ (T218.setTop (mkF m 117 #[.val (.long q1), .second, .val (.long q2), .second, .val (.int p3), .val (.int (1 : Int32)), .val .null, .val (.ref b160), .val (.int (0 : Int32)), .val (.int (0 : Int32)), .val (.int (0 : Int32)), .unset] [(.long (-9223372036854775808 : Int64)), (.long q1)]))
    refine own_go (fun _ k => XS.lcmp X218.here hx rfl (hb hby at_117) rfl k) ?_
    show own_Go p e below s _ _ _ (T218.setTop (mkF m 118 #[.val (.long q1), .second, .val (.long q2), .second, .val (.int p3), .val (.int (1 : Int32)), .val .null, .val (.ref b160), .val (.int (0 : Int32)), .val (.int (0 : Int32)), .val (.int (0 : Int32)), .unset] [(.int (lcmpW q1 (-9223372036854775808 : Int64)))]))
    by_cases hc222 : q1 = (-9223372036854775808 : Int64)
    · refine own_go (fun _ k => XS.ifYes X218.here hx rfl (pc0 := 118) (pc' := 138) rfl (hb hby at_118) rfl ((if0 _ _).trans (teq ((lw_eq _ _).mpr hc222)).1) (by decide) (by decide) k) ?_
      show own_Go p e below s _ _ _ (T218.setTop (mkF m 138 #[.val (.long q1), .second, .val (.long q2), .second, .val (.int p3), .val (.int (1 : Int32)), .val .null, .val (.ref b160), .val (.int (0 : Int32)), .val (.int (0 : Int32)), .val (.int (0 : Int32)), .unset] []))
      refine own_go (fun _ k => XS.iconst X218.here hx rfl (hb hby at_138) k) ?_
      show own_Go p e below s _ _ _ (T218.setTop (mkF m 139 #[.val (.long q1), .second, .val (.long q2), .second, .val (.int p3), .val (.int (1 : Int32)), .val .null, .val (.ref b160), .val (.int (0 : Int32)), .val (.int (0 : Int32)), .val (.int (0 : Int32)), .unset] [(.int (1 : Int32))]))
      refine own_retN X218 hS hx hlk Kc219 (t := .boolean) hret (by simp) (hb hby at_139) (by show _ ≤ 16; omega) (by show _ ≤ 1152; omega) ?_
      exact ⟨rfl, N221, K213⟩
    · refine own_go (fun _ k => XS.ifNo X218.here hx rfl (hb hby at_118) rfl ((if0 _ _).trans (feq (fun q => hc222 ((lw_eq _ _).mp q))).1) k) ?_
      show own_Go p e below s _ _ _ (T218.setTop (mkF m 121 #[.val (.long q1), .second, .val (.long q2), .second, .val (.int p3), .val (.int (1 : Int32)), .val .null, .val (.ref b160), .val (.int (0 : Int32)), .val (.int (0 : Int32)), .val (.int (0 : Int32)), .unset] []))
      refine own_go (fun _ k => XS.aload X218.here hx rfl (hb hby at_121) rfl rfl k) ?_
      show own_Go p e below s _ _ _ (T218.setTop (mkF m 123 #[.val (.long q1), .second, .val (.long q2), .second, .val (.int p3), .val (.int (1 : Int32)), .val .null, .val (.ref b160), .val (.int (0 : Int32)), .val (.int (0 : Int32)), .val (.int (0 : Int32)), .unset] [(.ref b160)]))
      refine own_go (fun _ k => XS.lloadN X218.here hx rfl (hb hby at_123) rfl k) ?_
      show own_Go p e below s _ _ _ (T218.setTop (mkF m 124 #[.val (.long q1), .second, .val (.long q2), .second, .val (.int p3), .val (.int (1 : Int32)), .val .null, .val (.ref b160), .val (.int (0 : Int32)), .val (.int (0 : Int32)), .val (.int (0 : Int32)), .unset] [(.long q1), (.ref b160)]))
      refine own_go (fun _ k => XS.lconst X218.here hx rfl (hb hby at_124) k) ?_
      show own_Go p e below s _ _ _ (T218.setTop (mkF m 125 #[.val (.long q1), .second, .val (.long q2), .second, .val (.int p3), .val (.int (1 : Int32)), .val .null, .val (.ref b160), .val (.int (0 : Int32)), .val (.int (0 : Int32)), .val (.int (0 : Int32)), .unset] [(.long (1 : Int64)), (.long q1), (.ref b160)]))
      refine own_go (fun _ k => XS.lsub X218.here hx rfl (hb hby at_125) rfl k) ?_
      show own_Go p e below s _ _ _ (T218.setTop (mkF m 126 #[.val (.long q1), .second, .val (.long q2), .second, .val (.int p3), .val (.int (1 : Int32)), .val .null, .val (.ref b160), .val (.int (0 : Int32)), .val (.int (0 : Int32)), .val (.int (0 : Int32)), .unset] [(.long (q1 - (1 : Int64))), (.ref b160)]))
      obtain ⟨v223, T223, L223, X223, hSn, hZn, hownn, hQ223, st223⟩ := own_callV (y := (⟨"com/example/countersign/countersign/server/Exchange", "expiredBy", "(J)Z"⟩ : MethodName)) (z := (⟨"com/example/countersign/countersign/server/Exchange", "expiredBy", "(J)Z"⟩ : MethodName)) X218 hS hx hZ hown (hw _ (List.mem_of_getElem? (i := 40) rfl)) (hw _ (List.mem_of_getElem? (i := 41) rfl)) (notFace_of_selects (args := #[]) (mvT hZ (hw _ (List.mem_of_getElem? (i := 43) rfl)))) (hw _ (List.mem_of_getElem? (i := 43) rfl)) (hw _ (List.mem_of_getElem? (i := 42) rfl)) (hw _ (List.mem_of_getElem? (i := 10) rfl)) (hw _ (List.mem_of_getElem? (i := 44) rfl)) (rm_expN l Z a0 hw oCa oBx [] b160 (q1 - (1 : Int64)) T194.heap O212 f198) 0 0 0 rfl rfl (by decide) (by decide) (by decide) (by show _ ≤ 16; omega) (by show _ ≤ 1152; omega) Kc219 f195 (g := (mkF m 126 #[.val (.long q1), .second, .val (.long q2), .second, .val (.int p3), .val (.int (1 : Int32)), .val .null, .val (.ref b160), .val (.int (0 : Int32)), .val (.int (0 : Int32)), .val (.int (0 : Int32)), .unset] [(.long (q1 - (1 : Int64))), (.ref b160)])) rfl (by rw [hml]; rfl) [(.long (q1 - (1 : Int64)))] [] (lenOf own_pd_5 rfl) rfl rfl (by show 2 * 0 + _ ≤ _; exact Nat.le_of_eq rfl) (hb hby at_126)
      replace hS := hSn
      replace hZ := hZn
      replace hown := hownn
      clear hSn hZn hownn
      obtain ⟨rfl, Nc225, Kc224⟩ := hQ223
      refine own_go st223 ?_
      have N226 := Fr.app N221 Nc225
      rw [Kc224] at hS
      show own_Go p e below s _ _ _ (T223.setTop (mkF m 129 #[.val (.long q1), .second, .val (.long q2), .second, .val (.int p3), .val (.int (1 : Int32)), .val .null, .val (.ref b160), .val (.int (0 : Int32)), .val (.int (0 : Int32)), .val (.int (0 : Int32)), .unset] [(.int (0 : Int32))]))
      refine own_go (fun _ k => XS.istore X223.here hx rfl (hb hby at_129) rfl (l' := #[.val (.long q1), .second, .val (.long q2), .second, .val (.int p3), .val (.int (1 : Int32)), .val .null, .val (.ref b160), .val (.int (0 : Int32)), .val (.int (0 : Int32)), .val (.int (0 : Int32)), .val (.int (0 : Int32))]) rfl k) ?_
      show own_Go p e below s _ _ _ (T223.setTop (mkF m 131 #[.val (.long q1), .second, .val (.long q2), .second, .val (.int p3), .val (.int (1 : Int32)), .val .null, .val (.ref b160), .val (.int (0 : Int32)), .val (.int (0 : Int32)), .val (.int (0 : Int32)), .val (.int (0 : Int32))] []))
      refine own_go (fun _ k => XS.iload X223.here hx rfl (hb hby at_131) rfl k) ?_
      show own_Go p e below s _ _ _ (T223.setTop (mkF m 133 #[.val (.long q1), .second, .val (.long q2), .second, .val (.int p3), .val (.int (1 : Int32)), .val .null, .val (.ref b160), .val (.int (0 : Int32)), .val (.int (0 : Int32)), .val (.int (0 : Int32)), .val (.int (0 : Int32))] [(.int (0 : Int32))]))
      refine own_go (fun _ k => XS.ifYes X223.here hx rfl (pc0 := 133) (pc' := 138) rfl (hb hby at_133) rfl ((if0 _ _).trans (teq (by decide : (0 : Int32) = (0 : Int32))).1) (by decide) (by decide) k) ?_
      show own_Go p e below s _ _ _ (T223.setTop (mkF m 138 #[.val (.long q1), .second, .val (.long q2), .second, .val (.int p3), .val (.int (1 : Int32)), .val .null, .val (.ref b160), .val (.int (0 : Int32)), .val (.int (0 : Int32)), .val (.int (0 : Int32)), .val (.int (0 : Int32))] []))
      refine own_go (fun _ k => XS.iconst X223.here hx rfl (hb hby at_138) k) ?_
      show own_Go p e below s _ _ _ (T223.setTop (mkF m 139 #[.val (.long q1), .second, .val (.long q2), .second, .val (.int p3), .val (.int (1 : Int32)), .val .null, .val (.ref b160), .val (.int (0 : Int32)), .val (.int (0 : Int32)), .val (.int (0 : Int32)), .val (.int (0 : Int32))] [(.int (1 : Int32))]))
      refine own_retN X223 hS hx hlk Kc224 (t := .boolean) hret (by simp) (hb hby at_139) (by show _ ≤ 16; omega) (by show _ ≤ 1152; omega) ?_
      exact ⟨rfl, N226, K213⟩
set_option maxRecDepth 65536 in
set_option maxHeartbeats 40000000 in
theorem comes_1 {Post : Tables → Env → Array Value → State → Outcome → State → Prop} (hpost : ∀ tb e args s v u, (limb_1_1.after args s (.returned v) u = true ∧ limb_1_2.after args s (.returned v) u = true ∧ True) → ReturnedEndW s (.returned v) u (Jvm.fieldLocs frame_1_writes args s ++ Jvm.arrayLocs frame_1_arrays args s ++ Jvm.staticLocs frame_1_statics s) 16 1152 → Post tb e args s (.returned v) u) :
    ArmFor flags0 classFile x code maxLocals ret World_1 tables_1 room_1 Calls_1 rest_1 Pre_1 Post := by
  intro l hfl _ _ p e ha hc hk s m args below hf hA hF happ hP
  obtain ⟨hcalls, hrest, hpre⟩ := hP
  obtain ⟨-, -, -, hnamed, -, -, -, hat⟩ := (Spec.applies_iff hf).mp happ
  obtain ⟨hg, hn⟩ := and_e (Cond.before_iff.mp (show (Jvm.Cond.and given_1 narrow_1).before args s = true from hpre))
  obtain ⟨gA0, gB0⟩ := and_e hg
  obtain ⟨gA1, gB1⟩ := and_e gB0
  obtain ⟨gA2, gB2⟩ := and_e gB1
  obtain ⟨w0, w1, w2, rfl⟩ : ∃ w0 w1 w2 : Value, args = #[w0, w1, w2] := by
    have hs : args.size = 3 := by simpa [Cond.value, given_1] using gA0
    obtain ⟨L⟩ := args
    match L, hs with
    | [w0, w1, w2], _ => exact ⟨w0, w1, w2, rfl⟩
  have hw := fun d (hd : d ∈ tables_1) => atoms_spec (ws := Jvm.Cond.code x code maxLocals ret :: tables_1) hat d (List.mem_cons_of_mem _ hd)
  have hfit : Fit s := fun {y c} hc i hi => by
    obtain ⟨ha, rfl⟩ := Array.getElem?_eq_some_iff.mp hc
    have q := List.all_eq_true.mp ((Array.all_eq_true_iff_forall_mem.mp hF) _ (Array.getElem_mem ha)) i (List.mem_range.mpr hi)
    simpa [Array.getElem?_eq_getElem hi] using q
  obtain ⟨hsets, hown0⟩ := atoms_of _ (rest_1_c_eq ▸ (show rest_1_c.before _ s = true from hrest))
  have hr0 := Cond.before_iff.mp hown0
  obtain ⟨i0, ei0⟩ := isL_v gA1
  obtain rfl : w0 = (.long i0) := Option.some.inj ei0
  obtain ⟨i1, ei1⟩ := isL_v gA2
  obtain rfl : w1 = (.long i1) := Option.some.inj ei1
  obtain ⟨i2, ei2⟩ := is_v gB2
  obtain rfl : w2 = (.int i2) := Option.some.inj ei2
  have lc2 := Cond.before_iff.mp (hsets _ (List.mem_of_getElem? (i := 2) rfl))
  have lc4 := Cond.before_iff.mp (hsets _ (List.mem_of_getElem? (i := 4) rfl))
  have lc5 := Cond.before_iff.mp (hsets _ (List.mem_of_getElem? (i := 5) rfl))
  obtain ⟨wc, lce⟩ := arr_v lc2
  obtain ⟨clc, lcA⟩ := Arr.start lce lc2
  have oCa := Sta.start lce (Or.inl (hsets _ (List.mem_of_getElem? (i := 1) rfl)))
  have lcn := own_lenOf lce (lcA.fin (Vm.Alike.refl _)) lc4
  have oBx : Bxs s wc clc "java/lang/Long" "J" (256 : Int32) own_bxv := Bxs.start (F := Term.op1 .i2l (.sub (.index 0) (.int 128))) (fun _ => lce) lcA lcn.1 lcn.2 (by decide) lc5 (fun X j hj h => eqv_l (i2l_at (own_subIdx hj)) h)
  obtain ⟨n, o, h1, h2, h3, _, L, rfl, ⟨rfl, N, -⟩, hq⟩ := rm_law l s _ hw oCa oBx tables_1 i0 i1 i2  s.heap ⟨Nat.le_refl _, fun _ _ q => q⟩  p e ha hc hk s m _ below hf ((Spec.applies_iff_loose hf).mp happ).1 ⟨rfl, State.Warmed39.refl s, rfl⟩ trivial
  refine ⟨n, _, h1, h2, h3, hpost _ _ _ _ _ _ ⟨Cond.after_iff.mpr rfl, Cond.after_iff.mpr (eq_i res_at (Term.int_eval (1)) rfl), trivial⟩ ⟨hq.1, hq.2.1, hq.2.2.1, (hq.2.2.2.sift fun y hy => Or.inr (N y hy)).mono (by decide) (by decide)⟩⟩
theorem main_1_1 : Claimed_1_1 := comes_1 fun _ _ _ _ _ _ h hF => ⟨h.1, hF⟩
theorem main_1_2 : Claimed_1_2 := comes_1 fun _ _ _ _ _ _ h hF => ⟨h.2.1, hF⟩
end Jvm.Pilot.@@N@@
namespace Jvm.Pilot.@@N@@
open Jvm Jvm.ClassFile Sem Op Lib Jvm.Free Jvm.Stand Jvm.Pilot.@@N@@.Jvm.D
/-! MADE BY PROGRAM (witnessworld.py) out of the Statement's table words and the real class files: 20 classes; the members and pool entries that the words name. The judged class is class 1, her method 1. -/
namespace start1
open Jvm.ClassFile
def u (s : String) : CpInfo := .utf8 (stringToUtf16 s)
/-- a pool by its gaps: so many unusable entries, then the entry; so many at the end -/
def gap : Nat → List CpInfo → List CpInfo
  | 0, r => r
  | n + 1, r => .unusable :: gap n r
def poolList (es : List (Nat × CpInfo)) (last : Nat) : List CpInfo := es.foldr (fun e r => gap e.1 (e.2 :: r)) (gap last [])
def pool (es : List (Nat × CpInfo)) (last : Nat) : Array CpInfo := ⟨poolList es last⟩
def fileOf (pool : Array CpInfo) (this : Nat) (attrs : Array Attribute := #[]) (ms : Array MethodInfo := #[]) (fl : Nat := 33) (sup : Nat := 0) (ifs : Array Nat := #[]) (fds : Array FieldInfo := #[]) : ClassFile where
  minorVersion := 0
  majorVersion := 65
  constantPool := pool
  accessFlags := fl
  thisClass := this
  superClass := sup
  interfaces := ifs
  fields := fds
  methods := ms
  attributes := attrs
def plain (name : String) (sup : Option ClassId) : Class where
  name := name
  kind := .ordinary
  loader := none
  accessFlags := 33
  super := sup
  interfaces := #[]
  cf := none
  fields := #[]
  methods := #[]
  instanceTypes := #[]
  staticTypes := #[]
  resolved := #[]
  callSites := []
  init := .initialized
  statics := none
  mirror := none

def pool0 : Array CpInfo := pool [(5, u "<init>"), (0, u "()V"), (1, .class_ 10), (1, u "java/lang/Object")] 113

def k0c0 : Code := { maxStack := 0, maxLocals := 1, code := object_method_1_code, exceptionTable := #[], attributes := #[] }
def k0m0 : Method := { name := "<init>", desc := "()V", sig := { parameters := [], returnType := none }, accessFlags := 1, code := some k0c0 }
/-- java/lang/Object -/
def k0 : Class := { plain "java/lang/Object" none with
  accessFlags := 33
  interfaces := #[]
  cf := some (fileOf pool0 8 #[] #[{ accessFlags := 1, nameIndex := 5, descriptorIndex := 6, attributes := #[] }] 33 0 #[] #[])
  fields := #[]
  methods := #[k0m0]
  instanceTypes := #[]
  staticTypes := #[]
  resolved := Array.replicate 124 none
  statics := none }

def pool1 : Array CpInfo := pool [(2, .class_ 4), (1, u "java/lang/Object"), (0, u "<init>"), (0, u "()V"), (0, .methodref 8 9), (0, .class_ 10), (0, .nameAndType 11 12), (0, u "java/lang/Long"), (0, u "valueOf"), (0, u "(J)Ljava/lang/Long;"), (0, .class_ 14), (0, u "com/example/countersign/countersign/server/Exchange"), (0, .string 16), (0, u "a"), (0, .methodref 13 18), (0, .nameAndType 5 19), (0, u "(Ljava/lang/String;Ljava/lang/Long;Ljava/lang/Long;Ljava/lang/Long;Ljava/lang/String;)V"), (0, .methodref 13 21), (0, .nameAndType 22 23), (0, u "expiredBy"), (0, u "(J)Z"), (0, .methodref 25 26), (0, .class_ 27), (0, .nameAndType 28 29), (0, u "java/lang/Math"), (0, u "max"), (0, u "(JJ)J"), (0, .long 9223372036854775808), (1, .class_ 33), (0, u "com/example/countersign/countersign/server/ExchangeExpiredByPinLaw"), (2, u "law"), (0, u "(JJI)Z")] 3

def k1m0 : Method := { name := "<init>", desc := "()V", sig := { parameters := [], returnType := none }, accessFlags := 1, code := none }
def k1c1 : Code := { maxStack := 7, maxLocals := 12, code := code, exceptionTable := #[], attributes := #[] }
def k1m1 : Method := { name := "law", desc := "(JJI)Z", sig := { parameters := [.long, .long, .int], returnType := some .boolean }, accessFlags := 9, code := some k1c1 }
/-- com/example/countersign/countersign/server/ExchangeExpiredByPinLaw -/
def k1 : Class := { plain "com/example/countersign/countersign/server/ExchangeExpiredByPinLaw" (some 0) with
  accessFlags := 49
  interfaces := #[]
  cf := some (fileOf pool1 32 #[] #[{ accessFlags := 1, nameIndex := 5, descriptorIndex := 6, attributes := #[] }, { accessFlags := 9, nameIndex := 36, descriptorIndex := 37, attributes := #[] }] 49 2 #[] #[])
  fields := #[]
  methods := #[k1m0, k1m1]
  instanceTypes := #[]
  staticTypes := #[]
  resolved := Array.replicate 41 none
  statics := none }

def pool2 : Array CpInfo := pool [(1, .class_ 2), (0, u "java/io/Serializable"), (0, .class_ 4), (0, u "java/lang/Object")] 2

/-- java/io/Serializable -/
def k2 : Class := { plain "java/io/Serializable" (some 0) with
  accessFlags := 1537
  interfaces := #[]
  cf := some (fileOf pool2 1 #[] #[] 1537 3 #[] #[])
  fields := #[]
  methods := #[]
  instanceTypes := #[]
  staticTypes := #[]
  resolved := Array.replicate 7 none
  statics := none }

def pool3 : Array CpInfo := pool [(1, .methodref 2 3), (0, .class_ 4), (0, .nameAndType 5 6), (0, u "java/lang/Object"), (0, u "<init>"), (0, u "()V"), (1, .class_ 10), (1, u "java/lang/Number"), (2, .class_ 14), (0, u "java/io/Serializable"), (0, u "serialVersionUID"), (0, u "J")] 20

def k3c0 : Code := { maxStack := 1, maxLocals := 1, code := jdk_18_method_1_code, exceptionTable := #[], attributes := #[] }
def k3m0 : Method := { name := "<init>", desc := "()V", sig := { parameters := [], returnType := none }, accessFlags := 1, code := some k3c0 }
/-- java/lang/Number -/
def k3 : Class := { plain "java/lang/Number" (some 0) with
  accessFlags := 1057
  interfaces := #[2]
  cf := some (fileOf pool3 8 #[] #[{ accessFlags := 1, nameIndex := 5, descriptorIndex := 6, attributes := #[] }] 1057 2 #[13] #[{ accessFlags := 26, nameIndex := 15, descriptorIndex := 16, attributes := #[] }])
  fields := #[{ name := "serialVersionUID", type := .long, accessFlags := 26, slot := 0, constantValue := 0 }]
  methods := #[k3m0]
  instanceTypes := #[]
  staticTypes := #[.long]
  resolved := Array.replicate 37 none
  statics := none }

def pool4 : Array CpInfo := pool [(1, .class_ 2), (0, u "java/lang/Comparable"), (0, .class_ 4), (0, u "java/lang/Object")] 7

/-- java/lang/Comparable -/
def k4 : Class := { plain "java/lang/Comparable" (some 0) with
  accessFlags := 1537
  interfaces := #[]
  cf := some (fileOf pool4 1 #[] #[] 1537 3 #[] #[])
  fields := #[]
  methods := #[]
  instanceTypes := #[]
  staticTypes := #[]
  resolved := Array.replicate 12 none
  statics := none }

def pool5 : Array CpInfo := pool [(1, .class_ 2), (0, u "java/lang/constant/Constable"), (0, .class_ 4), (0, u "java/lang/Object")] 6

/-- java/lang/constant/Constable -/
def k5 : Class := { plain "java/lang/constant/Constable" (some 0) with
  accessFlags := 1537
  interfaces := #[]
  cf := some (fileOf pool5 1 #[] #[] 1537 3 #[] #[])
  fields := #[]
  methods := #[]
  instanceTypes := #[]
  staticTypes := #[]
  resolved := Array.replicate 11 none
  statics := none }

def pool6 : Array CpInfo := pool [(1, .class_ 2), (0, u "java/lang/constant/ConstantDesc"), (0, .class_ 4), (0, u "java/lang/Object")] 32

/-- java/lang/constant/ConstantDesc -/
def k6 : Class := { plain "java/lang/constant/ConstantDesc" (some 0) with
  accessFlags := 1537
  interfaces := #[]
  cf := some (fileOf pool6 1 #[] #[] 1537 3 #[] #[])
  fields := #[]
  methods := #[]
  instanceTypes := #[]
  staticTypes := #[]
  resolved := Array.replicate 37 none
  statics := none }

def pool7 : Array CpInfo := pool [(1, .class_ 2), (0, u "java/lang/Long"), (55, .nameAndType 59 60), (0, u "<init>"), (0, u "()V"), (24, u "valueOf"), (143, u "(J)Ljava/lang/Long;"), (0, .long 18446744073709551488), (1, .long 127), (1, .fieldref 235 236), (0, .class_ 237), (0, .nameAndType 238 239), (0, u "java/lang/Long$LongCache"), (0, u "cache"), (0, u "[Ljava/lang/Long;"), (0, .methodref 1 241), (0, .nameAndType 59 242), (0, u "(J)V"), (27, .methodref 271 58), (0, .class_ 272), (0, u "java/lang/Number"), (0, .fieldref 1 274), (0, .nameAndType 275 276), (0, u "value"), (0, u "J"), (5, u "longValue"), (0, u "()J"), (77, u "TYPE"), (0, u "Ljava/lang/Class;"), (0, .class_ 364), (0, u "java/lang/Comparable"), (0, .class_ 366), (0, u "java/lang/constant/Constable"), (0, .class_ 368), (0, u "java/lang/constant/ConstantDesc"), (0, u "MIN_VALUE"), (1, u "MAX_VALUE"), (4, u "SIZE"), (0, u "I"), (1, u "BYTES"), (1, u "serialVersionUID")] 142

def k7c0 : Code := { maxStack := 4, maxLocals := 3, code := jdk_35_method_24_code, exceptionTable := #[], attributes := #[] }
def k7m0 : Method := { name := "valueOf", desc := "(J)Ljava/lang/Long;", sig := { parameters := [.long], returnType := some (.object "java/lang/Long") }, accessFlags := 9, code := some k7c0 }
def k7c1 : Code := { maxStack := 3, maxLocals := 3, code := jdk_35_method_26_code, exceptionTable := #[], attributes := #[] }
def k7m1 : Method := { name := "<init>", desc := "(J)V", sig := { parameters := [.long], returnType := none }, accessFlags := 1, code := some k7c1 }
def k7c2 : Code := { maxStack := 2, maxLocals := 1, code := jdk_35_method_31_code, exceptionTable := #[], attributes := #[] }
def k7m2 : Method := { name := "longValue", desc := "()J", sig := { parameters := [], returnType := some .long }, accessFlags := 1, code := some k7c2 }
/-- java/lang/Long -/
def k7 : Class := { plain "java/lang/Long" (some 3) with
  accessFlags := 49
  interfaces := #[4, 5, 6]
  cf := some (fileOf pool7 1 #[.nestMembers #[235]] #[{ accessFlags := 9, nameIndex := 85, descriptorIndex := 229, attributes := #[] }, { accessFlags := 1, nameIndex := 59, descriptorIndex := 242, attributes := #[] }, { accessFlags := 1, nameIndex := 282, descriptorIndex := 283, attributes := #[] }] 49 271 #[363, 365, 367] #[{ accessFlags := 25, nameIndex := 369, descriptorIndex := 276, attributes := #[] }, { accessFlags := 25, nameIndex := 371, descriptorIndex := 276, attributes := #[] }, { accessFlags := 25, nameIndex := 361, descriptorIndex := 362, attributes := #[] }, { accessFlags := 18, nameIndex := 275, descriptorIndex := 276, attributes := #[] }, { accessFlags := 25, nameIndex := 376, descriptorIndex := 377, attributes := #[] }, { accessFlags := 25, nameIndex := 379, descriptorIndex := 377, attributes := #[] }, { accessFlags := 26, nameIndex := 381, descriptorIndex := 276, attributes := #[] }])
  fields := #[{ name := "MIN_VALUE", type := .long, accessFlags := 25, slot := 0, constantValue := 0 }, { name := "MAX_VALUE", type := .long, accessFlags := 25, slot := 1, constantValue := 0 }, { name := "TYPE", type := (.object "java/lang/Class"), accessFlags := 25, slot := 2, constantValue := 0 }, { name := "value", type := .long, accessFlags := 18, slot := 0, constantValue := 0 }, { name := "SIZE", type := .int, accessFlags := 25, slot := 3, constantValue := 0 }, { name := "BYTES", type := .int, accessFlags := 25, slot := 4, constantValue := 0 }, { name := "serialVersionUID", type := .long, accessFlags := 26, slot := 5, constantValue := 0 }]
  methods := #[k7m0, k7m1, k7m2]
  instanceTypes := #[.long]
  staticTypes := #[.long, .long, (.object "java/lang/Class"), .int, .int, .long]
  resolved := Array.replicate 524 none
  statics := none }

def pool8 : Array CpInfo := pool [(2, .class_ 4), (1, u "java/lang/Object"), (0, u "<init>"), (0, u "()V"), (0, .class_ 8), (0, u "java/lang/Long"), (7, .class_ 18), (1, u "java/lang/Long$LongCache"), (0, u "$assertionsDisabled"), (0, u "Z"), (8, u "archivedCache"), (0, u "[Ljava/lang/Long;"), (7, u "cache")] 24

def k8m0 : Method := { name := "<init>", desc := "()V", sig := { parameters := [], returnType := none }, accessFlags := 2, code := none }
/-- java/lang/Long$LongCache -/
def k8 : Class := { plain "java/lang/Long$LongCache" (some 0) with
  accessFlags := 48
  interfaces := #[]
  cf := some (fileOf pool8 16 #[.nestHost 7] #[{ accessFlags := 2, nameIndex := 5, descriptorIndex := 6, attributes := #[] }] 48 2 #[] #[{ accessFlags := 24, nameIndex := 38, descriptorIndex := 30, attributes := #[] }, { accessFlags := 8, nameIndex := 29, descriptorIndex := 30, attributes := #[] }, { accessFlags := 4120, nameIndex := 19, descriptorIndex := 20, attributes := #[] }])
  fields := #[{ name := "cache", type := (.array (.object "java/lang/Long")), accessFlags := 24, slot := 0, constantValue := 0 }, { name := "archivedCache", type := (.array (.object "java/lang/Long")), accessFlags := 8, slot := 1, constantValue := 0 }, { name := "$assertionsDisabled", type := .boolean, accessFlags := 4120, slot := 2, constantValue := 0 }]
  methods := #[k8m0]
  instanceTypes := #[]
  staticTypes := #[(.array (.object "java/lang/Long")), (.array (.object "java/lang/Long")), .boolean]
  resolved := Array.replicate 63 none
  statics := some 0 }

def pool9 : Array CpInfo := pool [(1, .methodref 2 3), (0, .class_ 4), (0, .nameAndType 5 6), (0, u "java/lang/Object"), (0, u "<init>"), (0, u "()V"), (0, .class_ 8), (0, u "java/lang/Record")] 13

def k9c0 : Code := { maxStack := 1, maxLocals := 1, code := jdk_30_method_1_code, exceptionTable := #[], attributes := #[] }
def k9m0 : Method := { name := "<init>", desc := "()V", sig := { parameters := [], returnType := none }, accessFlags := 4, code := some k9c0 }
/-- java/lang/Record -/
def k9 : Class := { plain "java/lang/Record" (some 0) with
  accessFlags := 1057
  interfaces := #[]
  cf := some (fileOf pool9 7 #[] #[{ accessFlags := 4, nameIndex := 5, descriptorIndex := 6, attributes := #[] }] 1057 2 #[] #[])
  fields := #[]
  methods := #[k9m0]
  instanceTypes := #[]
  staticTypes := #[]
  resolved := Array.replicate 22 none
  statics := none }

def pool10 : Array CpInfo := pool [(1, .methodref 2 3), (0, .class_ 4), (0, .nameAndType 5 6), (0, u "java/lang/Record"), (0, u "<init>"), (0, u "()V"), (0, .fieldref 8 9), (0, .class_ 10), (0, .nameAndType 11 12), (0, u "com/example/countersign/countersign/server/Exchange"), (0, u "artefact"), (0, u "Ljava/lang/String;"), (0, .fieldref 8 14), (0, .nameAndType 15 16), (0, u "activatedAt"), (0, u "Ljava/lang/Long;"), (0, .fieldref 8 18), (0, .nameAndType 19 16), (0, u "expiresAt"), (0, .fieldref 8 21), (0, .nameAndType 22 16), (0, u "refreshAt"), (0, .fieldref 8 24), (0, .nameAndType 25 12), (0, u "failure"), (1, .class_ 29), (1, u "java/lang/Long"), (4, u "(Ljava/lang/String;Ljava/lang/Long;Ljava/lang/Long;Ljava/lang/Long;Ljava/lang/String;)V"), (0, .methodref 27 36), (0, .nameAndType 37 38), (0, u "longValue"), (0, u "()J"), (29, u "expiredBy"), (0, u "(J)Z")] 41

def k10c0 : Code := { maxStack := 2, maxLocals := 6, code := prog_24_method_1_code, exceptionTable := #[], attributes := #[] }
def k10m0 : Method := { name := "<init>", desc := "(Ljava/lang/String;Ljava/lang/Long;Ljava/lang/Long;Ljava/lang/Long;Ljava/lang/String;)V", sig := { parameters := [(.object "java/lang/String"), (.object "java/lang/Long"), (.object "java/lang/Long"), (.object "java/lang/Long"), (.object "java/lang/String")], returnType := none }, accessFlags := 0, code := some k10c0 }
def k10c1 : Code := { maxStack := 4, maxLocals := 3, code := prog_24_method_6_code, exceptionTable := #[], attributes := #[] }
def k10m1 : Method := { name := "expiredBy", desc := "(J)Z", sig := { parameters := [.long], returnType := some .boolean }, accessFlags := 0, code := some k10c1 }
/-- com/example/countersign/countersign/server/Exchange -/
def k10 : Class := { plain "com/example/countersign/countersign/server/Exchange" (some 9) with
  accessFlags := 48
  interfaces := #[]
  cf := some (fileOf pool10 8 #[] #[{ accessFlags := 0, nameIndex := 5, descriptorIndex := 34, attributes := #[] }, { accessFlags := 0, nameIndex := 68, descriptorIndex := 69, attributes := #[] }] 48 2 #[] #[{ accessFlags := 18, nameIndex := 11, descriptorIndex := 12, attributes := #[] }, { accessFlags := 18, nameIndex := 15, descriptorIndex := 16, attributes := #[] }, { accessFlags := 18, nameIndex := 19, descriptorIndex := 16, attributes := #[] }, { accessFlags := 18, nameIndex := 22, descriptorIndex := 16, attributes := #[] }, { accessFlags := 18, nameIndex := 25, descriptorIndex := 12, attributes := #[] }])
  fields := #[{ name := "artefact", type := (.object "java/lang/String"), accessFlags := 18, slot := 0, constantValue := 0 }, { name := "activatedAt", type := (.object "java/lang/Long"), accessFlags := 18, slot := 1, constantValue := 0 }, { name := "expiresAt", type := (.object "java/lang/Long"), accessFlags := 18, slot := 2, constantValue := 0 }, { name := "refreshAt", type := (.object "java/lang/Long"), accessFlags := 18, slot := 3, constantValue := 0 }, { name := "failure", type := (.object "java/lang/String"), accessFlags := 18, slot := 4, constantValue := 0 }]
  methods := #[k10m0, k10m1]
  instanceTypes := #[(.object "java/lang/String"), (.object "java/lang/Long"), (.object "java/lang/Long"), (.object "java/lang/Long"), (.object "java/lang/String")]
  staticTypes := #[]
  resolved := Array.replicate 111 none
  statics := none }

def pool11 : Array CpInfo := pool [(2, .class_ 4), (1, u "java/lang/CharSequence"), (42, .class_ 48), (0, u "java/lang/CharSequence$1CodePointIterator"), (10, .class_ 60), (0, u "java/lang/CharSequence$1CharIterator"), (5, .class_ 67), (0, u "java/lang/Object")] 63

/-- java/lang/CharSequence -/
def k11 : Class := { plain "java/lang/CharSequence" (some 0) with
  accessFlags := 1537
  interfaces := #[]
  cf := some (fileOf pool11 2 #[.nestMembers #[47, 59]] #[] 1537 66 #[] #[])
  fields := #[]
  methods := #[]
  instanceTypes := #[]
  staticTypes := #[]
  resolved := Array.replicate 131 none
  statics := none }

def pool12 : Array CpInfo := pool [(2, .class_ 4), (1, u "java/lang/Object"), (0, u "<init>"), (0, u "()V"), (3, .class_ 12), (1, u "java/lang/String"), (0, u "value"), (0, u "[B"), (2, u "coder"), (0, u "B"), (2, u "hash"), (0, u "I"), (2, u "hashIsZero"), (0, u "Z"), (13, u "COMPACT_STRINGS"), (534, .class_ 576), (0, u "java/lang/CharSequence"), (22, u "CASE_INSENSITIVE_ORDER"), (0, u "Ljava/util/Comparator;"), (500, u "serialPersistentFields"), (0, u "[Ljava/io/ObjectStreamField;"), (0, .class_ 1104), (0, u "java/lang/String$CaseInsensitiveComparator"), (1, .class_ 1107), (0, u "java/io/Serializable"), (0, .class_ 1109), (0, u "java/lang/Comparable"), (0, .class_ 1111), (0, u "java/lang/constant/Constable"), (0, .class_ 1113), (0, u "java/lang/constant/ConstantDesc"), (2, u "serialVersionUID"), (0, u "J"), (3, u "REPL"), (0, u "C"), (2, u "LATIN1"), (1, u "UTF16")] 323

def k12m0 : Method := { name := "<init>", desc := "()V", sig := { parameters := [], returnType := none }, accessFlags := 1, code := none }
/-- java/lang/String -/
def k12 : Class := { plain "java/lang/String" (some 0) with
  accessFlags := 49
  interfaces := #[2, 4, 11, 5, 6]
  cf := some (fileOf pool12 10 #[.nestMembers #[1103]] #[{ accessFlags := 1, nameIndex := 5, descriptorIndex := 6, attributes := #[] }] 49 2 #[1106, 1108, 575, 1110, 1112] #[{ accessFlags := 18, nameIndex := 13, descriptorIndex := 14, attributes := #[] }, { accessFlags := 18, nameIndex := 17, descriptorIndex := 18, attributes := #[] }, { accessFlags := 2, nameIndex := 21, descriptorIndex := 22, attributes := #[] }, { accessFlags := 2, nameIndex := 25, descriptorIndex := 26, attributes := #[] }, { accessFlags := 26, nameIndex := 1116, descriptorIndex := 1117, attributes := #[] }, { accessFlags := 24, nameIndex := 40, descriptorIndex := 26, attributes := #[] }, { accessFlags := 26, nameIndex := 1101, descriptorIndex := 1102, attributes := #[] }, { accessFlags := 26, nameIndex := 1121, descriptorIndex := 1122, attributes := #[] }, { accessFlags := 25, nameIndex := 599, descriptorIndex := 600, attributes := #[] }, { accessFlags := 24, nameIndex := 1125, descriptorIndex := 18, attributes := #[] }, { accessFlags := 24, nameIndex := 1127, descriptorIndex := 18, attributes := #[] }])
  fields := #[{ name := "value", type := (.array .byte), accessFlags := 18, slot := 0, constantValue := 0 }, { name := "coder", type := .byte, accessFlags := 18, slot := 1, constantValue := 0 }, { name := "hash", type := .int, accessFlags := 2, slot := 2, constantValue := 0 }, { name := "hashIsZero", type := .boolean, accessFlags := 2, slot := 3, constantValue := 0 }, { name := "serialVersionUID", type := .long, accessFlags := 26, slot := 0, constantValue := 0 }, { name := "COMPACT_STRINGS", type := .boolean, accessFlags := 24, slot := 1, constantValue := 0 }, { name := "serialPersistentFields", type := (.array (.object "java/io/ObjectStreamField")), accessFlags := 26, slot := 2, constantValue := 0 }, { name := "REPL", type := .char, accessFlags := 26, slot := 3, constantValue := 0 }, { name := "CASE_INSENSITIVE_ORDER", type := (.object "java/util/Comparator"), accessFlags := 25, slot := 4, constantValue := 0 }, { name := "LATIN1", type := .byte, accessFlags := 24, slot := 5, constantValue := 0 }, { name := "UTF16", type := .byte, accessFlags := 24, slot := 6, constantValue := 0 }]
  methods := #[k12m0]
  instanceTypes := #[(.array .byte), .byte, .int, .boolean]
  staticTypes := #[.long, .boolean, (.array (.object "java/io/ObjectStreamField")), .char, (.object "java/util/Comparator"), .byte, .byte]
  resolved := Array.replicate 1451 none
  statics := none }

def pool13 : Array CpInfo := pool [(1, .class_ 2), (0, u "java/lang/Math"), (1, .class_ 6), (1, u "java/lang/Object"), (0, u "<init>"), (0, u "()V"), (89, .class_ 100), (1, u "java/lang/Math$RandomNumberGeneratorHolder"), (20, u "(JJ)J"), (50, u "negativeZeroFloatBits"), (0, u "J"), (2, u "negativeZeroDoubleBits"), (21, u "max"), (46, u "$assertionsDisabled"), (0, u "Z"), (91, u "twoToTheDoubleScaleDown"), (0, u "D"), (4, u "twoToTheDoubleScaleUp"), (9, u "E"), (3, u "PI"), (2, u "TAU"), (2, u "DEGREES_TO_RADIANS"), (0, u "RADIANS_TO_DEGREES")] 94

def k13m0 : Method := { name := "<init>", desc := "()V", sig := { parameters := [], returnType := none }, accessFlags := 2, code := none }
def k13c1 : Code := { maxStack := 4, maxLocals := 4, code := jdk_29_method_66_code, exceptionTable := #[], attributes := #[] }
def k13m1 : Method := { name := "max", desc := "(JJ)J", sig := { parameters := [.long, .long], returnType := some .long }, accessFlags := 9, code := some k13c1 }
/-- java/lang/Math -/
def k13 : Class := { plain "java/lang/Math" (some 0) with
  accessFlags := 49
  interfaces := #[]
  cf := some (fileOf pool13 1 #[.nestMembers #[98]] #[{ accessFlags := 2, nameIndex := 7, descriptorIndex := 8, attributes := #[] }, { accessFlags := 9, nameIndex := 198, descriptorIndex := 121, attributes := #[] }] 49 4 #[] #[{ accessFlags := 25, nameIndex := 354, descriptorIndex := 339, attributes := #[] }, { accessFlags := 25, nameIndex := 358, descriptorIndex := 339, attributes := #[] }, { accessFlags := 25, nameIndex := 361, descriptorIndex := 339, attributes := #[] }, { accessFlags := 26, nameIndex := 364, descriptorIndex := 339, attributes := #[] }, { accessFlags := 26, nameIndex := 365, descriptorIndex := 339, attributes := #[] }, { accessFlags := 26, nameIndex := 172, descriptorIndex := 173, attributes := #[] }, { accessFlags := 26, nameIndex := 176, descriptorIndex := 173, attributes := #[] }, { accessFlags := 8, nameIndex := 344, descriptorIndex := 339, attributes := #[] }, { accessFlags := 8, nameIndex := 338, descriptorIndex := 339, attributes := #[] }, { accessFlags := 4120, nameIndex := 245, descriptorIndex := 246, attributes := #[] }])
  fields := #[{ name := "E", type := .double, accessFlags := 25, slot := 0, constantValue := 0 }, { name := "PI", type := .double, accessFlags := 25, slot := 1, constantValue := 0 }, { name := "TAU", type := .double, accessFlags := 25, slot := 2, constantValue := 0 }, { name := "DEGREES_TO_RADIANS", type := .double, accessFlags := 26, slot := 3, constantValue := 0 }, { name := "RADIANS_TO_DEGREES", type := .double, accessFlags := 26, slot := 4, constantValue := 0 }, { name := "negativeZeroFloatBits", type := .long, accessFlags := 26, slot := 5, constantValue := 0 }, { name := "negativeZeroDoubleBits", type := .long, accessFlags := 26, slot := 6, constantValue := 0 }, { name := "twoToTheDoubleScaleUp", type := .double, accessFlags := 8, slot := 7, constantValue := 0 }, { name := "twoToTheDoubleScaleDown", type := .double, accessFlags := 8, slot := 8, constantValue := 0 }, { name := "$assertionsDisabled", type := .boolean, accessFlags := 4120, slot := 9, constantValue := 0 }]
  methods := #[k13m0, k13m1]
  instanceTypes := #[]
  staticTypes := #[.double, .double, .double, .double, .double, .long, .long, .double, .double, .boolean]
  resolved := Array.replicate 460 none
  statics := none }

def pool14 : Array CpInfo := pool [(1, u "java/lang/Cloneable"), (0, .class_ 1), (0, u "java/lang/Object"), (0, .class_ 3)] 3

/-- java/lang/Cloneable -/
def k14 : Class := { plain "java/lang/Cloneable" (some 0) with
  accessFlags := 1537
  interfaces := #[]
  cf := some (fileOf pool14 2 #[] #[] 1537 4 #[] #[])
  fields := #[]
  methods := #[]
  instanceTypes := #[]
  staticTypes := #[]
  resolved := Array.replicate 8 none
  statics := none }

/-- the primitive byte -/
def k15 : Class := { plain "byte" none with kind := .primitive 'B', accessFlags := 0x411 }
/-- [B -/
def k16 : Class := { plain "[B" (some 0) with kind := .array 15 .byte, interfaces := #[14, 2], accessFlags := 1041 }

/-- the primitive int -/
def k17 : Class := { plain "int" none with kind := .primitive 'I', accessFlags := 0x411 }
/-- [I -/
def k18 : Class := { plain "[I" (some 0) with kind := .array 17 .int, interfaces := #[14, 2], accessFlags := 1041 }

/-- [Ljava/lang/Long; -/
def k19 : Class := { plain "[Ljava/lang/Long;" (some 0) with kind := .array 7 (.object "java/lang/Long"), interfaces := #[14, 2], accessFlags := 1041 }

def heap : Heap := #[{ cls := 8, slots := #[.ref 1, .null, .int 0], vm := .statics 8 },
  { cls := 19, slots := #[.ref 2, .ref 3, .ref 4, .ref 5, .ref 6, .ref 7, .ref 8, .ref 9, .ref 10, .ref 11, .ref 12, .ref 13, .ref 14, .ref 15, .ref 16, .ref 17, .ref 18, .ref 19, .ref 20, .ref 21, .ref 22, .ref 23, .ref 24, .ref 25, .ref 26, .ref 27, .ref 28, .ref 29, .ref 30, .ref 31, .ref 32, .ref 33, .ref 34, .ref 35, .ref 36, .ref 37, .ref 38, .ref 39, .ref 40, .ref 41, .ref 42, .ref 43, .ref 44, .ref 45, .ref 46, .ref 47, .ref 48, .ref 49, .ref 50, .ref 51, .ref 52, .ref 53, .ref 54, .ref 55, .ref 56, .ref 57, .ref 58, .ref 59, .ref 60, .ref 61, .ref 62, .ref 63, .ref 64, .ref 65, .ref 66, .ref 67, .ref 68, .ref 69, .ref 70, .ref 71, .ref 72, .ref 73, .ref 74, .ref 75, .ref 76, .ref 77, .ref 78, .ref 79, .ref 80, .ref 81, .ref 82, .ref 83, .ref 84, .ref 85, .ref 86, .ref 87, .ref 88, .ref 89, .ref 90, .ref 91, .ref 92, .ref 93, .ref 94, .ref 95, .ref 96, .ref 97, .ref 98, .ref 99, .ref 100, .ref 101, .ref 102, .ref 103, .ref 104, .ref 105, .ref 106, .ref 107, .ref 108, .ref 109, .ref 110, .ref 111, .ref 112, .ref 113, .ref 114, .ref 115, .ref 116, .ref 117, .ref 118, .ref 119, .ref 120, .ref 121, .ref 122, .ref 123, .ref 124, .ref 125, .ref 126, .ref 127, .ref 128, .ref 129, .ref 130, .ref 131, .ref 132, .ref 133, .ref 134, .ref 135, .ref 136, .ref 137, .ref 138, .ref 139, .ref 140, .ref 141, .ref 142, .ref 143, .ref 144, .ref 145, .ref 146, .ref 147, .ref 148, .ref 149, .ref 150, .ref 151, .ref 152, .ref 153, .ref 154, .ref 155, .ref 156, .ref 157, .ref 158, .ref 159, .ref 160, .ref 161, .ref 162, .ref 163, .ref 164, .ref 165, .ref 166, .ref 167, .ref 168, .ref 169, .ref 170, .ref 171, .ref 172, .ref 173, .ref 174, .ref 175, .ref 176, .ref 177, .ref 178, .ref 179, .ref 180, .ref 181, .ref 182, .ref 183, .ref 184, .ref 185, .ref 186, .ref 187, .ref 188, .ref 189, .ref 190, .ref 191, .ref 192, .ref 193, .ref 194, .ref 195, .ref 196, .ref 197, .ref 198, .ref 199, .ref 200, .ref 201, .ref 202, .ref 203, .ref 204, .ref 205, .ref 206, .ref 207, .ref 208, .ref 209, .ref 210, .ref 211, .ref 212, .ref 213, .ref 214, .ref 215, .ref 216, .ref 217, .ref 218, .ref 219, .ref 220, .ref 221, .ref 222, .ref 223, .ref 224, .ref 225, .ref 226, .ref 227, .ref 228, .ref 229, .ref 230, .ref 231, .ref 232, .ref 233, .ref 234, .ref 235, .ref 236, .ref 237, .ref 238, .ref 239, .ref 240, .ref 241, .ref 242, .ref 243, .ref 244, .ref 245, .ref 246, .ref 247, .ref 248, .ref 249, .ref 250, .ref 251, .ref 252, .ref 253, .ref 254, .ref 255, .ref 256, .ref 257], vm := .none },
  { cls := 7, slots := #[.long (-128)], vm := .none },
  { cls := 7, slots := #[.long (-127)], vm := .none },
  { cls := 7, slots := #[.long (-126)], vm := .none },
  { cls := 7, slots := #[.long (-125)], vm := .none },
  { cls := 7, slots := #[.long (-124)], vm := .none },
  { cls := 7, slots := #[.long (-123)], vm := .none },
  { cls := 7, slots := #[.long (-122)], vm := .none },
  { cls := 7, slots := #[.long (-121)], vm := .none },
  { cls := 7, slots := #[.long (-120)], vm := .none },
  { cls := 7, slots := #[.long (-119)], vm := .none },
  { cls := 7, slots := #[.long (-118)], vm := .none },
  { cls := 7, slots := #[.long (-117)], vm := .none },
  { cls := 7, slots := #[.long (-116)], vm := .none },
  { cls := 7, slots := #[.long (-115)], vm := .none },
  { cls := 7, slots := #[.long (-114)], vm := .none },
  { cls := 7, slots := #[.long (-113)], vm := .none },
  { cls := 7, slots := #[.long (-112)], vm := .none },
  { cls := 7, slots := #[.long (-111)], vm := .none },
  { cls := 7, slots := #[.long (-110)], vm := .none },
  { cls := 7, slots := #[.long (-109)], vm := .none },
  { cls := 7, slots := #[.long (-108)], vm := .none },
  { cls := 7, slots := #[.long (-107)], vm := .none },
  { cls := 7, slots := #[.long (-106)], vm := .none },
  { cls := 7, slots := #[.long (-105)], vm := .none },
  { cls := 7, slots := #[.long (-104)], vm := .none },
  { cls := 7, slots := #[.long (-103)], vm := .none },
  { cls := 7, slots := #[.long (-102)], vm := .none },
  { cls := 7, slots := #[.long (-101)], vm := .none },
  { cls := 7, slots := #[.long (-100)], vm := .none },
  { cls := 7, slots := #[.long (-99)], vm := .none },
  { cls := 7, slots := #[.long (-98)], vm := .none },
  { cls := 7, slots := #[.long (-97)], vm := .none },
  { cls := 7, slots := #[.long (-96)], vm := .none },
  { cls := 7, slots := #[.long (-95)], vm := .none },
  { cls := 7, slots := #[.long (-94)], vm := .none },
  { cls := 7, slots := #[.long (-93)], vm := .none },
  { cls := 7, slots := #[.long (-92)], vm := .none },
  { cls := 7, slots := #[.long (-91)], vm := .none },
  { cls := 7, slots := #[.long (-90)], vm := .none },
  { cls := 7, slots := #[.long (-89)], vm := .none },
  { cls := 7, slots := #[.long (-88)], vm := .none },
  { cls := 7, slots := #[.long (-87)], vm := .none },
  { cls := 7, slots := #[.long (-86)], vm := .none },
  { cls := 7, slots := #[.long (-85)], vm := .none },
  { cls := 7, slots := #[.long (-84)], vm := .none },
  { cls := 7, slots := #[.long (-83)], vm := .none },
  { cls := 7, slots := #[.long (-82)], vm := .none },
  { cls := 7, slots := #[.long (-81)], vm := .none },
  { cls := 7, slots := #[.long (-80)], vm := .none },
  { cls := 7, slots := #[.long (-79)], vm := .none },
  { cls := 7, slots := #[.long (-78)], vm := .none },
  { cls := 7, slots := #[.long (-77)], vm := .none },
  { cls := 7, slots := #[.long (-76)], vm := .none },
  { cls := 7, slots := #[.long (-75)], vm := .none },
  { cls := 7, slots := #[.long (-74)], vm := .none },
  { cls := 7, slots := #[.long (-73)], vm := .none },
  { cls := 7, slots := #[.long (-72)], vm := .none },
  { cls := 7, slots := #[.long (-71)], vm := .none },
  { cls := 7, slots := #[.long (-70)], vm := .none },
  { cls := 7, slots := #[.long (-69)], vm := .none },
  { cls := 7, slots := #[.long (-68)], vm := .none },
  { cls := 7, slots := #[.long (-67)], vm := .none },
  { cls := 7, slots := #[.long (-66)], vm := .none },
  { cls := 7, slots := #[.long (-65)], vm := .none },
  { cls := 7, slots := #[.long (-64)], vm := .none },
  { cls := 7, slots := #[.long (-63)], vm := .none },
  { cls := 7, slots := #[.long (-62)], vm := .none },
  { cls := 7, slots := #[.long (-61)], vm := .none },
  { cls := 7, slots := #[.long (-60)], vm := .none },
  { cls := 7, slots := #[.long (-59)], vm := .none },
  { cls := 7, slots := #[.long (-58)], vm := .none },
  { cls := 7, slots := #[.long (-57)], vm := .none },
  { cls := 7, slots := #[.long (-56)], vm := .none },
  { cls := 7, slots := #[.long (-55)], vm := .none },
  { cls := 7, slots := #[.long (-54)], vm := .none },
  { cls := 7, slots := #[.long (-53)], vm := .none },
  { cls := 7, slots := #[.long (-52)], vm := .none },
  { cls := 7, slots := #[.long (-51)], vm := .none },
  { cls := 7, slots := #[.long (-50)], vm := .none },
  { cls := 7, slots := #[.long (-49)], vm := .none },
  { cls := 7, slots := #[.long (-48)], vm := .none },
  { cls := 7, slots := #[.long (-47)], vm := .none },
  { cls := 7, slots := #[.long (-46)], vm := .none },
  { cls := 7, slots := #[.long (-45)], vm := .none },
  { cls := 7, slots := #[.long (-44)], vm := .none },
  { cls := 7, slots := #[.long (-43)], vm := .none },
  { cls := 7, slots := #[.long (-42)], vm := .none },
  { cls := 7, slots := #[.long (-41)], vm := .none },
  { cls := 7, slots := #[.long (-40)], vm := .none },
  { cls := 7, slots := #[.long (-39)], vm := .none },
  { cls := 7, slots := #[.long (-38)], vm := .none },
  { cls := 7, slots := #[.long (-37)], vm := .none },
  { cls := 7, slots := #[.long (-36)], vm := .none },
  { cls := 7, slots := #[.long (-35)], vm := .none },
  { cls := 7, slots := #[.long (-34)], vm := .none },
  { cls := 7, slots := #[.long (-33)], vm := .none },
  { cls := 7, slots := #[.long (-32)], vm := .none },
  { cls := 7, slots := #[.long (-31)], vm := .none },
  { cls := 7, slots := #[.long (-30)], vm := .none },
  { cls := 7, slots := #[.long (-29)], vm := .none },
  { cls := 7, slots := #[.long (-28)], vm := .none },
  { cls := 7, slots := #[.long (-27)], vm := .none },
  { cls := 7, slots := #[.long (-26)], vm := .none },
  { cls := 7, slots := #[.long (-25)], vm := .none },
  { cls := 7, slots := #[.long (-24)], vm := .none },
  { cls := 7, slots := #[.long (-23)], vm := .none },
  { cls := 7, slots := #[.long (-22)], vm := .none },
  { cls := 7, slots := #[.long (-21)], vm := .none },
  { cls := 7, slots := #[.long (-20)], vm := .none },
  { cls := 7, slots := #[.long (-19)], vm := .none },
  { cls := 7, slots := #[.long (-18)], vm := .none },
  { cls := 7, slots := #[.long (-17)], vm := .none },
  { cls := 7, slots := #[.long (-16)], vm := .none },
  { cls := 7, slots := #[.long (-15)], vm := .none },
  { cls := 7, slots := #[.long (-14)], vm := .none },
  { cls := 7, slots := #[.long (-13)], vm := .none },
  { cls := 7, slots := #[.long (-12)], vm := .none },
  { cls := 7, slots := #[.long (-11)], vm := .none },
  { cls := 7, slots := #[.long (-10)], vm := .none },
  { cls := 7, slots := #[.long (-9)], vm := .none },
  { cls := 7, slots := #[.long (-8)], vm := .none },
  { cls := 7, slots := #[.long (-7)], vm := .none },
  { cls := 7, slots := #[.long (-6)], vm := .none },
  { cls := 7, slots := #[.long (-5)], vm := .none },
  { cls := 7, slots := #[.long (-4)], vm := .none },
  { cls := 7, slots := #[.long (-3)], vm := .none },
  { cls := 7, slots := #[.long (-2)], vm := .none },
  { cls := 7, slots := #[.long (-1)], vm := .none },
  { cls := 7, slots := #[.long (0)], vm := .none },
  { cls := 7, slots := #[.long (1)], vm := .none },
  { cls := 7, slots := #[.long (2)], vm := .none },
  { cls := 7, slots := #[.long (3)], vm := .none },
  { cls := 7, slots := #[.long (4)], vm := .none },
  { cls := 7, slots := #[.long (5)], vm := .none },
  { cls := 7, slots := #[.long (6)], vm := .none },
  { cls := 7, slots := #[.long (7)], vm := .none },
  { cls := 7, slots := #[.long (8)], vm := .none },
  { cls := 7, slots := #[.long (9)], vm := .none },
  { cls := 7, slots := #[.long (10)], vm := .none },
  { cls := 7, slots := #[.long (11)], vm := .none },
  { cls := 7, slots := #[.long (12)], vm := .none },
  { cls := 7, slots := #[.long (13)], vm := .none },
  { cls := 7, slots := #[.long (14)], vm := .none },
  { cls := 7, slots := #[.long (15)], vm := .none },
  { cls := 7, slots := #[.long (16)], vm := .none },
  { cls := 7, slots := #[.long (17)], vm := .none },
  { cls := 7, slots := #[.long (18)], vm := .none },
  { cls := 7, slots := #[.long (19)], vm := .none },
  { cls := 7, slots := #[.long (20)], vm := .none },
  { cls := 7, slots := #[.long (21)], vm := .none },
  { cls := 7, slots := #[.long (22)], vm := .none },
  { cls := 7, slots := #[.long (23)], vm := .none },
  { cls := 7, slots := #[.long (24)], vm := .none },
  { cls := 7, slots := #[.long (25)], vm := .none },
  { cls := 7, slots := #[.long (26)], vm := .none },
  { cls := 7, slots := #[.long (27)], vm := .none },
  { cls := 7, slots := #[.long (28)], vm := .none },
  { cls := 7, slots := #[.long (29)], vm := .none },
  { cls := 7, slots := #[.long (30)], vm := .none },
  { cls := 7, slots := #[.long (31)], vm := .none },
  { cls := 7, slots := #[.long (32)], vm := .none },
  { cls := 7, slots := #[.long (33)], vm := .none },
  { cls := 7, slots := #[.long (34)], vm := .none },
  { cls := 7, slots := #[.long (35)], vm := .none },
  { cls := 7, slots := #[.long (36)], vm := .none },
  { cls := 7, slots := #[.long (37)], vm := .none },
  { cls := 7, slots := #[.long (38)], vm := .none },
  { cls := 7, slots := #[.long (39)], vm := .none },
  { cls := 7, slots := #[.long (40)], vm := .none },
  { cls := 7, slots := #[.long (41)], vm := .none },
  { cls := 7, slots := #[.long (42)], vm := .none },
  { cls := 7, slots := #[.long (43)], vm := .none },
  { cls := 7, slots := #[.long (44)], vm := .none },
  { cls := 7, slots := #[.long (45)], vm := .none },
  { cls := 7, slots := #[.long (46)], vm := .none },
  { cls := 7, slots := #[.long (47)], vm := .none },
  { cls := 7, slots := #[.long (48)], vm := .none },
  { cls := 7, slots := #[.long (49)], vm := .none },
  { cls := 7, slots := #[.long (50)], vm := .none },
  { cls := 7, slots := #[.long (51)], vm := .none },
  { cls := 7, slots := #[.long (52)], vm := .none },
  { cls := 7, slots := #[.long (53)], vm := .none },
  { cls := 7, slots := #[.long (54)], vm := .none },
  { cls := 7, slots := #[.long (55)], vm := .none },
  { cls := 7, slots := #[.long (56)], vm := .none },
  { cls := 7, slots := #[.long (57)], vm := .none },
  { cls := 7, slots := #[.long (58)], vm := .none },
  { cls := 7, slots := #[.long (59)], vm := .none },
  { cls := 7, slots := #[.long (60)], vm := .none },
  { cls := 7, slots := #[.long (61)], vm := .none },
  { cls := 7, slots := #[.long (62)], vm := .none },
  { cls := 7, slots := #[.long (63)], vm := .none },
  { cls := 7, slots := #[.long (64)], vm := .none },
  { cls := 7, slots := #[.long (65)], vm := .none },
  { cls := 7, slots := #[.long (66)], vm := .none },
  { cls := 7, slots := #[.long (67)], vm := .none },
  { cls := 7, slots := #[.long (68)], vm := .none },
  { cls := 7, slots := #[.long (69)], vm := .none },
  { cls := 7, slots := #[.long (70)], vm := .none },
  { cls := 7, slots := #[.long (71)], vm := .none },
  { cls := 7, slots := #[.long (72)], vm := .none },
  { cls := 7, slots := #[.long (73)], vm := .none },
  { cls := 7, slots := #[.long (74)], vm := .none },
  { cls := 7, slots := #[.long (75)], vm := .none },
  { cls := 7, slots := #[.long (76)], vm := .none },
  { cls := 7, slots := #[.long (77)], vm := .none },
  { cls := 7, slots := #[.long (78)], vm := .none },
  { cls := 7, slots := #[.long (79)], vm := .none },
  { cls := 7, slots := #[.long (80)], vm := .none },
  { cls := 7, slots := #[.long (81)], vm := .none },
  { cls := 7, slots := #[.long (82)], vm := .none },
  { cls := 7, slots := #[.long (83)], vm := .none },
  { cls := 7, slots := #[.long (84)], vm := .none },
  { cls := 7, slots := #[.long (85)], vm := .none },
  { cls := 7, slots := #[.long (86)], vm := .none },
  { cls := 7, slots := #[.long (87)], vm := .none },
  { cls := 7, slots := #[.long (88)], vm := .none },
  { cls := 7, slots := #[.long (89)], vm := .none },
  { cls := 7, slots := #[.long (90)], vm := .none },
  { cls := 7, slots := #[.long (91)], vm := .none },
  { cls := 7, slots := #[.long (92)], vm := .none },
  { cls := 7, slots := #[.long (93)], vm := .none },
  { cls := 7, slots := #[.long (94)], vm := .none },
  { cls := 7, slots := #[.long (95)], vm := .none },
  { cls := 7, slots := #[.long (96)], vm := .none },
  { cls := 7, slots := #[.long (97)], vm := .none },
  { cls := 7, slots := #[.long (98)], vm := .none },
  { cls := 7, slots := #[.long (99)], vm := .none },
  { cls := 7, slots := #[.long (100)], vm := .none },
  { cls := 7, slots := #[.long (101)], vm := .none },
  { cls := 7, slots := #[.long (102)], vm := .none },
  { cls := 7, slots := #[.long (103)], vm := .none },
  { cls := 7, slots := #[.long (104)], vm := .none },
  { cls := 7, slots := #[.long (105)], vm := .none },
  { cls := 7, slots := #[.long (106)], vm := .none },
  { cls := 7, slots := #[.long (107)], vm := .none },
  { cls := 7, slots := #[.long (108)], vm := .none },
  { cls := 7, slots := #[.long (109)], vm := .none },
  { cls := 7, slots := #[.long (110)], vm := .none },
  { cls := 7, slots := #[.long (111)], vm := .none },
  { cls := 7, slots := #[.long (112)], vm := .none },
  { cls := 7, slots := #[.long (113)], vm := .none },
  { cls := 7, slots := #[.long (114)], vm := .none },
  { cls := 7, slots := #[.long (115)], vm := .none },
  { cls := 7, slots := #[.long (116)], vm := .none },
  { cls := 7, slots := #[.long (117)], vm := .none },
  { cls := 7, slots := #[.long (118)], vm := .none },
  { cls := 7, slots := #[.long (119)], vm := .none },
  { cls := 7, slots := #[.long (120)], vm := .none },
  { cls := 7, slots := #[.long (121)], vm := .none },
  { cls := 7, slots := #[.long (122)], vm := .none },
  { cls := 7, slots := #[.long (123)], vm := .none },
  { cls := 7, slots := #[.long (124)], vm := .none },
  { cls := 7, slots := #[.long (125)], vm := .none },
  { cls := 7, slots := #[.long (126)], vm := .none },
  { cls := 7, slots := #[.long (127)], vm := .none }]
def classes : Array Class := #[k0, k1, k2, k3, k4, k5, k6, k7, k8, k9, k10, k11, k12, k13, k14, k15, k16, k17, k18, k19]
def interned : List (Array UInt16 × Addr) := []
def slotsUsed : Nat := 515
def theMethod : MethodId := ⟨1, 1⟩
def args0 : Array Value := #[.long 5, .long 2, .int 1]
def aboutOver (below : List Frame) : State where
  vm := { classes := classes, interned := interned.toArray }
  heap := heap
  slotsUsed := slotsUsed
  threads := #[{ frames := .invoking theMethod args0 :: below }]
def below0 : List Frame := [.native { method := ⟨0, 0⟩, args := #[] }]
def about1 : State := aboutOver below0
def p0 : Program := .bare "" "" ""
def e0 : Env := launch0.env 0 0 0
theorem w_frames : about1.frames = Frame.invoking theMethod args0 :: below0 := rfl
set_option maxRecDepth 65536 in
theorem w_args : argsFit about1.vm theMethod args0 = true := by decide +kernel
set_option maxRecDepth 65536 in
theorem w_heap : heapFits about1 = true := by decide +kernel
set_option maxRecDepth 65536 in
theorem w_runnable : about1.curStatus? = some .runnable := by decide +kernel
set_option maxRecDepth 65536 in
theorem w_alone : about1.alone = true := by decide +kernel
set_option maxRecDepth 65536 in
theorem w_named : about1.methodNamed? x = some theMethod := by decide +kernel
set_option maxRecDepth 65536 in
theorem w_hears : about1.hears theMethod below0 = true := by decide +kernel
set_option maxRecDepth 65536 in
theorem w_ripe : about1.ripe theMethod args0 below0 = true := by decide +kernel
theorem w_running : about1.status = .running := rfl
set_option maxRecDepth 65536 in
theorem w_room : about1.hasRoom e0.platform room_1 = true :=
  launch0.hasRoom_least _ room_1 (by decide +kernel) (by decide +kernel) (by decide +kernel) (by decide +kernel) (by decide +kernel) (by decide +kernel)
theorem allAtoms_all (ts : List Jvm.Cond) (a : Array Jvm.Value) (st : Jvm.State) : (allAtoms ts).before a st = ts.all (fun c => c.before a st) := by
  induction ts with
  | nil => rfl
  | cons c t ih =>
    show (Jvm.Cond.and c (allAtoms t)).before a st = _
    rw [Jvm.Cond.before_and, ih, List.all_cons]
def words1 : List Jvm.Cond := Jvm.Cond.code x code maxLocals ret :: tables_1
/-- a 'code' word, met by the world's own term for the bytes: nothing is compared byte by byte -/
theorem code_word {y : MethodName} {bytes : ByteArray} {mx : Nat} {rt : Option FieldType} {a : Array Value} {s : State} {m : MethodId} {meth : Method} {c : Code} (h1 : s.methodNamed? y = some m) (h2 : s.vm.method? m = some meth) (h3 : meth.code = some c) (h4 : c.code = bytes)
    (h5 : (c.maxLocals == mx && c.exceptionTable.isEmpty && decide (c.maxStack ≤ mostOperands) && decide (meth.sig.returnType = rt) && !meth.locks && decide (parseMethodDescriptor y.desc = some meth.sig)) = true) : (Jvm.Cond.code y bytes mx rt).before a s = true := by
  simp only [Bool.and_eq_true, beq_iff_eq, Bool.not_eq_true', decide_eq_true_eq] at h5
  obtain ⟨⟨⟨⟨⟨g1, g2⟩, g3⟩, g4⟩, g5⟩, g6⟩ := h5
  simp [Cond.before, Cond.holds, Cond.value, h1, h2, h3, h4, g1, g2, g3, g4, g5, g6]
def isCode : Jvm.Cond → Bool
  | .code _ _ _ _ => true
  | _ => false
theorem all_split {L : List Jvm.Cond} {P : Jvm.Cond → Bool} (h1 : L.all (fun c => isCode c || P c) = true) (h2 : ∀ c ∈ L.filter isCode, P c = true) : L.all P = true := by
  refine List.all_eq_true.mpr fun c hc => ?_
  have h := List.all_eq_true.mp h1 c hc
  rcases Bool.eq_false_or_eq_true (isCode c) with hi | hi
  · exact h2 c (List.mem_filter.mpr ⟨hc, hi⟩)
  · simpa [hi] using h
set_option maxRecDepth 65536 in
theorem w_c0 : (Jvm.Cond.code x code maxLocals ret).before args0 about1 = true := code_word (m := ⟨1, 1⟩) (meth := k1m1) (c := k1c1) (by decide +kernel) rfl rfl rfl (by decide +kernel)
set_option maxRecDepth 65536 in
theorem w_c1 : (Jvm.Cond.code ({ cls := "java/lang/Long", name := "valueOf", desc := "(J)Ljava/lang/Long;" } : Jvm.MethodName) jdk_35_method_24_code (3 : Nat) (Option.some (Jvm.ClassFile.FieldType.object "java/lang/Long"))).before args0 about1 = true := code_word (m := ⟨7, 0⟩) (meth := k7m0) (c := k7c0) (by decide +kernel) rfl rfl rfl (by decide +kernel)
set_option maxRecDepth 65536 in
theorem w_c2 : (Jvm.Cond.code ({ cls := "com/example/countersign/countersign/server/Exchange", name := "<init>", desc := "(Ljava/lang/String;Ljava/lang/Long;Ljava/lang/Long;Ljava/lang/Long;Ljava/lang/String;)V" } : Jvm.MethodName) prog_24_method_1_code (6 : Nat) (Option.none : Option Jvm.ClassFile.FieldType)).before args0 about1 = true := code_word (m := ⟨10, 0⟩) (meth := k10m0) (c := k10c0) (by decide +kernel) rfl rfl rfl (by decide +kernel)
set_option maxRecDepth 65536 in
theorem w_c3 : (Jvm.Cond.code ({ cls := "java/lang/Record", name := "<init>", desc := "()V" } : Jvm.MethodName) jdk_30_method_1_code (1 : Nat) (Option.none : Option Jvm.ClassFile.FieldType)).before args0 about1 = true := code_word (m := ⟨9, 0⟩) (meth := k9m0) (c := k9c0) (by decide +kernel) rfl rfl rfl (by decide +kernel)
set_option maxRecDepth 65536 in
theorem w_c4 : (Jvm.Cond.code ({ cls := "java/lang/Object", name := "<init>", desc := "()V" } : Jvm.MethodName) object_method_1_code (1 : Nat) (Option.none : Option Jvm.ClassFile.FieldType)).before args0 about1 = true := code_word (m := ⟨0, 0⟩) (meth := k0m0) (c := k0c0) (by decide +kernel) rfl rfl rfl (by decide +kernel)
set_option maxRecDepth 65536 in
theorem w_c5 : (Jvm.Cond.code ({ cls := "com/example/countersign/countersign/server/Exchange", name := "expiredBy", desc := "(J)Z" } : Jvm.MethodName) prog_24_method_6_code (3 : Nat) (Option.some Jvm.ClassFile.FieldType.boolean)).before args0 about1 = true := code_word (m := ⟨10, 1⟩) (meth := k10m1) (c := k10c1) (by decide +kernel) rfl rfl rfl (by decide +kernel)
set_option maxRecDepth 65536 in
theorem w_c6 : (Jvm.Cond.code ({ cls := "java/lang/Long", name := "longValue", desc := "()J" } : Jvm.MethodName) jdk_35_method_31_code (1 : Nat) (Option.some Jvm.ClassFile.FieldType.long)).before args0 about1 = true := code_word (m := ⟨7, 2⟩) (meth := k7m2) (c := k7c2) (by decide +kernel) rfl rfl rfl (by decide +kernel)
set_option maxRecDepth 65536 in
theorem w_c7 : (Jvm.Cond.code ({ cls := "java/lang/Math", name := "max", desc := "(JJ)J" } : Jvm.MethodName) jdk_29_method_66_code (4 : Nat) (Option.some Jvm.ClassFile.FieldType.long)).before args0 about1 = true := code_word (m := ⟨13, 1⟩) (meth := k13m1) (c := k13c1) (by decide +kernel) rfl rfl rfl (by decide +kernel)
set_option maxRecDepth 65536 in
theorem w_c8 : (Jvm.Cond.code ({ cls := "java/lang/Long", name := "<init>", desc := "(J)V" } : Jvm.MethodName) jdk_35_method_26_code (3 : Nat) (Option.none : Option Jvm.ClassFile.FieldType)).before args0 about1 = true := code_word (m := ⟨7, 1⟩) (meth := k7m1) (c := k7c1) (by decide +kernel) rfl rfl rfl (by decide +kernel)
set_option maxRecDepth 65536 in
theorem w_c9 : (Jvm.Cond.code ({ cls := "java/lang/Number", name := "<init>", desc := "()V" } : Jvm.MethodName) jdk_18_method_1_code (1 : Nat) (Option.none : Option Jvm.ClassFile.FieldType)).before args0 about1 = true := code_word (m := ⟨3, 0⟩) (meth := k3m0) (c := k3c0) (by decide +kernel) rfl rfl rfl (by decide +kernel)
def codes1 : List Jvm.Cond := [Jvm.Cond.code x code maxLocals ret, Jvm.Cond.code ({ cls := "java/lang/Long", name := "valueOf", desc := "(J)Ljava/lang/Long;" } : Jvm.MethodName) jdk_35_method_24_code (3 : Nat) (Option.some (Jvm.ClassFile.FieldType.object "java/lang/Long")), Jvm.Cond.code ({ cls := "com/example/countersign/countersign/server/Exchange", name := "<init>", desc := "(Ljava/lang/String;Ljava/lang/Long;Ljava/lang/Long;Ljava/lang/Long;Ljava/lang/String;)V" } : Jvm.MethodName) prog_24_method_1_code (6 : Nat) (Option.none : Option Jvm.ClassFile.FieldType), Jvm.Cond.code ({ cls := "java/lang/Record", name := "<init>", desc := "()V" } : Jvm.MethodName) jdk_30_method_1_code (1 : Nat) (Option.none : Option Jvm.ClassFile.FieldType), Jvm.Cond.code ({ cls := "java/lang/Object", name := "<init>", desc := "()V" } : Jvm.MethodName) object_method_1_code (1 : Nat) (Option.none : Option Jvm.ClassFile.FieldType), Jvm.Cond.code ({ cls := "com/example/countersign/countersign/server/Exchange", name := "expiredBy", desc := "(J)Z" } : Jvm.MethodName) prog_24_method_6_code (3 : Nat) (Option.some Jvm.ClassFile.FieldType.boolean), Jvm.Cond.code ({ cls := "java/lang/Long", name := "longValue", desc := "()J" } : Jvm.MethodName) jdk_35_method_31_code (1 : Nat) (Option.some Jvm.ClassFile.FieldType.long), Jvm.Cond.code ({ cls := "java/lang/Math", name := "max", desc := "(JJ)J" } : Jvm.MethodName) jdk_29_method_66_code (4 : Nat) (Option.some Jvm.ClassFile.FieldType.long), Jvm.Cond.code ({ cls := "java/lang/Long", name := "<init>", desc := "(J)V" } : Jvm.MethodName) jdk_35_method_26_code (3 : Nat) (Option.none : Option Jvm.ClassFile.FieldType), Jvm.Cond.code ({ cls := "java/lang/Number", name := "<init>", desc := "()V" } : Jvm.MethodName) jdk_18_method_1_code (1 : Nat) (Option.none : Option Jvm.ClassFile.FieldType)]
set_option maxRecDepth 65536 in
theorem codes_eq : words1.filter isCode = codes1 := rfl
theorem w_codes : ∀ c ∈ words1.filter isCode, c.before args0 about1 = true := by
  rw [codes_eq]
  intro c hc
  simp only [codes1, List.mem_cons, List.not_mem_nil, or_false] at hc
  rcases hc with rfl | rfl | rfl | rfl | rfl | rfl | rfl | rfl | rfl | rfl
  · exact w_c0
  · exact w_c1
  · exact w_c2
  · exact w_c3
  · exact w_c4
  · exact w_c5
  · exact w_c6
  · exact w_c7
  · exact w_c8
  · exact w_c9
set_option maxRecDepth 65536 in
theorem w_t1 : (words1.take 24).all (fun c => isCode c || c.before args0 about1) = true := by decide +kernel
set_option maxRecDepth 65536 in
theorem w_t2 : ((words1.drop 24).take 24).all (fun c => isCode c || c.before args0 about1) = true := by decide +kernel
set_option maxRecDepth 65536 in
theorem w_t3 : ((words1.drop 24).drop 24).all (fun c => isCode c || c.before args0 about1) = true := by decide +kernel
theorem w_tables : (allAtoms (Jvm.Cond.code x code maxLocals ret :: tables_1)).before args0 about1 = true := by
  rw [allAtoms_all]
  show words1.all (fun c => c.before args0 about1) = true
  refine all_split ?_ w_codes
  rw [← List.take_append_drop 24 words1, List.all_append, w_t1, ← List.take_append_drop 24 (words1.drop 24), List.all_append, w_t2, w_t3]
  rfl
set_option maxRecDepth 65536 in
theorem w_rest : rest_1_c.before args0 about1 = true := by decide +kernel
set_option maxRecDepth 65536 in
theorem w_case : (Jvm.Cond.and given_1 narrow_1).before args0 about1 = true := by decide +kernel
theorem w_applies : (headSpec (Jvm.Cond.code x code maxLocals ret :: tables_1) room_1).applies x e0.platform about1 = true :=
  (Spec.applies_iff w_frames).mpr ⟨w_running, w_runnable, w_alone, w_named, w_hears, w_ripe, w_room, w_tables⟩
theorem atStart : AtStart classFile x code maxLocals ret World_1 tables_1 room_1 Calls_1 rest_1 Pre_1 launch0 p0 e0 about1 theMethod args0 below0 :=
  ⟨lists_1, trivial, launch0.admits_env _ _ _, launch0.least_env, fairChoices_fair.cas, fairChoices_fair.clock, w_frames, w_args, w_heap, w_applies, trivial, w_rest, w_case⟩
end start1
theorem witness_1 : WitnessClaimed_1 := ⟨start1.p0, start1.e0, start1.about1, start1.theMethod, start1.args0, start1.below0, start1.atStart⟩
end Jvm.Pilot.@@N@@
