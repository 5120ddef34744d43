import JvmDerived
import JvmDerived.Pilot.@@N@@Statement
import JvmDerived.Pilot.@@N@@Code
set_option linter.unusedVariables false
set_option linter.unusedSimpArgs false
namespace Jvm.Pilot.@@N@@
open Jvm Jvm.ClassFile Sem Op Lib Jvm.Free Jvm.Stand Jvm.LawKit Jvm.RoadKit Bundle Jvm.Pilot.@@N@@.Jvm.D
/-- the run from U comes to a return whose value, heap and written places Q takes; it has made at most kc cells of ks slots -/
def own_Go (p : Program) (e : Env) (below : List Frame) (s : State) (Q : Option Value → Heap → List Loc → Prop) (kc ks : Nat) (U : State) : Prop :=
  ∃ t o, Steps p.tables e below U t ∧ t.status = .running ∧ Ended t below o ∧ ∃ v L, o = .returned v ∧ Q v t.heap L ∧ FrameEnd s o t L kc ks
section OwnKit
variable {p : Program} {l : Launch} {e : Env} {R : Room} {s : State} {m : MethodId} {args : Array Value} {below : List Frame} {meth : Method} {c : Code} {T : State} {locs : List Loc} {cells slots kc ks : Nat} {Z : State} {a0 : Array Value} {h : Heap} {Q : Option Value → Heap → List Loc → Prop}
theorem own_go {U U' : State} (f : ∀ t, Steps p.tables e below U' t → Steps p.tables e below U t) (g : own_Go p e below s Q kc ks U') : own_Go p e below s Q kc ks U := by
  obtain ⟨t, o, a, r⟩ := g
  exact ⟨t, o, f t a, r⟩
theorem own_end (X : Stand p l e R s m args below meth c T locs cells slots) (hlk : meth.locks = false) (eT : T.heap = h) {v : Option Value} (hv : meth.sig.returnType = none → v = none) (hc : cells ≤ kc) (hs : slots ≤ ks) (hq : Q v h locs) {U : State}
    (hst : ∀ fs, (∀ (f : JFrame) (acts : List Action), f.method = m → f.locked = none → f.entered = [] → (doReturn e (T.setTop f) acts v).1 = T.setFrames fs) → Steps p.tables e below U (T.setFrames fs)) : own_Go p e below s Q kc ks U := by
  obtain ⟨fs, hr, hrun, hended, hW, hsame⟩ := X.leave (v := v) hv hlk
  refine ⟨_, _, hst fs hr, hrun, hended, v, locs, rfl, ?_, ⟨v, rfl⟩, hW, hsame.mono hc hs⟩
  show Q v T.heap locs
  rw [eT]; exact hq
theorem own_retN (X : Stand p l e R s m args below meth c T locs cells slots) (hx : p.tables.exec = Jvm.exec) (hlk : meth.locks = false) (eT : T.heap = h) {pc : Nat} {Ls : Array Slot} {z : Int32} {t : FieldType} {rest : List Value} (hret : meth.sig.returnType = some t) (ht : t = .boolean ∨ t = .byte ∨ t = .char ∨ t = .short)
    (hd : decode c.code pc = .ok (.ireturn, 1)) (hc : cells ≤ kc) (hs : slots ≤ ks) (hq : Q (some (.int (nar t z))) h locs) : own_Go p e below s Q kc ks (T.setTop (mkF m pc Ls (.int z :: rest))) :=
  own_end X hlk eT (fun q => by rw [hret] at q; cases q) hc hs hq fun fs hr => retN X hx hret ht hd hr
theorem own_retI (X : Stand p l e R s m args below meth c T locs cells slots) (hx : p.tables.exec = Jvm.exec) (hlk : meth.locks = false) (eT : T.heap = h) {pc : Nat} {Ls : Array Slot} {z : Int32} {rest : List Value} (hret : meth.sig.returnType = some .int)
    (hd : decode c.code pc = .ok (.ireturn, 1)) (hc : cells ≤ kc) (hs : slots ≤ ks) (hq : Q (some (.int z)) h locs) : own_Go p e below s Q kc ks (T.setTop (mkF m pc Ls (.int z :: rest))) :=
  own_end X hlk eT (fun q => by rw [hret] at q; cases q) hc hs hq fun fs hr => retOut X hx hret rfl (Or.inl ⟨rfl, Or.inl rfl, z, rfl⟩) hd hr
theorem own_retJ (X : Stand p l e R s m args below meth c T locs cells slots) (hx : p.tables.exec = Jvm.exec) (hlk : meth.locks = false) (eT : T.heap = h) {pc : Nat} {Ls : Array Slot} {z : Int64} {rest : List Value} (hret : meth.sig.returnType = some .long)
    (hd : decode c.code pc = .ok (.lreturn, 1)) (hc : cells ≤ kc) (hs : slots ≤ ks) (hq : Q (some (.long z)) h locs) : own_Go p e below s Q kc ks (T.setTop (mkF m pc Ls (.long z :: rest))) :=
  own_end X hlk eT (fun q => by rw [hret] at q; cases q) hc hs hq fun fs hr => retOut X hx hret rfl (Or.inr (Or.inl ⟨rfl, rfl, z, rfl⟩)) hd hr
theorem own_retA (X : Stand p l e R s m args below meth c T locs cells slots) (hx : p.tables.exec = Jvm.exec) (hlk : meth.locks = false) (eT : T.heap = h) {pc : Nat} {Ls : Array Slot} {v : Value} {t : FieldType} {rest : List Value} (hret : meth.sig.returnType = some t) (ht : t.isReference = true) (hv : v.isRef = true)
    (hd : decode c.code pc = .ok (.areturn, 1)) (hc : cells ≤ kc) (hs : slots ≤ ks) (hq : Q (some v) h locs) : own_Go p e below s Q kc ks (T.setTop (mkF m pc Ls (v :: rest))) :=
  own_end X hlk eT (fun q => by rw [hret] at q; cases q) hc hs hq fun fs hr => retOut X hx hret (by cases t <;> first | (cases ht; done) | (rcases ref_cases hv with rfl | ⟨_, rfl⟩ <;> rfl)) (Or.inr (Or.inr (Or.inr (Or.inr ⟨rfl, ht, hv⟩)))) hd hr
theorem own_retV (X : Stand p l e R s m args below meth c T locs cells slots) (hx : p.tables.exec = Jvm.exec) (hlk : meth.locks = false) (eT : T.heap = h) {pc : Nat} {Ls : Array Slot} (hret : meth.sig.returnType = none)
    (hd : decode c.code pc = .ok (.return_, 1)) (hc : cells ≤ kc) (hs : slots ≤ ks) (hq : Q none h locs) : own_Go p e below s Q kc ks (T.setTop (mkF m pc Ls [])) :=
  own_end X hlk eT (fun _ => rfl) hc hs hq fun fs hr => X.returnOut hx hret hd hr
/-- a body's contract out of its walk -/
theorem own_met {y : MethodName} {bytes : ByteArray} {maxL : Nat} {ret : Option FieldType} {ws : List Jvm.Cond} {rm : Room} {as' : Array Value} (kc ks : Nat) (hpl : plainFor y = true)
    (body : ∀ (p : Program) (e : Env) (s : State) (m : MethodId) (below : List Frame) (meth : Method) (c : Code) (T : State), Stand p l e rm s m as' below meth c T [] 0 0 → p.tables.exec = Jvm.exec → c.code = bytes → c.maxLocals = maxL → meth.sig.returnType = ret → meth.locks = false → Z.Warmed39 s.vm → s.vm.findClass y.cls = some m.cls → meth.name = y.name → T.heap = h →
      own_Go p e below s Q kc ks (T.setTop (entryFrame m as' maxL))) :
    MetFree l y (head1 (Jvm.Cond.code y bytes maxL ret :: ws) rm) (fun a U => a = as' ∧ Z.Warmed39 U.vm ∧ U.heap = h) (fun _ _ _ _ _ => True) (fun _ U o U' => ∃ v L, o = .returned v ∧ Q v U'.heap L ∧ FrameEnd U o U' L kc ks) := by
  refine MetFree.of_bodySF hpl hisR ?_
  intro p e s m args below meth c s₁ Bd hml hP hK
  obtain ⟨rfl, hZ, hh⟩ := hP
  obtain ⟨t, o, h1, h2, h3, h4⟩ := body p e s m below meth c s₁ (Stand.of_body Bd) Bd.exec Bd.bytes hml Bd.returns Bd.notSynchronized hZ (findClass_of_methodNamed Bd.named) (name_of_methodNamed Bd.named Bd.method).1 (by rw [← hh, Bd.state]; rfl)
  exact ⟨t, o, h1, h2, h3, h4⟩
abbrev own_Met (l : Launch) (Z : State) (h : Heap) (y : MethodName) (bytes : ByteArray) (maxL : Nat) (ret : Option FieldType) (rm : Room) (as' : Array Value) (Q : Option Value → Heap → List Loc → Prop) : Prop :=
  MetFree l y (head1 [Jvm.Cond.code y bytes maxL ret] rm) (fun a U => a = as' ∧ Z.Warmed39 U.vm ∧ U.heap = h) (fun _ _ _ _ _ => True) (fun _ U o U' => ∃ v L, o = .returned v ∧ Q v U'.heap L ∧ FrameEnd U o U' L rm.cells rm.slots)
theorem own_callS {y : MethodName} {bytes : ByteArray} {maxL : Nat} {ret : Option FieldType} {rm : Room} {as' : Array Value} {own : String} {index : Nat} (X : Stand p l e R s m args below meth c T locs cells slots) (hx : p.tables.exec = Jvm.exec) (hZ : Z.Warmed39 s.vm) (hown : s.vm.findClass own = some m.cls)
    (w1 : (Jvm.Cond.methodLink own index y).before a0 Z = true) (w2 : (Jvm.Cond.static y).before a0 Z = true) (w3 : (Jvm.Cond.initialized y.cls).before a0 Z = true) (w4 : (Jvm.Cond.code y bytes maxL ret).before a0 Z = true) (hM : own_Met l Z h y bytes maxL ret rm as' Q) (W : Nat) (nc ns : Nat) (hnc : rm.cells = nc) (hns : rm.slots = ns)
    (hy : y.cls ≠ "java/lang/invoke/MethodHandle" ∧ y.cls ≠ "java/lang/invoke/VarHandle") (hf : rm.frames + 1 ≤ R.frames) (hl : W + (maxL + 11) + rm.locals ≤ R.locals) (hc : cells + nc ≤ R.cells) (hs : slots + ns ≤ R.slots) (eT : T.heap = h) {g : JFrame} (hg : g.method = m) (hsize : g.locals.size = c.maxLocals)
    (argsL rest : List Value) (hlen : ∀ sig, parseMethodDescriptor y.desc = some sig → argsL.length = sig.parameters.length) (hstack : g.stack = argsL.reverse ++ rest) (has : argsL.toArray = as') (hW : 2 * g.monitorRoom + (rest.map fun v => v.category).sum ≤ W) (hdg : decode c.code g.pc = .ok (.invokestatic index, 3)) :
    ∃ v T' L, Stand p l e R s m args below meth c T' (locs ++ L) (cells + nc) (slots + ns) ∧ Q v T'.heap L ∧ ∀ target, Steps p.tables e below (T'.setTop { g with pc := g.pc + 3, stack := v.toList ++ rest }) target → Steps p.tables e below (T.setTop g) target := by
  subst hnc hns
  obtain ⟨v, _, ⟨T', L', k', n'⟩, -, X', ⟨L, hQ, h1, h2, h3⟩, st⟩ := Jvm.LawKit.callS X hx hown (mvT hZ w1) (mvT hZ w2) (mvT hZ w3) (mvT hZ w4) hy (backOf (W := W) hM hZ w4 w3 hf hl) hg hsize hlen hstack hW hdg (fun _ _ => ⟨has, eT, hc, hs⟩)
  dsimp only [Pt.U, Pt.locs, Pt.cells, Pt.slots] at X' hQ h1 h2 h3 st
  subst h1 h2 h3
  exact ⟨v, T', L, X', hQ, st⟩
theorem own_callI {y : MethodName} {bytes : ByteArray} {maxL : Nat} {rm : Room} {as' : Array Value} {own : String} {index : Nat} (X : Stand p l e R s m args below meth c T locs cells slots) (hx : p.tables.exec = Jvm.exec) (hZ : Z.Warmed39 s.vm) (hown : s.vm.findClass own = some m.cls)
    (w1 : (Jvm.Cond.methodLink own index y).before a0 Z = true) (w2 : (Jvm.Cond.instanceMethod y).before a0 Z = true) (w3 : (Jvm.Cond.initialized y.cls).before a0 Z = true) (w4 : (Jvm.Cond.code y bytes maxL none).before a0 Z = true) (hM : own_Met l Z h y bytes maxL none rm as' Q) (W : Nat) (nc ns : Nat) (hnc : rm.cells = nc) (hns : rm.slots = ns) (hy1 : y.name = "<init>")
    (hy : y.cls ≠ "java/lang/invoke/MethodHandle" ∧ y.cls ≠ "java/lang/invoke/VarHandle") (hf : rm.frames + 1 ≤ R.frames) (hl : W + (maxL + 11) + rm.locals ≤ R.locals) (hc : cells + nc ≤ R.cells) (hs : slots + ns ≤ R.slots) (eT : T.heap = h) {g : JFrame} (hg : g.method = m) (hsize : g.locals.size = c.maxLocals)
    (a : Addr) (argsL rest : List Value) (hlen : ∀ sig, parseMethodDescriptor y.desc = some sig → argsL.length = sig.parameters.length) (hstack : g.stack = argsL.reverse ++ .ref a :: rest) (has : (Value.ref a :: argsL).toArray = as') (hW : 2 * g.monitorRoom + (rest.map fun v => v.category).sum ≤ W) (hdg : decode c.code g.pc = .ok (.invokespecial index, 3)) :
    ∃ v T' L, Stand p l e R s m args below meth c T' (locs ++ L) (cells + nc) (slots + ns) ∧ Q v T'.heap L ∧ ∀ target, Steps p.tables e below (T'.setTop { g with pc := g.pc + 3, stack := v.toList ++ rest }) target → Steps p.tables e below (T.setTop g) target := by
  subst hnc hns
  obtain ⟨v, _, ⟨T', L', k', n'⟩, -, X', ⟨L, hQ, h1, h2, h3⟩, st⟩ := X.specialBack hx hy1 hown (mvT hZ w1) (mvT hZ w2) (mvT hZ w4) hy (backOf (W := W) hM hZ w4 w3 hf hl) hg hsize (Steps.refl _) (a := a) (argsL := argsL) (rest := rest) hlen hstack hW hdg (fun _ _ => ⟨has, eT, hc, hs⟩)
  dsimp only [Pt.U, Pt.locs, Pt.cells, Pt.slots] at X' hQ h1 h2 h3 st
  subst h1 h2 h3
  exact ⟨v, T', L, X', hQ, fun _ k => st.trans k⟩
theorem own_callV {y z : MethodName} {bytes : ByteArray} {maxL : Nat} {ret : Option FieldType} {rm : Room} {as' : Array Value} {own C : String} {index : Nat} (X : Stand p l e R s m args below meth c T locs cells slots) (hx : p.tables.exec = Jvm.exec) (hZ : Z.Warmed39 s.vm) (hown : s.vm.findClass own = some m.cls)
    (w1 : (Jvm.Cond.methodLink own index y).before a0 Z = true) (wd : (Jvm.Cond.declares y).before a0 Z = true) (nf : NotFace s y) (wsel : (Jvm.Cond.selects C y z).before a0 Z = true) (w2 : (Jvm.Cond.instanceMethod z).before a0 Z = true) (w3 : (Jvm.Cond.initialized z.cls).before a0 Z = true) (w4 : (Jvm.Cond.code z bytes maxL ret).before a0 Z = true) (hM : own_Met l Z h z bytes maxL ret rm as' Q) (W : Nat) (nc ns : Nat) (hnc : rm.cells = nc) (hns : rm.slots = ns)
    (hy : y.cls ≠ "java/lang/invoke/MethodHandle" ∧ y.cls ≠ "java/lang/invoke/VarHandle") (hf : rm.frames + 1 ≤ R.frames) (hl : W + (maxL + 11) + rm.locals ≤ R.locals) (hc : cells + nc ≤ R.cells) (hs : slots + ns ≤ R.slots) (eT : T.heap = h) {a : Addr} (E : Exa Z h a C) {g : JFrame} (hg : g.method = m) (hsize : g.locals.size = c.maxLocals)
    (argsL rest : List Value) (hlen : ∀ sig, parseMethodDescriptor y.desc = some sig → argsL.length = sig.parameters.length) (hstack : g.stack = argsL.reverse ++ .ref a :: rest) (has : (Value.ref a :: argsL).toArray = as') (hW : 2 * g.monitorRoom + (rest.map fun v => v.category).sum ≤ W) (hdg : decode c.code g.pc = .ok (.invokevirtual index, 3)) :
    ∃ v T' L, Stand p l e R s m args below meth c T' (locs ++ L) (cells + nc) (slots + ns) ∧ Q v T'.heap L ∧ ∀ target, Steps p.tables e below (T'.setTop { g with pc := g.pc + 3, stack := v.toList ++ rest }) target → Steps p.tables e below (T.setTop g) target := by
  subst hnc hns
  obtain ⟨cq, kq, qa, qb, qc⟩ := isOf hZ eT E
  obtain ⟨v, _, ⟨T', L', k', n'⟩, -, X', ⟨L, hQ, h1, h2, h3⟩, st⟩ := X.virtualBack hx hown (mvT hZ w1) (mvT hZ wd) nf (mvT hZ wsel) (mvT hZ w2) hy (backOf (W := W) hM hZ w4 w3 hf hl) qa qc hg hsize (Steps.refl _) (argsL := argsL) (rest := rest) hlen hstack hW hdg (fun _ _ => ⟨has, eT, hc, hs⟩)
  dsimp only [Pt.U, Pt.locs, Pt.cells, Pt.slots] at X' hQ h1 h2 h3 st
  subst h1 h2 h3
  exact ⟨v, T', L, X', hQ, fun _ k => st.trans k⟩
theorem own_callP {y : MethodName} {bytes : ByteArray} {maxL : Nat} {ret : Option FieldType} {rm : Room} {as' : Array Value} {own C : String} {index : Nat} (X : Stand p l e R s m args below meth c T locs cells slots) (hx : p.tables.exec = Jvm.exec) (hZ : Z.Warmed39 s.vm) (hown : s.vm.findClass own = some m.cls)
    (w1 : (Jvm.Cond.methodLink own index y).before a0 Z = true) (w2 : (Jvm.Cond.instanceMethod y).before a0 Z = true) (wsel : (Jvm.Cond.selects y.cls y y).before a0 Z = true) (wp : (Jvm.Cond.privateMethod y).before a0 Z = true) (w3 : (Jvm.Cond.initialized y.cls).before a0 Z = true) (w4 : (Jvm.Cond.code y bytes maxL ret).before a0 Z = true) (hM : own_Met l Z h y bytes maxL ret rm as' Q) (W : Nat) (nc ns : Nat) (hnc : rm.cells = nc) (hns : rm.slots = ns)
    (hy : y.cls ≠ "java/lang/invoke/MethodHandle" ∧ y.cls ≠ "java/lang/invoke/VarHandle") (hf : rm.frames + 1 ≤ R.frames) (hl : W + (maxL + 11) + rm.locals ≤ R.locals) (hc : cells + nc ≤ R.cells) (hs : slots + ns ≤ R.slots) (eT : T.heap = h) {a : Addr} (E : Exa Z h a C) {g : JFrame} (hg : g.method = m) (hsize : g.locals.size = c.maxLocals)
    (argsL rest : List Value) (hlen : ∀ sig, parseMethodDescriptor y.desc = some sig → argsL.length = sig.parameters.length) (hstack : g.stack = argsL.reverse ++ .ref a :: rest) (has : (Value.ref a :: argsL).toArray = as') (hW : 2 * g.monitorRoom + (rest.map fun v => v.category).sum ≤ W) (hdg : decode c.code g.pc = .ok (.invokevirtual index, 3)) :
    ∃ v T' L, Stand p l e R s m args below meth c T' (locs ++ L) (cells + nc) (slots + ns) ∧ Q v T'.heap L ∧ ∀ target, Steps p.tables e below (T'.setTop { g with pc := g.pc + 3, stack := v.toList ++ rest }) target → Steps p.tables e below (T.setTop g) target := by
  subst hnc hns
  obtain ⟨cq, q1, q2⟩ := E.cell
  obtain ⟨v, _, ⟨T', L', k', n'⟩, -, X', ⟨L, hQ, h1, h2, h3⟩, st⟩ := X.privateBack hx hown (mvT hZ w1) (mvT hZ w2) (mvT hZ wsel) (Cond.privateMethod_at (mvP hZ wp (args := #[]))) (mvT hZ w4) hy (backOf (W := W) hM hZ w4 w3 hf hl) hg hsize (Steps.refl _) (a := a) (by rw [eT]; exact q1) q2 (argsL := argsL) (rest := rest) hlen hstack hW hdg (fun _ _ => ⟨has, eT, hc, hs⟩)
  dsimp only [Pt.U, Pt.locs, Pt.cells, Pt.slots] at X' hQ h1 h2 h3 st
  subst h1 h2 h3
  exact ⟨v, T', L, X', hQ, fun _ k => st.trans k⟩
theorem own_callF {xi y : MethodName} {bytes : ByteArray} {maxL : Nat} {ret : Option FieldType} {rm : Room} {as' : Array Value} {own C : String} {index count : Nat} (X : Stand p l e R s m args below meth c T locs cells slots) (hx : p.tables.exec = Jvm.exec) (hZ : Z.Warmed39 s.vm) (hown : s.vm.findClass own = some m.cls)
    (w1 : (Jvm.Cond.methodLink own index xi).before a0 Z = true) (wd : (Jvm.Cond.declares xi).before a0 Z = true) (wfa : (Jvm.Cond.interfaceMethod xi.cls xi.cls xi.name xi.desc).before a0 Z = true) (wsel : (Jvm.Cond.selects C xi y).before a0 Z = true) (w2 : (Jvm.Cond.instanceMethod y).before a0 Z = true) (wp : (Jvm.Cond.publicMethod y).before a0 Z = true) (wu : (Jvm.Cond.unhidden C xi.name xi.desc).before a0 Z = true) (wk : (Jvm.Cond.castable C xi.cls).before a0 Z = true) (w3 : (Jvm.Cond.initialized y.cls).before a0 Z = true) (w4 : (Jvm.Cond.code y bytes maxL ret).before a0 Z = true) (hfk : ((Jvm.Cond.interfaceMethod xi.cls xi.cls xi.name xi.desc).onTables && (Jvm.Cond.interfaceMethod xi.cls xi.cls xi.name xi.desc).keepsFace) = true) (hM : own_Met l Z h y bytes maxL ret rm as' Q) (W : Nat) (nc ns : Nat) (hnc : rm.cells = nc) (hns : rm.slots = ns)
    (hy : xi.cls ≠ "java/lang/invoke/MethodHandle" ∧ xi.cls ≠ "java/lang/invoke/VarHandle") (hf : rm.frames + 1 ≤ R.frames) (hl : W + (maxL + 11) + rm.locals ≤ R.locals) (hc : cells + nc ≤ R.cells) (hs : slots + ns ≤ R.slots) (eT : T.heap = h) {a : Addr} (E : Exa Z h a C) {g : JFrame} (hg : g.method = m) (hsize : g.locals.size = c.maxLocals)
    (argsL rest : List Value) (hlen : ∀ sig, parseMethodDescriptor xi.desc = some sig → argsL.length = sig.parameters.length) (hstack : g.stack = argsL.reverse ++ .ref a :: rest) (has : (Value.ref a :: argsL).toArray = as') (hW : 2 * g.monitorRoom + (rest.map fun v => v.category).sum ≤ W) (hdg : decode c.code g.pc = .ok (.invokeinterface index count, 5)) :
    ∃ v T' L, Stand p l e R s m args below meth c T' (locs ++ L) (cells + nc) (slots + ns) ∧ Q v T'.heap L ∧ ∀ target, Steps p.tables e below (T'.setTop { g with pc := g.pc + 5, stack := v.toList ++ rest }) target → Steps p.tables e below (T.setTop g) target := by
  subst hnc hns
  obtain ⟨cq, kq, qa, qb, qc⟩ := isOf hZ eT E
  obtain ⟨v, _, ⟨T', L', k', n'⟩, -, X', ⟨L, hQ, h1, h2, h3⟩, st⟩ := X.interfaceBack hx hown (mvT hZ w1) (mvT hZ wd) (mvT hZ wfa hfk) (mvT hZ wsel) (mvT hZ w2) (mvT hZ wp) (mvT hZ wu) (mvT hZ wk) hy (backOf (W := W) hM hZ w4 w3 hf hl) qa qb qc hg hsize (Steps.refl _) (argsL := argsL) (rest := rest) hlen hstack hW hdg (fun _ _ => ⟨has, eT, hc, hs⟩)
  dsimp only [Pt.U, Pt.locs, Pt.cells, Pt.slots] at X' hQ h1 h2 h3 st
  subst h1 h2 h3
  exact ⟨v, T', L, X', hQ, fun _ k => st.trans k⟩
theorem own_callU {y z : MethodName} {bytes : ByteArray} {maxL : Nat} {ret : Option FieldType} {rm : Room} {as' : Array Value} {own owner C : String} {index : Nat} (X : Stand p l e R s m args below meth c T locs cells slots) (hx : p.tables.exec = Jvm.exec) (hZ : Z.Warmed39 s.vm) (hown : s.vm.findClass own = some m.cls)
    (w1 : (Jvm.Cond.methodLink own index y).before a0 Z = true) (wsm : (Jvm.Cond.sameMethod y.cls owner y.name y.desc).before a0 Z = true) (wd : (Jvm.Cond.declares ⟨owner, y.name, y.desc⟩).before a0 Z = true) (wsel : (Jvm.Cond.selects C y z).before a0 Z = true) (w2 : (Jvm.Cond.instanceMethod z).before a0 Z = true) (w3 : (Jvm.Cond.initialized z.cls).before a0 Z = true) (w4 : (Jvm.Cond.code z bytes maxL ret).before a0 Z = true) (hM : own_Met l Z h z bytes maxL ret rm as' Q) (W : Nat) (nc ns : Nat) (hnc : rm.cells = nc) (hns : rm.slots = ns)
    (howner : owner ≠ "java/lang/invoke/MethodHandle" ∧ owner ≠ "java/lang/invoke/VarHandle") (hf : rm.frames + 1 ≤ R.frames) (hl : W + (maxL + 11) + rm.locals ≤ R.locals) (hc : cells + nc ≤ R.cells) (hs : slots + ns ≤ R.slots) (eT : T.heap = h) {a : Addr} (E : Exa Z h a C) {g : JFrame} (hg : g.method = m) (hsize : g.locals.size = c.maxLocals)
    (argsL rest : List Value) (hlen : ∀ sig, parseMethodDescriptor y.desc = some sig → argsL.length = sig.parameters.length) (hstack : g.stack = argsL.reverse ++ .ref a :: rest) (has : (Value.ref a :: argsL).toArray = as') (hW : 2 * g.monitorRoom + (rest.map fun v => v.category).sum ≤ W) (hdg : decode c.code g.pc = .ok (.invokevirtual index, 3)) :
    ∃ v T' L, Stand p l e R s m args below meth c T' (locs ++ L) (cells + nc) (slots + ns) ∧ Q v T'.heap L ∧ ∀ target, Steps p.tables e below (T'.setTop { g with pc := g.pc + 3, stack := v.toList ++ rest }) target → Steps p.tables e below (T.setTop g) target := by
  subst hnc hns
  obtain ⟨cq, kq, qa, qb, qc⟩ := isOf hZ eT E
  obtain ⟨v, _, ⟨T', L', k', n'⟩, -, X', ⟨L, hQ, h1, h2, h3⟩, st⟩ := X.virtualBackUp hx hown (mvT hZ w1) (mvT hZ wsm) (mvT hZ wd) howner (mvT hZ wsel) (mvT hZ w2) (backOf (W := W) hM hZ w4 w3 hf hl) qa qc hg hsize (Steps.refl _) (argsL := argsL) (rest := rest) hlen hstack hW hdg (fun _ _ => ⟨has, eT, hc, hs⟩)
  dsimp only [Pt.U, Pt.locs, Pt.cells, Pt.slots] at X' hQ h1 h2 h3 st
  subst h1 h2 h3
  exact ⟨v, T', L, X', hQ, fun _ k => st.trans k⟩
/-- the start's heap stands in h unchanged -/
theorem own_oldExt {h' : Heap} (O : Ext Z.heap h) (E : Ext h h') : Ext Z.heap h' := ⟨Nat.le_trans O.1 E.1, fun x c q => E.2 x c (O.2 x c q)⟩
theorem own_oldKeep {h' : Heap} {ws : List Addr} (O : Ext Z.heap h) (K : Keep h h' ws) (q : ∀ x ∈ ws, Z.heap.size ≤ x) : Ext Z.heap h' :=
  ⟨Nat.le_trans O.1 K.1, fun x c r => K.2.1 x c (O.2 x c r) fun z => absurd (Array.getElem?_eq_some_iff.mp r).1 (Nat.not_lt.mpr (q x z))⟩
theorem own_oldWr {h' : Heap} {a : Addr} {sl : Nat} {v : Value} (O : Ext Z.heap h) (W : Wr h h' a sl v) (q : Z.heap.size ≤ a) : Ext Z.heap h' := own_oldKeep O (Keep.of_wr W) (allS q all0)
theorem own_keepTrans {h0 h' : Heap} {ws : List Addr} (K : Keep h0 h ws) (K' : Keep h h' []) : Keep h0 h' ws := K.trans K' fun x q => nomatch q
theorem own_insKeep {h' : Heap} {ws : List Addr} {a : Addr} {C : String} {b : Bool} (F : Ins Z h a C b) (K : Keep h h' ws) : Ins Z h' a C b := by
  obtain ⟨cell, cT, h1, h2, h3⟩ := F
  obtain ⟨c', q1, q2, q3, -⟩ := K.2.2 a cell h1
  exact ⟨c', cT, q1, h2, by rw [q2, q3]; exact h3⟩
theorem own_cat1 {v : Value} (r : v.isRef = true) : v.category = 1 := by cases v <;> simp [Value.isRef, Value.category] at r ⊢
theorem own_fitsRef {v : Value} (t : FieldType) (r : v.isRef = true) (ht : t.isReference = true) : fits t v = true := by
  cases t <;> first | (cases ht; done) | (rcases ref_cases r with rfl | ⟨_, rfl⟩ <;> rfl)
theorem own_narRef {v : Value} (t : FieldType) (r : v.isRef = true) (ht : t.isReference = true) : narrow t v = v := by
  cases t <;> first | (cases ht; done) | (rcases ref_cases r with rfl | ⟨_, rfl⟩ <;> rfl)
theorem own_keepSub {h0 : Heap} {ws ws' : List Addr} (K : Keep h0 h ws) (q : ∀ x ∈ ws, x ∈ ws') : Keep h0 h ws' := ⟨K.1, fun x c r z => K.2.1 x c r fun u => z (q x u), K.2.2⟩
theorem own_neTy {a b : Addr} {k k' : ClassId} {ty ty' : FieldType} {z z' : Int32} {vs vs' : List Value} {d d' : Value} (F : Arv Z h a k ty z vs d) (G : Arv Z h b k' ty' z' vs' d') (hn : ty ≠ ty') : a ≠ b := by
  rintro rfl
  obtain ⟨c, A, -⟩ := F
  obtain ⟨c', A', -⟩ := G
  cases A.1.symm.trans A'.1
  obtain ⟨-, k1, q1, cm1, r1⟩ := A.2.1
  obtain ⟨-, k2, q2, cm2, r2⟩ := A'.2.1
  cases q1.symm.trans q2
  rw [r1] at r2
  cases r2
  exact hn rfl
theorem own_catR (a : Addr) : (Value.ref a).category = 1 := rfl
theorem own_catN : Value.null.category = 1 := rfl
theorem own_catI (a : Int32) : (Value.int a).category = 1 := rfl
theorem own_catJ (a : Int64) : (Value.long a).category = 2 := rfl
end OwnKit
theorem own_pd_0 : parseMethodDescriptor "(II)I" = some ⟨[.int, .int], some .int⟩ := by decide +kernel
theorem own_pd_1 : parseMethodDescriptor "(III)Z" = some ⟨[.int, .int, .int], some .boolean⟩ := by decide +kernel
theorem own_pn_0 : plainName "com/example/ratification/ratification/model/Constraint$Kind" = true := by first | (simp [plainName, overriddenIn]; done) | decide +kernel
theorem own_pn_1 : plainName "com/example/ratification/ratification/model/KindAllowsPinLaw" = true := by first | (simp [plainName, overriddenIn]; done) | decide +kernel
theorem own_ordFld {args : Array Value} {s : State} {t : Term} {w : Addr} {C f : String} {k : Int32} (n3 : (Jvm.Cond.eq (Term.field t C f "I") (Term.int k)).value args s none s [] = some true)
    (e1 : t.eval args s none [] s = some (.ref w)) : s.fieldOf? w C f "I" = some (.int k) := (fld_at e1).symm.trans (eqv_i (Term.int_eval k) n3)
theorem d2_0 : decode jdk_29_method_69_code 0 = .ok (.iload_n 0, 1) := by decide +kernel
theorem d2_1 : decode jdk_29_method_69_code 1 = .ok (.iload_n 1, 1) := by decide +kernel
theorem d2_2 : decode jdk_29_method_69_code 2 = .ok (.if_icmp .gt 7, 3) := by decide +kernel
theorem d2_5 : decode jdk_29_method_69_code 5 = .ok (.iload_n 0, 1) := by decide +kernel
theorem d2_6 : decode jdk_29_method_69_code 6 = .ok (.goto 4, 3) := by decide +kernel
theorem d2_9 : decode jdk_29_method_69_code 9 = .ok (.iload_n 1, 1) := by decide +kernel
theorem d2_10 : decode jdk_29_method_69_code 10 = .ok (.ireturn, 1) := by decide +kernel
def Q_min (Z : State) (wx : Addr) (wy : Addr) (p1 : Int32) (p2 : Int32) (h0 : Heap) (v : Option Value) (h : Heap) (L : List Loc) : Prop := (v = some (.int p2) ∧ Fr Z.heap.size L ∧ p2 < p1 ∧ h = h0) ∨ (v = some (.int p1) ∧ Fr Z.heap.size L ∧ ¬ (p2 < p1) ∧ h = h0)
theorem ef_min (m : MethodId) (x0 : Int32) (x1 : Int32) : entryFrame m #[(.int x0), (.int x1)] 2 = mkF m 0 #[.val (.int x0), .val (.int x1)] [] := by first | (simp [entryFrame, mkF, argsToLocals, Value.category]; done) | rfl
set_option maxRecDepth 65536 in
set_option maxHeartbeats 40000000 in
theorem rm_min (l : Launch) (Z : State) (a0 : Array Value) (hw : ∀ d ∈ tables_1, d.before a0 Z = true) {wx : Addr} {wy : Addr} (oA : Sta Z Z.heap "com/example/ratification/ratification/model/Constraint$Kind" "STRICT_AVAILABILITY" "Lcom/example/ratification/ratification/model/Constraint$Kind;" (.ref wx)) (oB : Sta Z Z.heap "com/example/ratification/ratification/model/Constraint$Kind" "SEPARATION_OF_DUTY" "Lcom/example/ratification/ratification/model/Constraint$Kind;" (.ref wy)) (oE1 : Exa Z Z.heap wx "com/example/ratification/ratification/model/Constraint$Kind") (oE2 : Exa Z Z.heap wy "com/example/ratification/ratification/model/Constraint$Kind") (oF1 : Fld Z Z.heap wx "com/example/ratification/ratification/model/Constraint$Kind" "least" "I" (.int (1 : Int32))) (oF2 : Fld Z Z.heap wy "com/example/ratification/ratification/model/Constraint$Kind" "least" "I" (.int (2 : Int32))) (ws : List Jvm.Cond) (p1 : Int32) (p2 : Int32) (h0 : Heap) (O0 : Ext Z.heap h0) :
    MetFree l (⟨"java/lang/Math", "min", "(II)I"⟩ : MethodName) (head1 (Jvm.Cond.code (⟨"java/lang/Math", "min", "(II)I"⟩ : MethodName) jdk_29_method_69_code 2 (some .int) :: ws) ({ frames := 0, cells := 0, slots := 0, locals := 0 } : Room)) (fun a U => a = #[(.int p1), (.int p2)] ∧ Z.Warmed39 U.vm ∧ U.heap = h0) (fun _ _ _ _ _ => True) (fun _ U o U' => ∃ v L, o = .returned v ∧ (Q_min Z wx wy p1 p2 h0) v U'.heap L ∧ FrameEnd U o U' L ({ frames := 0, cells := 0, slots := 0, locals := 0 } : Room).cells ({ frames := 0, cells := 0, slots := 0, locals := 0 } : Room).slots) := by
  refine own_met (Q := (Q_min Z wx wy p1 p2 h0)) _ _ (Jvm.Free.JP.mathPlain rfl (by decide +kernel)) ?_
  intro p e s m below meth c T X0 hx hby hml hret hlk hZ hown hnm e0
  replace hown : s.vm.findClass "java/lang/Math" = some m.cls := hown
  replace hnm : meth.name = "min" := hnm
  have hml : c.maxLocals = 2 := hml
  have N0 := Fr.nil Z.heap.size
  have K0 := Keep.refl h0 []
  refine own_go (fun _ k => castTop (ef_min m p1 p2) k) ?_
  show own_Go p e below s _ _ _ (T.setTop (mkF m 0 #[.val (.int p1), .val (.int p2)] []))
  refine own_go (fun _ k => XS.iloadN X0.here hx rfl (hb hby d2_0) rfl k) ?_
  show own_Go p e below s _ _ _ (T.setTop (mkF m 1 #[.val (.int p1), .val (.int p2)] [(.int p1)]))
  refine own_go (fun _ k => XS.iloadN X0.here hx rfl (hb hby d2_1) rfl k) ?_
  show own_Go p e below s _ _ _ (T.setTop (mkF m 2 #[.val (.int p1), .val (.int p2)] [(.int p2), (.int p1)]))
  by_cases hc1 : p2 < p1
  · refine own_go (fun _ k => XS.icmpYes X0.here hx rfl (pc0 := 2) (pc' := 9) rfl (hb hby d2_2) rfl (tlt hc1).2.2.1 (by decide) (by decide) k) ?_
    show own_Go p e below s _ _ _ (T.setTop (mkF m 9 #[.val (.int p1), .val (.int p2)] []))
    refine own_go (fun _ k => XS.iloadN X0.here hx rfl (hb hby d2_9) rfl k) ?_
    show own_Go p e below s _ _ _ (T.setTop (mkF m 10 #[.val (.int p1), .val (.int p2)] [(.int p2)]))
    refine own_retI X0 hx hlk e0 hret (hb hby d2_10) (by show _ ≤ 0; omega) (by show _ ≤ 0; omega) ?_
    exact Or.inl ⟨rfl, N0, hc1, rfl⟩
  · refine own_go (fun _ k => XS.icmpNo X0.here hx rfl (hb hby d2_2) rfl (flt hc1).2.2.1 k) ?_
    show own_Go p e below s _ _ _ (T.setTop (mkF m 5 #[.val (.int p1), .val (.int p2)] []))
    refine own_go (fun _ k => XS.iloadN X0.here hx rfl (hb hby d2_5) rfl k) ?_
    show own_Go p e below s _ _ _ (T.setTop (mkF m 6 #[.val (.int p1), .val (.int p2)] [(.int p1)]))
    refine own_go (fun _ k => XS.goto X0.here hx rfl (pc0 := 6) (pc' := 10) rfl (hb hby d2_6) (by decide) (by decide) k) ?_
    show own_Go p e below s _ _ _ (T.setTop (mkF m 10 #[.val (.int p1), .val (.int p2)] [(.int p1)]))
    refine own_retI X0 hx hlk e0 hret (hb hby d2_10) (by show _ ≤ 0; omega) (by show _ ≤ 0; omega) ?_
    exact Or.inr (⟨rfl, N0, hc1, rfl⟩)
theorem d1_0 : decode prog_53_method_6_code 0 = .ok (.iload_n 1, 1) := by decide +kernel
theorem d1_1 : decode prog_53_method_6_code 1 = .ok (.aload_n 0, 1) := by decide +kernel
theorem d1_2 : decode prog_53_method_6_code 2 = .ok (.getfield 36, 3) := by decide +kernel
theorem d1_5 : decode prog_53_method_6_code 5 = .ok (.if_icmp .lt 16, 3) := by decide +kernel
theorem d1_8 : decode prog_53_method_6_code 8 = .ok (.iload_n 1, 1) := by decide +kernel
theorem d1_9 : decode prog_53_method_6_code 9 = .ok (.iload_n 2, 1) := by decide +kernel
theorem d1_10 : decode prog_53_method_6_code 10 = .ok (.iload_n 3, 1) := by decide +kernel
theorem d1_11 : decode prog_53_method_6_code 11 = .ok (.invokestatic 40, 3) := by decide +kernel
theorem d1_14 : decode prog_53_method_6_code 14 = .ok (.if_icmp .gt 7, 3) := by decide +kernel
theorem d1_17 : decode prog_53_method_6_code 17 = .ok (.iconst 1, 1) := by decide +kernel
theorem d1_18 : decode prog_53_method_6_code 18 = .ok (.goto 4, 3) := by decide +kernel
theorem d1_21 : decode prog_53_method_6_code 21 = .ok (.iconst 0, 1) := by decide +kernel
theorem d1_22 : decode prog_53_method_6_code 22 = .ok (.ireturn, 1) := by decide +kernel
def Q_allows (Z : State) (wx : Addr) (wy : Addr) (a1 : Addr) (p2 : Int32) (p3 : Int32) (p4 : Int32) (w : Int32) (h0 : Heap) (v : Option Value) (h : Heap) (L : List Loc) : Prop := (v = some (.int (0 : Int32)) ∧ Fr Z.heap.size L ∧ p2 < w ∧ h = h0) ∨ (v = some (.int (0 : Int32)) ∧ Fr Z.heap.size L ∧ ¬ (p2 < w) ∧ ¬ (p4 < p3) ∧ p3 < p2 ∧ h = h0) ∨ (v = some (.int (1 : Int32)) ∧ Fr Z.heap.size L ∧ ¬ (p2 < w) ∧ ¬ (p4 < p3) ∧ ¬ (p3 < p2) ∧ h = h0) ∨ (v = some (.int (0 : Int32)) ∧ Fr Z.heap.size L ∧ ¬ (p2 < w) ∧ p4 < p3 ∧ p4 < p2 ∧ h = h0) ∨ (v = some (.int (1 : Int32)) ∧ Fr Z.heap.size L ∧ ¬ (p2 < w) ∧ p4 < p3 ∧ ¬ (p4 < p2) ∧ h = h0)
theorem ef_allows (m : MethodId) (x0 : Addr) (x1 : Int32) (x2 : Int32) (x3 : Int32) : entryFrame m #[(.ref x0), (.int x1), (.int x2), (.int x3)] 4 = mkF m 0 #[.val (.ref x0), .val (.int x1), .val (.int x2), .val (.int x3)] [] := by first | (simp [entryFrame, mkF, argsToLocals, Value.category]; done) | rfl
set_option maxRecDepth 65536 in
set_option maxHeartbeats 40000000 in
theorem rm_allows (l : Launch) (Z : State) (a0 : Array Value) (hw : ∀ d ∈ tables_1, d.before a0 Z = true) {wx : Addr} {wy : Addr} (oA : Sta Z Z.heap "com/example/ratification/ratification/model/Constraint$Kind" "STRICT_AVAILABILITY" "Lcom/example/ratification/ratification/model/Constraint$Kind;" (.ref wx)) (oB : Sta Z Z.heap "com/example/ratification/ratification/model/Constraint$Kind" "SEPARATION_OF_DUTY" "Lcom/example/ratification/ratification/model/Constraint$Kind;" (.ref wy)) (oE1 : Exa Z Z.heap wx "com/example/ratification/ratification/model/Constraint$Kind") (oE2 : Exa Z Z.heap wy "com/example/ratification/ratification/model/Constraint$Kind") (oF1 : Fld Z Z.heap wx "com/example/ratification/ratification/model/Constraint$Kind" "least" "I" (.int (1 : Int32))) (oF2 : Fld Z Z.heap wy "com/example/ratification/ratification/model/Constraint$Kind" "least" "I" (.int (2 : Int32))) (ws : List Jvm.Cond) (a1 : Addr) (p2 : Int32) (p3 : Int32) (p4 : Int32) (w : Int32) (h0 : Heap) (O0 : Ext Z.heap h0) (f_F_a1_least : Fld Z h0 a1 "com/example/ratification/ratification/model/Constraint$Kind" "least" "I" (.int w)) :
    MetFree l (⟨"com/example/ratification/ratification/model/Constraint$Kind", "allows", "(III)Z"⟩ : MethodName) (head1 (Jvm.Cond.code (⟨"com/example/ratification/ratification/model/Constraint$Kind", "allows", "(III)Z"⟩ : MethodName) prog_53_method_6_code 4 (some .boolean) :: ws) ({ frames := 1, cells := 0, slots := 0, locals := 14 } : Room)) (fun a U => a = #[(.ref a1), (.int p2), (.int p3), (.int p4)] ∧ Z.Warmed39 U.vm ∧ U.heap = h0) (fun _ _ _ _ _ => True) (fun _ U o U' => ∃ v L, o = .returned v ∧ (Q_allows Z wx wy a1 p2 p3 p4 w h0) v U'.heap L ∧ FrameEnd U o U' L ({ frames := 1, cells := 0, slots := 0, locals := 14 } : Room).cells ({ frames := 1, cells := 0, slots := 0, locals := 14 } : Room).slots) := by
  refine own_met (Q := (Q_allows Z wx wy a1 p2 p3 p4 w h0)) _ _ (plainFor_of_name own_pn_0) ?_
  intro p e s m below meth c T X0 hx hby hml hret hlk hZ hown hnm e0
  replace hown : s.vm.findClass "com/example/ratification/ratification/model/Constraint$Kind" = some m.cls := hown
  replace hnm : meth.name = "allows" := hnm
  have hml : c.maxLocals = 4 := hml
  have N0 := Fr.nil Z.heap.size
  have K0 := Keep.refl h0 []
  refine own_go (fun _ k => castTop (ef_allows m a1 p2 p3 p4) k) ?_
  show own_Go p e below s _ _ _ (T.setTop (mkF m 0 #[.val (.ref a1), .val (.int p2), .val (.int p3), .val (.int p4)] []))
  refine own_go (fun _ k => XS.iloadN X0.here hx rfl (hb hby d1_0) rfl k) ?_
  show own_Go p e below s _ _ _ (T.setTop (mkF m 1 #[.val (.ref a1), .val (.int p2), .val (.int p3), .val (.int p4)] [(.int p2)]))
  refine own_go (fun _ k => XS.aloadN X0.here hx rfl (hb hby d1_1) rfl rfl k) ?_
  show own_Go p e below s _ _ _ (T.setTop (mkF m 2 #[.val (.ref a1), .val (.int p2), .val (.int p3), .val (.int p4)] [(.ref a1), (.int p2)]))
  obtain ⟨T1, X1, e1, st1⟩ := getF X0 hx hZ hown (host := "") (Or.inl (hw _ (List.mem_of_getElem? (i := 8) rfl))) Via.refl e0 f_F_a1_least (g := (mkF m 2 #[.val (.ref a1), .val (.int p2), .val (.int p3), .val (.int p4)] [(.ref a1), (.int p2)])) rfl rfl (hb hby d1_2)
  refine own_go st1 ?_
  show own_Go p e below s _ _ _ (T1.setTop (mkF m 5 #[.val (.ref a1), .val (.int p2), .val (.int p3), .val (.int p4)] [(.int w), (.int p2)]))
  by_cases hc2 : p2 < w
  · refine own_go (fun _ k => XS.icmpYes X1.here hx rfl (pc0 := 5) (pc' := 21) rfl (hb hby d1_5) rfl (tlt hc2).1 (by decide) (by decide) k) ?_
    show own_Go p e below s _ _ _ (T1.setTop (mkF m 21 #[.val (.ref a1), .val (.int p2), .val (.int p3), .val (.int p4)] []))
    refine own_go (fun _ k => XS.iconst X1.here hx rfl (hb hby d1_21) k) ?_
    show own_Go p e below s _ _ _ (T1.setTop (mkF m 22 #[.val (.ref a1), .val (.int p2), .val (.int p3), .val (.int p4)] [(.int (0 : Int32))]))
    refine own_retN X1 hx hlk e1 (t := .boolean) hret (by simp) (hb hby d1_22) (by show _ ≤ 0; omega) (by show _ ≤ 0; omega) ?_
    exact Or.inl ⟨rfl, N0, hc2, rfl⟩
  · refine own_go (fun _ k => XS.icmpNo X1.here hx rfl (hb hby d1_5) rfl (flt hc2).1 k) ?_
    show own_Go p e below s _ _ _ (T1.setTop (mkF m 8 #[.val (.ref a1), .val (.int p2), .val (.int p3), .val (.int p4)] []))
    refine own_go (fun _ k => XS.iloadN X1.here hx rfl (hb hby d1_8) rfl k) ?_
    show own_Go p e below s _ _ _ (T1.setTop (mkF m 9 #[.val (.ref a1), .val (.int p2), .val (.int p3), .val (.int p4)] [(.int p2)]))
    refine own_go (fun _ k => XS.iloadN X1.here hx rfl (hb hby d1_9) rfl k) ?_
    show own_Go p e below s _ _ _ (T1.setTop (mkF m 10 #[.val (.ref a1), .val (.int p2), .val (.int p3), .val (.int p4)] [(.int p3), (.int p2)]))
    refine own_go (fun _ k => XS.iloadN X1.here hx rfl (hb hby d1_10) rfl k) ?_
    show own_Go p e below s _ _ _ (T1.setTop (mkF m 11 #[.val (.ref a1), .val (.int p2), .val (.int p3), .val (.int p4)] [(.int p4), (.int p3), (.int p2)]))
    obtain ⟨v3, T3, L3, X3, hQ3, st3⟩ := own_callS (y := (⟨"java/lang/Math", "min", "(II)I"⟩ : MethodName)) X1 hx hZ hown (hw _ (List.mem_of_getElem? (i := 10) rfl)) (hw _ (List.mem_of_getElem? (i := 11) rfl)) (hw _ (List.mem_of_getElem? (i := 12) rfl)) (hw _ (List.mem_of_getElem? (i := 13) rfl)) (rm_min l Z a0 hw oA oB oE1 oE2 oF1 oF2 [] p3 p4 h0 O0) 1 0 0 rfl rfl (by decide) (by decide) (by decide) (by show _ ≤ 0; omega) (by show _ ≤ 0; omega) e1 (g := (mkF m 11 #[.val (.ref a1), .val (.int p2), .val (.int p3), .val (.int p4)] [(.int p4), (.int p3), (.int p2)])) rfl (by rw [hml]; rfl) [(.int p3), (.int p4)] [(.int p2)] (lenOf own_pd_0 rfl) rfl rfl (by show 2 * 0 + _ ≤ _; exact Nat.le_of_eq rfl) (hb hby d1_11)
    rcases hQ3 with hQ3 | hQ3
    · obtain ⟨rfl, Nc6, hp4, Kc5⟩ := hQ3
      refine own_go st3 ?_
      have N7 := Fr.app N0 Nc6
      show own_Go p e below s _ _ _ (T3.setTop (mkF m 14 #[.val (.ref a1), .val (.int p2), .val (.int p3), .val (.int p4)] [(.int p4), (.int p2)]))
      by_cases hc8 : p4 < p2
      · refine own_go (fun _ k => XS.icmpYes X3.here hx rfl (pc0 := 14) (pc' := 21) rfl (hb hby d1_14) rfl (tlt hc8).2.2.1 (by decide) (by decide) k) ?_
        show own_Go p e below s _ _ _ (T3.setTop (mkF m 21 #[.val (.ref a1), .val (.int p2), .val (.int p3), .val (.int p4)] []))
        refine own_go (fun _ k => XS.iconst X3.here hx rfl (hb hby d1_21) k) ?_
        show own_Go p e below s _ _ _ (T3.setTop (mkF m 22 #[.val (.ref a1), .val (.int p2), .val (.int p3), .val (.int p4)] [(.int (0 : Int32))]))
        refine own_retN X3 hx hlk Kc5 (t := .boolean) hret (by simp) (hb hby d1_22) (by show _ ≤ 0; omega) (by show _ ≤ 0; omega) ?_
        exact Or.inr (Or.inr (Or.inr (Or.inl ⟨rfl, N7, hc2, hp4, hc8, rfl⟩)))
      · refine own_go (fun _ k => XS.icmpNo X3.here hx rfl (hb hby d1_14) rfl (flt hc8).2.2.1 k) ?_
        show own_Go p e below s _ _ _ (T3.setTop (mkF m 17 #[.val (.ref a1), .val (.int p2), .val (.int p3), .val (.int p4)] []))
        refine own_go (fun _ k => XS.iconst X3.here hx rfl (hb hby d1_17) k) ?_
        show own_Go p e below s _ _ _ (T3.setTop (mkF m 18 #[.val (.ref a1), .val (.int p2), .val (.int p3), .val (.int p4)] [(.int (1 : Int32))]))
        refine own_go (fun _ k => XS.goto X3.here hx rfl (pc0 := 18) (pc' := 22) rfl (hb hby d1_18) (by decide) (by decide) k) ?_
        show own_Go p e below s _ _ _ (T3.setTop (mkF m 22 #[.val (.ref a1), .val (.int p2), .val (.int p3), .val (.int p4)] [(.int (1 : Int32))]))
        refine own_retN X3 hx hlk Kc5 (t := .boolean) hret (by simp) (hb hby d1_22) (by show _ ≤ 0; omega) (by show _ ≤ 0; omega) ?_
        exact Or.inr (Or.inr (Or.inr (Or.inr (⟨rfl, N7, hc2, hp4, hc8, rfl⟩))))
    · obtain ⟨rfl, Nc11, hp9, Kc10⟩ := hQ3
      refine own_go st3 ?_
      have N12 := Fr.app N0 Nc11
      show own_Go p e below s _ _ _ (T3.setTop (mkF m 14 #[.val (.ref a1), .val (.int p2), .val (.int p3), .val (.int p4)] [(.int p3), (.int p2)]))
      by_cases hc13 : p3 < p2
      · refine own_go (fun _ k => XS.icmpYes X3.here hx rfl (pc0 := 14) (pc' := 21) rfl (hb hby d1_14) rfl (tlt hc13).2.2.1 (by decide) (by decide) k) ?_
        show own_Go p e below s _ _ _ (T3.setTop (mkF m 21 #[.val (.ref a1), .val (.int p2), .val (.int p3), .val (.int p4)] []))
        refine own_go (fun _ k => XS.iconst X3.here hx rfl (hb hby d1_21) k) ?_
        show own_Go p e below s _ _ _ (T3.setTop (mkF m 22 #[.val (.ref a1), .val (.int p2), .val (.int p3), .val (.int p4)] [(.int (0 : Int32))]))
        refine own_retN X3 hx hlk Kc10 (t := .boolean) hret (by simp) (hb hby d1_22) (by show _ ≤ 0; omega) (by show _ ≤ 0; omega) ?_
        exact Or.inr (Or.inl ⟨rfl, N12, hc2, hp9, hc13, rfl⟩)
      · refine own_go (fun _ k => XS.icmpNo X3.here hx rfl (hb hby d1_14) rfl (flt hc13).2.2.1 k) ?_
        show own_Go p e below s _ _ _ (T3.setTop (mkF m 17 #[.val (.ref a1), .val (.int p2), .val (.int p3), .val (.int p4)] []))
        refine own_go (fun _ k => XS.iconst X3.here hx rfl (hb hby d1_17) k) ?_
        show own_Go p e below s _ _ _ (T3.setTop (mkF m 18 #[.val (.ref a1), .val (.int p2), .val (.int p3), .val (.int p4)] [(.int (1 : Int32))]))
        refine own_go (fun _ k => XS.goto X3.here hx rfl (pc0 := 18) (pc' := 22) rfl (hb hby d1_18) (by decide) (by decide) k) ?_
        show own_Go p e below s _ _ _ (T3.setTop (mkF m 22 #[.val (.ref a1), .val (.int p2), .val (.int p3), .val (.int p4)] [(.int (1 : Int32))]))
        refine own_retN X3 hx hlk Kc10 (t := .boolean) hret (by simp) (hb hby d1_22) (by show _ ≤ 0; omega) (by show _ ≤ 0; omega) ?_
        exact Or.inr (Or.inr (Or.inl ⟨rfl, N12, hc2, hp9, hc13, rfl⟩))
def Q_law (Z : State) (wx : Addr) (wy : Addr) (p1 : Int32) (p2 : Int32) (p3 : Int32) (p4 : Int32) (h0 : Heap) (v : Option Value) (h : Heap) (L : List Loc) : Prop := (v = some (.int (1 : Int32)) ∧ Fr Z.heap.size L ∧ Keep h0 h [])
theorem ef_law (m : MethodId) (x0 : Int32) (x1 : Int32) (x2 : Int32) (x3 : Int32) : entryFrame m #[(.int x0), (.int x1), (.int x2), (.int x3)] maxLocals = mkF m 0 #[.val (.int x0), .val (.int x1), .val (.int x2), .val (.int x3), .unset, .unset, .unset, .unset] [] := by first | (simp [entryFrame, mkF, argsToLocals, Value.category, maxLocals]; done) | rfl
set_option maxRecDepth 65536 in
set_option maxHeartbeats 40000000 in
theorem rm_law (l : Launch) (Z : State) (a0 : Array Value) (hw : ∀ d ∈ tables_1, d.before a0 Z = true) {wx : Addr} {wy : Addr} (oA : Sta Z Z.heap "com/example/ratification/ratification/model/Constraint$Kind" "STRICT_AVAILABILITY" "Lcom/example/ratification/ratification/model/Constraint$Kind;" (.ref wx)) (oB : Sta Z Z.heap "com/example/ratification/ratification/model/Constraint$Kind" "SEPARATION_OF_DUTY" "Lcom/example/ratification/ratification/model/Constraint$Kind;" (.ref wy)) (oE1 : Exa Z Z.heap wx "com/example/ratification/ratification/model/Constraint$Kind") (oE2 : Exa Z Z.heap wy "com/example/ratification/ratification/model/Constraint$Kind") (oF1 : Fld Z Z.heap wx "com/example/ratification/ratification/model/Constraint$Kind" "least" "I" (.int (1 : Int32))) (oF2 : Fld Z Z.heap wy "com/example/ratification/ratification/model/Constraint$Kind" "least" "I" (.int (2 : Int32))) (ws : List Jvm.Cond) (p1 : Int32) (p2 : Int32) (p3 : Int32) (p4 : Int32) (h0 : Heap) (O0 : Ext Z.heap h0) :
    MetFree l x (head1 (Jvm.Cond.code x code maxLocals ret :: ws) room_1) (fun a U => a = #[(.int p1), (.int p2), (.int p3), (.int p4)] ∧ Z.Warmed39 U.vm ∧ U.heap = h0) (fun _ _ _ _ _ => True) (fun _ U o U' => ∃ v L, o = .returned v ∧ (Q_law Z wx wy p1 p2 p3 p4 h0) v U'.heap L ∧ FrameEnd U o U' L room_1.cells room_1.slots) := by
  refine own_met (Q := (Q_law Z wx wy p1 p2 p3 p4 h0)) _ _ (plainFor_of_name own_pn_1) ?_
  intro p e s m below meth c T X0 hx hby hml hret hlk hZ hown hnm e0
  replace hown : s.vm.findClass "com/example/ratification/ratification/model/KindAllowsPinLaw" = some m.cls := hown
  replace hnm : meth.name = "law" := hnm
  have hml : c.maxLocals = 8 := hml
  have N0 := Fr.nil Z.heap.size
  have K0 := Keep.refl h0 []
  refine own_go (fun _ k => castTop (ef_law m p1 p2 p3 p4) k) ?_
  show own_Go p e below s _ _ _ (T.setTop (mkF m 0 #[.val (.int p1), .val (.int p2), .val (.int p3), .val (.int p4), .unset, .unset, .unset, .unset] []))
  refine own_go (fun _ k => XS.iloadN X0.here hx rfl (hb hby at_0) rfl k) ?_
  show own_Go p e below s _ _ _ (T.setTop (mkF m 1 #[.val (.int p1), .val (.int p2), .val (.int p3), .val (.int p4), .unset, .unset, .unset, .unset] [(.int p1)]))
  refine own_go (fun _ k => XS.iconst X0.here hx rfl (hb hby at_1) k) ?_
  show own_Go p e below s _ _ _ (T.setTop (mkF m 2 #[.val (.int p1), .val (.int p2), .val (.int p3), .val (.int p4), .unset, .unset, .unset, .unset] [(.int (1 : Int32)), (.int p1)]))
  refine own_go (fun _ k => XS.iand X0.here hx rfl (hb hby at_2) rfl k) ?_
  show own_Go p e below s _ _ _ (T.setTop (mkF m 3 #[.val (.int p1), .val (.int p2), .val (.int p3), .val (.int p4), .unset, .unset, .unset, .unset] [(.int (p1 &&& (1 : Int32)))]))
  by_cases hc1 : (p1 &&& (1 : Int32)) = (0 : Int32)
  · refine own_go (fun _ k => XS.ifYes X0.here hx rfl (pc0 := 3) (pc' := 10) rfl (hb hby at_3) rfl ((if0 _ _).trans (teq hc1).1) (by decide) (by decide) k) ?_
    show own_Go p e below s _ _ _ (T.setTop (mkF m 10 #[.val (.int p1), .val (.int p2), .val (.int p3), .val (.int p4), .unset, .unset, .unset, .unset] []))
    refine own_go (fun _ k => XS.iconst X0.here hx rfl (hb hby at_10) k) ?_
    show own_Go p e below s _ _ _ (T.setTop (mkF m 11 #[.val (.int p1), .val (.int p2), .val (.int p3), .val (.int p4), .unset, .unset, .unset, .unset] [(.int (0 : Int32))]))
    refine own_go (fun _ k => XS.istore X0.here hx rfl (hb hby at_11) rfl (l' := #[.val (.int p1), .val (.int p2), .val (.int p3), .val (.int p4), .val (.int (0 : Int32)), .unset, .unset, .unset]) rfl k) ?_
    show own_Go p e below s _ _ _ (T.setTop (mkF m 13 #[.val (.int p1), .val (.int p2), .val (.int p3), .val (.int p4), .val (.int (0 : Int32)), .unset, .unset, .unset] []))
    refine own_go (fun _ k => XS.iload X0.here hx rfl (hb hby at_13) rfl k) ?_
    show own_Go p e below s _ _ _ (T.setTop (mkF m 15 #[.val (.int p1), .val (.int p2), .val (.int p3), .val (.int p4), .val (.int (0 : Int32)), .unset, .unset, .unset] [(.int (0 : Int32))]))
    refine own_go (fun _ k => XS.ifYes X0.here hx rfl (pc0 := 15) (pc' := 24) rfl (hb hby at_15) rfl ((if0 _ _).trans (teq (by decide : (0 : Int32) = (0 : Int32))).1) (by decide) (by decide) k) ?_
    show own_Go p e below s _ _ _ (T.setTop (mkF m 24 #[.val (.int p1), .val (.int p2), .val (.int p3), .val (.int p4), .val (.int (0 : Int32)), .unset, .unset, .unset] []))
    obtain ⟨T2, X2, e2, st2⟩ := getS2 X0 hx hZ hown (host := "") (Or.inl (hw _ (List.mem_of_getElem? (i := 0) rfl))) Via.refl e0 (oA.ext O0) (g := (mkF m 24 #[.val (.int p1), .val (.int p2), .val (.int p3), .val (.int p4), .val (.int (0 : Int32)), .unset, .unset, .unset] [])) rfl (hb hby at_24)
    refine own_go st2 ?_
    show own_Go p e below s _ _ _ (T2.setTop (mkF m 27 #[.val (.int p1), .val (.int p2), .val (.int p3), .val (.int p4), .val (.int (0 : Int32)), .unset, .unset, .unset] [(.ref wx)]))
    refine own_go (fun _ k => XS.astore X2.here hx rfl (hb hby at_27) rfl rfl (l' := #[.val (.int p1), .val (.int p2), .val (.int p3), .val (.int p4), .val (.int (0 : Int32)), .val (.ref wx), .unset, .unset]) rfl k) ?_
    show own_Go p e below s _ _ _ (T2.setTop (mkF m 29 #[.val (.int p1), .val (.int p2), .val (.int p3), .val (.int p4), .val (.int (0 : Int32)), .val (.ref wx), .unset, .unset] []))
    refine own_go (fun _ k => XS.iload X2.here hx rfl (hb hby at_29) rfl k) ?_
    show own_Go p e below s _ _ _ (T2.setTop (mkF m 31 #[.val (.int p1), .val (.int p2), .val (.int p3), .val (.int p4), .val (.int (0 : Int32)), .val (.ref wx), .unset, .unset] [(.int (0 : Int32))]))
    refine own_go (fun _ k => XS.ifYes X2.here hx rfl (pc0 := 31) (pc' := 38) rfl (hb hby at_31) rfl ((if0 _ _).trans (teq (by decide : (0 : Int32) = (0 : Int32))).1) (by decide) (by decide) k) ?_
    show own_Go p e below s _ _ _ (T2.setTop (mkF m 38 #[.val (.int p1), .val (.int p2), .val (.int p3), .val (.int p4), .val (.int (0 : Int32)), .val (.ref wx), .unset, .unset] []))
    refine own_go (fun _ k => XS.iconst X2.here hx rfl (hb hby at_38) k) ?_
    show own_Go p e below s _ _ _ (T2.setTop (mkF m 39 #[.val (.int p1), .val (.int p2), .val (.int p3), .val (.int p4), .val (.int (0 : Int32)), .val (.ref wx), .unset, .unset] [(.int (1 : Int32))]))
    refine own_go (fun _ k => XS.istore X2.here hx rfl (hb hby at_39) rfl (l' := #[.val (.int p1), .val (.int p2), .val (.int p3), .val (.int p4), .val (.int (0 : Int32)), .val (.ref wx), .val (.int (1 : Int32)), .unset]) rfl k) ?_
    show own_Go p e below s _ _ _ (T2.setTop (mkF m 41 #[.val (.int p1), .val (.int p2), .val (.int p3), .val (.int p4), .val (.int (0 : Int32)), .val (.ref wx), .val (.int (1 : Int32)), .unset] []))
    refine own_go (fun _ k => XS.iloadN X2.here hx rfl (hb hby at_41) rfl k) ?_
    show own_Go p e below s _ _ _ (T2.setTop (mkF m 42 #[.val (.int p1), .val (.int p2), .val (.int p3), .val (.int p4), .val (.int (0 : Int32)), .val (.ref wx), .val (.int (1 : Int32)), .unset] [(.int p2)]))
    refine own_go (fun _ k => XS.iload X2.here hx rfl (hb hby at_42) rfl k) ?_
    show own_Go p e below s _ _ _ (T2.setTop (mkF m 44 #[.val (.int p1), .val (.int p2), .val (.int p3), .val (.int p4), .val (.int (0 : Int32)), .val (.ref wx), .val (.int (1 : Int32)), .unset] [(.int (1 : Int32)), (.int p2)]))
    by_cases hc3 : p2 < (1 : Int32)
    · refine own_go (fun _ k => XS.icmpNo X2.here hx rfl (hb hby at_44) rfl (tlt hc3).2.1 k) ?_
      show own_Go p e below s _ _ _ (T2.setTop (mkF m 47 #[.val (.int p1), .val (.int p2), .val (.int p3), .val (.int p4), .val (.int (0 : Int32)), .val (.ref wx), .val (.int (1 : Int32)), .unset] []))
      refine own_go (fun _ k => XS.iconst X2.here hx rfl (hb hby at_47) k) ?_
      show own_Go p e below s _ _ _ (T2.setTop (mkF m 48 #[.val (.int p1), .val (.int p2), .val (.int p3), .val (.int p4), .val (.int (0 : Int32)), .val (.ref wx), .val (.int (1 : Int32)), .unset] [(.int (0 : Int32))]))
      refine own_go (fun _ k => XS.istore X2.here hx rfl (hb hby at_48) rfl (l' := #[.val (.int p1), .val (.int p2), .val (.int p3), .val (.int p4), .val (.int (0 : Int32)), .val (.ref wx), .val (.int (1 : Int32)), .val (.int (0 : Int32))]) rfl k) ?_
      show own_Go p e below s _ _ _ (T2.setTop (mkF m 50 #[.val (.int p1), .val (.int p2), .val (.int p3), .val (.int p4), .val (.int (0 : Int32)), .val (.ref wx), .val (.int (1 : Int32)), .val (.int (0 : Int32))] []))
      refine own_go (fun _ k => XS.goto X2.here hx rfl (pc0 := 50) (pc' := 78) rfl (hb hby at_50) (by decide) (by decide) k) ?_
      show own_Go p e below s _ _ _ (T2.setTop (mkF m 78 #[.val (.int p1), .val (.int p2), .val (.int p3), .val (.int p4), .val (.int (0 : Int32)), .val (.ref wx), .val (.int (1 : Int32)), .val (.int (0 : Int32))] []))
      refine own_go (fun _ k => XS.aload X2.here hx rfl (hb hby at_78) rfl rfl k) ?_
      show own_Go p e below s _ _ _ (T2.setTop (mkF m 80 #[.val (.int p1), .val (.int p2), .val (.int p3), .val (.int p4), .val (.int (0 : Int32)), .val (.ref wx), .val (.int (1 : Int32)), .val (.int (0 : Int32))] [(.ref wx)]))
      refine own_go (fun _ k => XS.iloadN X2.here hx rfl (hb hby at_80) rfl k) ?_
      show own_Go p e below s _ _ _ (T2.setTop (mkF m 81 #[.val (.int p1), .val (.int p2), .val (.int p3), .val (.int p4), .val (.int (0 : Int32)), .val (.ref wx), .val (.int (1 : Int32)), .val (.int (0 : Int32))] [(.int p2), (.ref wx)]))
      refine own_go (fun _ k => XS.iloadN X2.here hx rfl (hb hby at_81) rfl k) ?_
      show own_Go p e below s _ _ _ (T2.setTop (mkF m 82 #[.val (.int p1), .val (.int p2), .val (.int p3), .val (.int p4), .val (.int (0 : Int32)), .val (.ref wx), .val (.int (1 : Int32)), .val (.int (0 : Int32))] [(.int p3), (.int p2), (.ref wx)]))
      refine own_go (fun _ k => XS.iloadN X2.here hx rfl (hb hby at_82) rfl k) ?_
      show own_Go p e below s _ _ _ (T2.setTop (mkF m 83 #[.val (.int p1), .val (.int p2), .val (.int p3), .val (.int p4), .val (.int (0 : Int32)), .val (.ref wx), .val (.int (1 : Int32)), .val (.int (0 : Int32))] [(.int p4), (.int p3), (.int p2), (.ref wx)]))
      obtain ⟨v4, T4, L4, X4, hQ4, st4⟩ := own_callV (y := (⟨"com/example/ratification/ratification/model/Constraint$Kind", "allows", "(III)Z"⟩ : MethodName)) (z := (⟨"com/example/ratification/ratification/model/Constraint$Kind", "allows", "(III)Z"⟩ : MethodName)) X2 hx hZ hown (hw _ (List.mem_of_getElem? (i := 3) rfl)) (hw _ (List.mem_of_getElem? (i := 4) rfl)) (notFace_of_selects (args := #[]) (mvT hZ (hw _ (List.mem_of_getElem? (i := 6) rfl)))) (hw _ (List.mem_of_getElem? (i := 6) rfl)) (hw _ (List.mem_of_getElem? (i := 5) rfl)) (hw _ (List.mem_of_getElem? (i := 1) rfl)) (hw _ (List.mem_of_getElem? (i := 7) rfl)) (rm_allows l Z a0 hw oA oB oE1 oE2 oF1 oF2 [] wx p2 p3 p4 (1 : Int32) h0 O0 (oF1.ext O0)) 0 0 0 rfl rfl (by decide) (by decide) (by decide) (by show _ ≤ 0; omega) (by show _ ≤ 0; omega) e2 (oE1.ext O0) (g := (mkF m 83 #[.val (.int p1), .val (.int p2), .val (.int p3), .val (.int p4), .val (.int (0 : Int32)), .val (.ref wx), .val (.int (1 : Int32)), .val (.int (0 : Int32))] [(.int p4), (.int p3), (.int p2), (.ref wx)])) rfl (by rw [hml]; rfl) [(.int p2), (.int p3), (.int p4)] [] (lenOf own_pd_1 rfl) rfl rfl (by show 2 * 0 + _ ≤ _; exact Nat.le_of_eq rfl) (hb hby at_83)
      rcases hQ4 with hQ4 | hQ4 | hQ4 | hQ4 | hQ4
      · obtain ⟨rfl, Nc7, hp5, Kc6⟩ := hQ4
        refine own_go st4 ?_
        have N8 := Fr.app N0 Nc7
        show own_Go p e below s _ _ _ (T4.setTop (mkF m 86 #[.val (.int p1), .val (.int p2), .val (.int p3), .val (.int p4), .val (.int (0 : Int32)), .val (.ref wx), .val (.int (1 : Int32)), .val (.int (0 : Int32))] [(.int (0 : Int32))]))
        refine own_go (fun _ k => XS.iload X4.here hx rfl (hb hby at_86) rfl k) ?_
        show own_Go p e below s _ _ _ (T4.setTop (mkF m 88 #[.val (.int p1), .val (.int p2), .val (.int p3), .val (.int p4), .val (.int (0 : Int32)), .val (.ref wx), .val (.int (1 : Int32)), .val (.int (0 : Int32))] [(.int (0 : Int32)), (.int (0 : Int32))]))
        refine own_go (fun _ k => XS.icmpNo X4.here hx rfl (hb hby at_88) rfl (teq (by decide : (0 : Int32) = (0 : Int32))).2 k) ?_
        show own_Go p e below s _ _ _ (T4.setTop (mkF m 91 #[.val (.int p1), .val (.int p2), .val (.int p3), .val (.int p4), .val (.int (0 : Int32)), .val (.ref wx), .val (.int (1 : Int32)), .val (.int (0 : Int32))] []))
        refine own_go (fun _ k => XS.iconst X4.here hx rfl (hb hby at_91) k) ?_
        show own_Go p e below s _ _ _ (T4.setTop (mkF m 92 #[.val (.int p1), .val (.int p2), .val (.int p3), .val (.int p4), .val (.int (0 : Int32)), .val (.ref wx), .val (.int (1 : Int32)), .val (.int (0 : Int32))] [(.int (1 : Int32))]))
        refine own_go (fun _ k => XS.goto X4.here hx rfl (pc0 := 92) (pc' := 96) rfl (hb hby at_92) (by decide) (by decide) k) ?_
        show own_Go p e below s _ _ _ (T4.setTop (mkF m 96 #[.val (.int p1), .val (.int p2), .val (.int p3), .val (.int p4), .val (.int (0 : Int32)), .val (.ref wx), .val (.int (1 : Int32)), .val (.int (0 : Int32))] [(.int (1 : Int32))]))
        refine own_retN X4 hx hlk Kc6 (t := .boolean) hret (by simp) (hb hby at_96) (by show _ ≤ 0; omega) (by show _ ≤ 0; omega) ?_
        exact ⟨rfl, N8, K0⟩
      · obtain ⟨rfl, Nc13, hp9, hp10, hp11, Kc12⟩ := hQ4
        refine own_go st4 ?_
        have N14 := Fr.app N0 Nc13
        exact absurd hc3 hp9
      · obtain ⟨rfl, Nc19, hp15, hp16, hp17, Kc18⟩ := hQ4
        refine own_go st4 ?_
        have N20 := Fr.app N0 Nc19
        exact absurd hc3 hp15
      · obtain ⟨rfl, Nc25, hp21, hp22, hp23, Kc24⟩ := hQ4
        refine own_go st4 ?_
        have N26 := Fr.app N0 Nc25
        exact absurd hc3 hp21
      · obtain ⟨rfl, Nc31, hp27, hp28, hp29, Kc30⟩ := hQ4
        refine own_go st4 ?_
        have N32 := Fr.app N0 Nc31
        exact absurd hc3 hp27
    · refine own_go (fun _ k => XS.icmpYes X2.here hx rfl (pc0 := 44) (pc' := 53) rfl (hb hby at_44) rfl (flt hc3).2.1 (by decide) (by decide) k) ?_
      show own_Go p e below s _ _ _ (T2.setTop (mkF m 53 #[.val (.int p1), .val (.int p2), .val (.int p3), .val (.int p4), .val (.int (0 : Int32)), .val (.ref wx), .val (.int (1 : Int32)), .unset] []))
      refine own_go (fun _ k => XS.iloadN X2.here hx rfl (hb hby at_53) rfl k) ?_
      show own_Go p e below s _ _ _ (T2.setTop (mkF m 54 #[.val (.int p1), .val (.int p2), .val (.int p3), .val (.int p4), .val (.int (0 : Int32)), .val (.ref wx), .val (.int (1 : Int32)), .unset] [(.int p2)]))
      refine own_go (fun _ k => XS.iloadN X2.here hx rfl (hb hby at_54) rfl k) ?_
      show own_Go p e below s _ _ _ (T2.setTop (mkF m 55 #[.val (.int p1), .val (.int p2), .val (.int p3), .val (.int p4), .val (.int (0 : Int32)), .val (.ref wx), .val (.int (1 : Int32)), .unset] [(.int p3), (.int p2)]))
      by_cases hc33 : p3 < p2
      · refine own_go (fun _ k => XS.icmpNo X2.here hx rfl (hb hby at_55) rfl (tlt hc33).2.2.2 k) ?_
        show own_Go p e below s _ _ _ (T2.setTop (mkF m 58 #[.val (.int p1), .val (.int p2), .val (.int p3), .val (.int p4), .val (.int (0 : Int32)), .val (.ref wx), .val (.int (1 : Int32)), .unset] []))
        refine own_go (fun _ k => XS.iconst X2.here hx rfl (hb hby at_58) k) ?_
        show own_Go p e below s _ _ _ (T2.setTop (mkF m 59 #[.val (.int p1), .val (.int p2), .val (.int p3), .val (.int p4), .val (.int (0 : Int32)), .val (.ref wx), .val (.int (1 : Int32)), .unset] [(.int (0 : Int32))]))
        refine own_go (fun _ k => XS.istore X2.here hx rfl (hb hby at_59) rfl (l' := #[.val (.int p1), .val (.int p2), .val (.int p3), .val (.int p4), .val (.int (0 : Int32)), .val (.ref wx), .val (.int (1 : Int32)), .val (.int (0 : Int32))]) rfl k) ?_
        show own_Go p e below s _ _ _ (T2.setTop (mkF m 61 #[.val (.int p1), .val (.int p2), .val (.int p3), .val (.int p4), .val (.int (0 : Int32)), .val (.ref wx), .val (.int (1 : Int32)), .val (.int (0 : Int32))] []))
        refine own_go (fun _ k => XS.goto X2.here hx rfl (pc0 := 61) (pc' := 78) rfl (hb hby at_61) (by decide) (by decide) k) ?_
        show own_Go p e below s _ _ _ (T2.setTop (mkF m 78 #[.val (.int p1), .val (.int p2), .val (.int p3), .val (.int p4), .val (.int (0 : Int32)), .val (.ref wx), .val (.int (1 : Int32)), .val (.int (0 : Int32))] []))
        refine own_go (fun _ k => XS.aload X2.here hx rfl (hb hby at_78) rfl rfl k) ?_
        show own_Go p e below s _ _ _ (T2.setTop (mkF m 80 #[.val (.int p1), .val (.int p2), .val (.int p3), .val (.int p4), .val (.int (0 : Int32)), .val (.ref wx), .val (.int (1 : Int32)), .val (.int (0 : Int32))] [(.ref wx)]))
        refine own_go (fun _ k => XS.iloadN X2.here hx rfl (hb hby at_80) rfl k) ?_
        show own_Go p e below s _ _ _ (T2.setTop (mkF m 81 #[.val (.int p1), .val (.int p2), .val (.int p3), .val (.int p4), .val (.int (0 : Int32)), .val (.ref wx), .val (.int (1 : Int32)), .val (.int (0 : Int32))] [(.int p2), (.ref wx)]))
        refine own_go (fun _ k => XS.iloadN X2.here hx rfl (hb hby at_81) rfl k) ?_
        show own_Go p e below s _ _ _ (T2.setTop (mkF m 82 #[.val (.int p1), .val (.int p2), .val (.int p3), .val (.int p4), .val (.int (0 : Int32)), .val (.ref wx), .val (.int (1 : Int32)), .val (.int (0 : Int32))] [(.int p3), (.int p2), (.ref wx)]))
        refine own_go (fun _ k => XS.iloadN X2.here hx rfl (hb hby at_82) rfl k) ?_
        show own_Go p e below s _ _ _ (T2.setTop (mkF m 83 #[.val (.int p1), .val (.int p2), .val (.int p3), .val (.int p4), .val (.int (0 : Int32)), .val (.ref wx), .val (.int (1 : Int32)), .val (.int (0 : Int32))] [(.int p4), (.int p3), (.int p2), (.ref wx)]))
        obtain ⟨v34, T34, L34, X34, hQ34, st34⟩ := own_callV (y := (⟨"com/example/ratification/ratification/model/Constraint$Kind", "allows", "(III)Z"⟩ : MethodName)) (z := (⟨"com/example/ratification/ratification/model/Constraint$Kind", "allows", "(III)Z"⟩ : MethodName)) X2 hx hZ hown (hw _ (List.mem_of_getElem? (i := 3) rfl)) (hw _ (List.mem_of_getElem? (i := 4) rfl)) (notFace_of_selects (args := #[]) (mvT hZ (hw _ (List.mem_of_getElem? (i := 6) rfl)))) (hw _ (List.mem_of_getElem? (i := 6) rfl)) (hw _ (List.mem_of_getElem? (i := 5) rfl)) (hw _ (List.mem_of_getElem? (i := 1) rfl)) (hw _ (List.mem_of_getElem? (i := 7) rfl)) (rm_allows l Z a0 hw oA oB oE1 oE2 oF1 oF2 [] wx p2 p3 p4 (1 : Int32) h0 O0 (oF1.ext O0)) 0 0 0 rfl rfl (by decide) (by decide) (by decide) (by show _ ≤ 0; omega) (by show _ ≤ 0; omega) e2 (oE1.ext O0) (g := (mkF m 83 #[.val (.int p1), .val (.int p2), .val (.int p3), .val (.int p4), .val (.int (0 : Int32)), .val (.ref wx), .val (.int (1 : Int32)), .val (.int (0 : Int32))] [(.int p4), (.int p3), (.int p2), (.ref wx)])) rfl (by rw [hml]; rfl) [(.int p2), (.int p3), (.int p4)] [] (lenOf own_pd_1 rfl) rfl rfl (by show 2 * 0 + _ ≤ _; exact Nat.le_of_eq rfl) (hb hby at_83)
        rcases hQ34 with hQ34 | hQ34 | hQ34 | hQ34 | hQ34
        · obtain ⟨rfl, Nc37, hp35, Kc36⟩ := hQ34
          refine own_go st34 ?_
          have N38 := Fr.app N0 Nc37
          exact absurd hp35 hc3
        · obtain ⟨rfl, Nc43, hp39, hp40, hp41, Kc42⟩ := hQ34
          refine own_go st34 ?_
          have N44 := Fr.app N0 Nc43
          show own_Go p e below s _ _ _ (T34.setTop (mkF m 86 #[.val (.int p1), .val (.int p2), .val (.int p3), .val (.int p4), .val (.int (0 : Int32)), .val (.ref wx), .val (.int (1 : Int32)), .val (.int (0 : Int32))] [(.int (0 : Int32))]))
          refine own_go (fun _ k => XS.iload X34.here hx rfl (hb hby at_86) rfl k) ?_
          show own_Go p e below s _ _ _ (T34.setTop (mkF m 88 #[.val (.int p1), .val (.int p2), .val (.int p3), .val (.int p4), .val (.int (0 : Int32)), .val (.ref wx), .val (.int (1 : Int32)), .val (.int (0 : Int32))] [(.int (0 : Int32)), (.int (0 : Int32))]))
          refine own_go (fun _ k => XS.icmpNo X34.here hx rfl (hb hby at_88) rfl (teq (by decide : (0 : Int32) = (0 : Int32))).2 k) ?_
          show own_Go p e below s _ _ _ (T34.setTop (mkF m 91 #[.val (.int p1), .val (.int p2), .val (.int p3), .val (.int p4), .val (.int (0 : Int32)), .val (.ref wx), .val (.int (1 : Int32)), .val (.int (0 : Int32))] []))
          refine own_go (fun _ k => XS.iconst X34.here hx rfl (hb hby at_91) k) ?_
          show own_Go p e below s _ _ _ (T34.setTop (mkF m 92 #[.val (.int p1), .val (.int p2), .val (.int p3), .val (.int p4), .val (.int (0 : Int32)), .val (.ref wx), .val (.int (1 : Int32)), .val (.int (0 : Int32))] [(.int (1 : Int32))]))
          refine own_go (fun _ k => XS.goto X34.here hx rfl (pc0 := 92) (pc' := 96) rfl (hb hby at_92) (by decide) (by decide) k) ?_
          show own_Go p e below s _ _ _ (T34.setTop (mkF m 96 #[.val (.int p1), .val (.int p2), .val (.int p3), .val (.int p4), .val (.int (0 : Int32)), .val (.ref wx), .val (.int (1 : Int32)), .val (.int (0 : Int32))] [(.int (1 : Int32))]))
          refine own_retN X34 hx hlk Kc42 (t := .boolean) hret (by simp) (hb hby at_96) (by show _ ≤ 0; omega) (by show _ ≤ 0; omega) ?_
          exact ⟨rfl, N44, K0⟩
        · obtain ⟨rfl, Nc49, hp45, hp46, hp47, Kc48⟩ := hQ34
          refine own_go st34 ?_
          have N50 := Fr.app N0 Nc49
          exact absurd hc33 hp47
        · obtain ⟨rfl, Nc55, hp51, hp52, hp53, Kc54⟩ := hQ34
          refine own_go st34 ?_
          have N56 := Fr.app N0 Nc55
          show own_Go p e below s _ _ _ (T34.setTop (mkF m 86 #[.val (.int p1), .val (.int p2), .val (.int p3), .val (.int p4), .val (.int (0 : Int32)), .val (.ref wx), .val (.int (1 : Int32)), .val (.int (0 : Int32))] [(.int (0 : Int32))]))
          refine own_go (fun _ k => XS.iload X34.here hx rfl (hb hby at_86) rfl k) ?_
          show own_Go p e below s _ _ _ (T34.setTop (mkF m 88 #[.val (.int p1), .val (.int p2), .val (.int p3), .val (.int p4), .val (.int (0 : Int32)), .val (.ref wx), .val (.int (1 : Int32)), .val (.int (0 : Int32))] [(.int (0 : Int32)), (.int (0 : Int32))]))
          refine own_go (fun _ k => XS.icmpNo X34.here hx rfl (hb hby at_88) rfl (teq (by decide : (0 : Int32) = (0 : Int32))).2 k) ?_
          show own_Go p e below s _ _ _ (T34.setTop (mkF m 91 #[.val (.int p1), .val (.int p2), .val (.int p3), .val (.int p4), .val (.int (0 : Int32)), .val (.ref wx), .val (.int (1 : Int32)), .val (.int (0 : Int32))] []))
          refine own_go (fun _ k => XS.iconst X34.here hx rfl (hb hby at_91) k) ?_
          show own_Go p e below s _ _ _ (T34.setTop (mkF m 92 #[.val (.int p1), .val (.int p2), .val (.int p3), .val (.int p4), .val (.int (0 : Int32)), .val (.ref wx), .val (.int (1 : Int32)), .val (.int (0 : Int32))] [(.int (1 : Int32))]))
          refine own_go (fun _ k => XS.goto X34.here hx rfl (pc0 := 92) (pc' := 96) rfl (hb hby at_92) (by decide) (by decide) k) ?_
          show own_Go p e below s _ _ _ (T34.setTop (mkF m 96 #[.val (.int p1), .val (.int p2), .val (.int p3), .val (.int p4), .val (.int (0 : Int32)), .val (.ref wx), .val (.int (1 : Int32)), .val (.int (0 : Int32))] [(.int (1 : Int32))]))
          refine own_retN X34 hx hlk Kc54 (t := .boolean) hret (by simp) (hb hby at_96) (by show _ ≤ 0; omega) (by show _ ≤ 0; omega) ?_
          exact ⟨rfl, N56, K0⟩
        · obtain ⟨rfl, Nc61, hp57, hp58, hp59, Kc60⟩ := hQ34
          refine own_go st34 ?_
          have N62 := Fr.app N0 Nc61
          show own_Go p e below s _ _ _ (T34.setTop (mkF m 86 #[.val (.int p1), .val (.int p2), .val (.int p3), .val (.int p4), .val (.int (0 : Int32)), .val (.ref wx), .val (.int (1 : Int32)), .val (.int (0 : Int32))] [(.int (1 : Int32))]))
          refine own_go (fun _ k => XS.iload X34.here hx rfl (hb hby at_86) rfl k) ?_
          show own_Go p e below s _ _ _ (T34.setTop (mkF m 88 #[.val (.int p1), .val (.int p2), .val (.int p3), .val (.int p4), .val (.int (0 : Int32)), .val (.ref wx), .val (.int (1 : Int32)), .val (.int (0 : Int32))] [(.int (0 : Int32)), (.int (1 : Int32))]))
          refine own_go (fun _ k => XS.icmpYes X34.here hx rfl (pc0 := 88) (pc' := 95) rfl (hb hby at_88) rfl (feq (by decide : ¬ ((1 : Int32) = (0 : Int32)))).2 (by decide) (by decide) k) ?_
          show own_Go p e below s _ _ _ (T34.setTop (mkF m 95 #[.val (.int p1), .val (.int p2), .val (.int p3), .val (.int p4), .val (.int (0 : Int32)), .val (.ref wx), .val (.int (1 : Int32)), .val (.int (0 : Int32))] []))
          refine own_go (fun _ k => XS.iconst X34.here hx rfl (hb hby at_95) k) ?_
          show own_Go p e below s _ _ _ (T34.setTop (mkF m 96 #[.val (.int p1), .val (.int p2), .val (.int p3), .val (.int p4), .val (.int (0 : Int32)), .val (.ref wx), .val (.int (1 : Int32)), .val (.int (0 : Int32))] [(.int (0 : Int32))]))
          refine own_retN X34 hx hlk Kc60 (t := .boolean) hret (by simp) (hb hby at_96) (by show _ ≤ 0; omega) (by show _ ≤ 0; omega) ?_
          exfalso
          have ar0 := rng32 p2
          have ar1 : (1 : Int32).toInt = 1 := by decide
          have ar2 := mt Int32.lt_iff_toInt_lt.mpr hp57
          have ar3 := rng32 p3
          have ar4 := Int32.lt_iff_toInt_lt.mp hc33
          have ar5 := rng32 p4
          have ar6 := Int32.lt_iff_toInt_lt.mp hp58
          have ar7 := mt Int32.lt_iff_toInt_lt.mpr hp59
          omega
      · refine own_go (fun _ k => XS.icmpYes X2.here hx rfl (pc0 := 55) (pc' := 64) rfl (hb hby at_55) rfl (flt hc33).2.2.2 (by decide) (by decide) k) ?_
        show own_Go p e below s _ _ _ (T2.setTop (mkF m 64 #[.val (.int p1), .val (.int p2), .val (.int p3), .val (.int p4), .val (.int (0 : Int32)), .val (.ref wx), .val (.int (1 : Int32)), .unset] []))
        refine own_go (fun _ k => XS.iloadN X2.here hx rfl (hb hby at_64) rfl k) ?_
        show own_Go p e below s _ _ _ (T2.setTop (mkF m 65 #[.val (.int p1), .val (.int p2), .val (.int p3), .val (.int p4), .val (.int (0 : Int32)), .val (.ref wx), .val (.int (1 : Int32)), .unset] [(.int p2)]))
        refine own_go (fun _ k => XS.iloadN X2.here hx rfl (hb hby at_65) rfl k) ?_
        show own_Go p e below s _ _ _ (T2.setTop (mkF m 66 #[.val (.int p1), .val (.int p2), .val (.int p3), .val (.int p4), .val (.int (0 : Int32)), .val (.ref wx), .val (.int (1 : Int32)), .unset] [(.int p4), (.int p2)]))
        by_cases hc63 : p4 < p2
        · refine own_go (fun _ k => XS.icmpNo X2.here hx rfl (hb hby at_66) rfl (tlt hc63).2.2.2 k) ?_
          show own_Go p e below s _ _ _ (T2.setTop (mkF m 69 #[.val (.int p1), .val (.int p2), .val (.int p3), .val (.int p4), .val (.int (0 : Int32)), .val (.ref wx), .val (.int (1 : Int32)), .unset] []))
          refine own_go (fun _ k => XS.iconst X2.here hx rfl (hb hby at_69) k) ?_
          show own_Go p e below s _ _ _ (T2.setTop (mkF m 70 #[.val (.int p1), .val (.int p2), .val (.int p3), .val (.int p4), .val (.int (0 : Int32)), .val (.ref wx), .val (.int (1 : Int32)), .unset] [(.int (0 : Int32))]))
          refine own_go (fun _ k => XS.istore X2.here hx rfl (hb hby at_70) rfl (l' := #[.val (.int p1), .val (.int p2), .val (.int p3), .val (.int p4), .val (.int (0 : Int32)), .val (.ref wx), .val (.int (1 : Int32)), .val (.int (0 : Int32))]) rfl k) ?_
          show own_Go p e below s _ _ _ (T2.setTop (mkF m 72 #[.val (.int p1), .val (.int p2), .val (.int p3), .val (.int p4), .val (.int (0 : Int32)), .val (.ref wx), .val (.int (1 : Int32)), .val (.int (0 : Int32))] []))
          refine own_go (fun _ k => XS.goto X2.here hx rfl (pc0 := 72) (pc' := 78) rfl (hb hby at_72) (by decide) (by decide) k) ?_
          show own_Go p e below s _ _ _ (T2.setTop (mkF m 78 #[.val (.int p1), .val (.int p2), .val (.int p3), .val (.int p4), .val (.int (0 : Int32)), .val (.ref wx), .val (.int (1 : Int32)), .val (.int (0 : Int32))] []))
          refine own_go (fun _ k => XS.aload X2.here hx rfl (hb hby at_78) rfl rfl k) ?_
          show own_Go p e below s _ _ _ (T2.setTop (mkF m 80 #[.val (.int p1), .val (.int p2), .val (.int p3), .val (.int p4), .val (.int (0 : Int32)), .val (.ref wx), .val (.int (1 : Int32)), .val (.int (0 : Int32))] [(.ref wx)]))
          refine own_go (fun _ k => XS.iloadN X2.here hx rfl (hb hby at_80) rfl k) ?_
          show own_Go p e below s _ _ _ (T2.setTop (mkF m 81 #[.val (.int p1), .val (.int p2), .val (.int p3), .val (.int p4), .val (.int (0 : Int32)), .val (.ref wx), .val (.int (1 : Int32)), .val (.int (0 : Int32))] [(.int p2), (.ref wx)]))
          refine own_go (fun _ k => XS.iloadN X2.here hx rfl (hb hby at_81) rfl k) ?_
          show own_Go p e below s _ _ _ (T2.setTop (mkF m 82 #[.val (.int p1), .val (.int p2), .val (.int p3), .val (.int p4), .val (.int (0 : Int32)), .val (.ref wx), .val (.int (1 : Int32)), .val (.int (0 : Int32))] [(.int p3), (.int p2), (.ref wx)]))
          refine own_go (fun _ k => XS.iloadN X2.here hx rfl (hb hby at_82) rfl k) ?_
          show own_Go p e below s _ _ _ (T2.setTop (mkF m 83 #[.val (.int p1), .val (.int p2), .val (.int p3), .val (.int p4), .val (.int (0 : Int32)), .val (.ref wx), .val (.int (1 : Int32)), .val (.int (0 : Int32))] [(.int p4), (.int p3), (.int p2), (.ref wx)]))
          obtain ⟨v64, T64, L64, X64, hQ64, st64⟩ := own_callV (y := (⟨"com/example/ratification/ratification/model/Constraint$Kind", "allows", "(III)Z"⟩ : MethodName)) (z := (⟨"com/example/ratification/ratification/model/Constraint$Kind", "allows", "(III)Z"⟩ : MethodName)) X2 hx hZ hown (hw _ (List.mem_of_getElem? (i := 3) rfl)) (hw _ (List.mem_of_getElem? (i := 4) rfl)) (notFace_of_selects (args := #[]) (mvT hZ (hw _ (List.mem_of_getElem? (i := 6) rfl)))) (hw _ (List.mem_of_getElem? (i := 6) rfl)) (hw _ (List.mem_of_getElem? (i := 5) rfl)) (hw _ (List.mem_of_getElem? (i := 1) rfl)) (hw _ (List.mem_of_getElem? (i := 7) rfl)) (rm_allows l Z a0 hw oA oB oE1 oE2 oF1 oF2 [] wx p2 p3 p4 (1 : Int32) h0 O0 (oF1.ext O0)) 0 0 0 rfl rfl (by decide) (by decide) (by decide) (by show _ ≤ 0; omega) (by show _ ≤ 0; omega) e2 (oE1.ext O0) (g := (mkF m 83 #[.val (.int p1), .val (.int p2), .val (.int p3), .val (.int p4), .val (.int (0 : Int32)), .val (.ref wx), .val (.int (1 : Int32)), .val (.int (0 : Int32))] [(.int p4), (.int p3), (.int p2), (.ref wx)])) rfl (by rw [hml]; rfl) [(.int p2), (.int p3), (.int p4)] [] (lenOf own_pd_1 rfl) rfl rfl (by show 2 * 0 + _ ≤ _; exact Nat.le_of_eq rfl) (hb hby at_83)
          rcases hQ64 with hQ64 | hQ64 | hQ64 | hQ64 | hQ64
          · obtain ⟨rfl, Nc67, hp65, Kc66⟩ := hQ64
            refine own_go st64 ?_
            have N68 := Fr.app N0 Nc67
            exact absurd hp65 hc3
          · obtain ⟨rfl, Nc73, hp69, hp70, hp71, Kc72⟩ := hQ64
            refine own_go st64 ?_
            have N74 := Fr.app N0 Nc73
            exact absurd hp71 hc33
          · obtain ⟨rfl, Nc79, hp75, hp76, hp77, Kc78⟩ := hQ64
            refine own_go st64 ?_
            have N80 := Fr.app N0 Nc79
            show own_Go p e below s _ _ _ (T64.setTop (mkF m 86 #[.val (.int p1), .val (.int p2), .val (.int p3), .val (.int p4), .val (.int (0 : Int32)), .val (.ref wx), .val (.int (1 : Int32)), .val (.int (0 : Int32))] [(.int (1 : Int32))]))
            refine own_go (fun _ k => XS.iload X64.here hx rfl (hb hby at_86) rfl k) ?_
            show own_Go p e below s _ _ _ (T64.setTop (mkF m 88 #[.val (.int p1), .val (.int p2), .val (.int p3), .val (.int p4), .val (.int (0 : Int32)), .val (.ref wx), .val (.int (1 : Int32)), .val (.int (0 : Int32))] [(.int (0 : Int32)), (.int (1 : Int32))]))
            refine own_go (fun _ k => XS.icmpYes X64.here hx rfl (pc0 := 88) (pc' := 95) rfl (hb hby at_88) rfl (feq (by decide : ¬ ((1 : Int32) = (0 : Int32)))).2 (by decide) (by decide) k) ?_
            show own_Go p e below s _ _ _ (T64.setTop (mkF m 95 #[.val (.int p1), .val (.int p2), .val (.int p3), .val (.int p4), .val (.int (0 : Int32)), .val (.ref wx), .val (.int (1 : Int32)), .val (.int (0 : Int32))] []))
            refine own_go (fun _ k => XS.iconst X64.here hx rfl (hb hby at_95) k) ?_
            show own_Go p e below s _ _ _ (T64.setTop (mkF m 96 #[.val (.int p1), .val (.int p2), .val (.int p3), .val (.int p4), .val (.int (0 : Int32)), .val (.ref wx), .val (.int (1 : Int32)), .val (.int (0 : Int32))] [(.int (0 : Int32))]))
            refine own_retN X64 hx hlk Kc78 (t := .boolean) hret (by simp) (hb hby at_96) (by show _ ≤ 0; omega) (by show _ ≤ 0; omega) ?_
            exfalso
            have ar0 := rng32 p2
            have ar1 : (1 : Int32).toInt = 1 := by decide
            have ar2 := mt Int32.lt_iff_toInt_lt.mpr hp75
            have ar3 := rng32 p3
            have ar4 := mt Int32.lt_iff_toInt_lt.mpr hp77
            have ar5 := rng32 p4
            have ar6 := Int32.lt_iff_toInt_lt.mp hc63
            have ar7 := mt Int32.lt_iff_toInt_lt.mpr hp76
            omega
          · obtain ⟨rfl, Nc85, hp81, hp82, hp83, Kc84⟩ := hQ64
            refine own_go st64 ?_
            have N86 := Fr.app N0 Nc85
            show own_Go p e below s _ _ _ (T64.setTop (mkF m 86 #[.val (.int p1), .val (.int p2), .val (.int p3), .val (.int p4), .val (.int (0 : Int32)), .val (.ref wx), .val (.int (1 : Int32)), .val (.int (0 : Int32))] [(.int (0 : Int32))]))
            refine own_go (fun _ k => XS.iload X64.here hx rfl (hb hby at_86) rfl k) ?_
            show own_Go p e below s _ _ _ (T64.setTop (mkF m 88 #[.val (.int p1), .val (.int p2), .val (.int p3), .val (.int p4), .val (.int (0 : Int32)), .val (.ref wx), .val (.int (1 : Int32)), .val (.int (0 : Int32))] [(.int (0 : Int32)), (.int (0 : Int32))]))
            refine own_go (fun _ k => XS.icmpNo X64.here hx rfl (hb hby at_88) rfl (teq (by decide : (0 : Int32) = (0 : Int32))).2 k) ?_
            show own_Go p e below s _ _ _ (T64.setTop (mkF m 91 #[.val (.int p1), .val (.int p2), .val (.int p3), .val (.int p4), .val (.int (0 : Int32)), .val (.ref wx), .val (.int (1 : Int32)), .val (.int (0 : Int32))] []))
            refine own_go (fun _ k => XS.iconst X64.here hx rfl (hb hby at_91) k) ?_
            show own_Go p e below s _ _ _ (T64.setTop (mkF m 92 #[.val (.int p1), .val (.int p2), .val (.int p3), .val (.int p4), .val (.int (0 : Int32)), .val (.ref wx), .val (.int (1 : Int32)), .val (.int (0 : Int32))] [(.int (1 : Int32))]))
            refine own_go (fun _ k => XS.goto X64.here hx rfl (pc0 := 92) (pc' := 96) rfl (hb hby at_92) (by decide) (by decide) k) ?_
            show own_Go p e below s _ _ _ (T64.setTop (mkF m 96 #[.val (.int p1), .val (.int p2), .val (.int p3), .val (.int p4), .val (.int (0 : Int32)), .val (.ref wx), .val (.int (1 : Int32)), .val (.int (0 : Int32))] [(.int (1 : Int32))]))
            refine own_retN X64 hx hlk Kc84 (t := .boolean) hret (by simp) (hb hby at_96) (by show _ ≤ 0; omega) (by show _ ≤ 0; omega) ?_
            exact ⟨rfl, N86, K0⟩
          · obtain ⟨rfl, Nc91, hp87, hp88, hp89, Kc90⟩ := hQ64
            refine own_go st64 ?_
            have N92 := Fr.app N0 Nc91
            exact absurd hc63 hp89
        · refine own_go (fun _ k => XS.icmpYes X2.here hx rfl (pc0 := 66) (pc' := 75) rfl (hb hby at_66) rfl (flt hc63).2.2.2 (by decide) (by decide) k) ?_
          show own_Go p e below s _ _ _ (T2.setTop (mkF m 75 #[.val (.int p1), .val (.int p2), .val (.int p3), .val (.int p4), .val (.int (0 : Int32)), .val (.ref wx), .val (.int (1 : Int32)), .unset] []))
          refine own_go (fun _ k => XS.iconst X2.here hx rfl (hb hby at_75) k) ?_
          show own_Go p e below s _ _ _ (T2.setTop (mkF m 76 #[.val (.int p1), .val (.int p2), .val (.int p3), .val (.int p4), .val (.int (0 : Int32)), .val (.ref wx), .val (.int (1 : Int32)), .unset] [(.int (1 : Int32))]))
          refine own_go (fun _ k => XS.istore X2.here hx rfl (hb hby at_76) rfl (l' := #[.val (.int p1), .val (.int p2), .val (.int p3), .val (.int p4), .val (.int (0 : Int32)), .val (.ref wx), .val (.int (1 : Int32)), .val (.int (1 : Int32))]) rfl k) ?_
          show own_Go p e below s _ _ _ (T2.setTop (mkF m 78 #[.val (.int p1), .val (.int p2), .val (.int p3), .val (.int p4), .val (.int (0 : Int32)), .val (.ref wx), .val (.int (1 : Int32)), .val (.int (1 : Int32))] []))
          refine own_go (fun _ k => XS.aload X2.here hx rfl (hb hby at_78) rfl rfl k) ?_
          show own_Go p e below s _ _ _ (T2.setTop (mkF m 80 #[.val (.int p1), .val (.int p2), .val (.int p3), .val (.int p4), .val (.int (0 : Int32)), .val (.ref wx), .val (.int (1 : Int32)), .val (.int (1 : Int32))] [(.ref wx)]))
          refine own_go (fun _ k => XS.iloadN X2.here hx rfl (hb hby at_80) rfl k) ?_
          show own_Go p e below s _ _ _ (T2.setTop (mkF m 81 #[.val (.int p1), .val (.int p2), .val (.int p3), .val (.int p4), .val (.int (0 : Int32)), .val (.ref wx), .val (.int (1 : Int32)), .val (.int (1 : Int32))] [(.int p2), (.ref wx)]))
          refine own_go (fun _ k => XS.iloadN X2.here hx rfl (hb hby at_81) rfl k) ?_
          show own_Go p e below s _ _ _ (T2.setTop (mkF m 82 #[.val (.int p1), .val (.int p2), .val (.int p3), .val (.int p4), .val (.int (0 : Int32)), .val (.ref wx), .val (.int (1 : Int32)), .val (.int (1 : Int32))] [(.int p3), (.int p2), (.ref wx)]))
          refine own_go (fun _ k => XS.iloadN X2.here hx rfl (hb hby at_82) rfl k) ?_
          show own_Go p e below s _ _ _ (T2.setTop (mkF m 83 #[.val (.int p1), .val (.int p2), .val (.int p3), .val (.int p4), .val (.int (0 : Int32)), .val (.ref wx), .val (.int (1 : Int32)), .val (.int (1 : Int32))] [(.int p4), (.int p3), (.int p2), (.ref wx)]))
          obtain ⟨v93, T93, L93, X93, hQ93, st93⟩ := own_callV (y := (⟨"com/example/ratification/ratification/model/Constraint$Kind", "allows", "(III)Z"⟩ : MethodName)) (z := (⟨"com/example/ratification/ratification/model/Constraint$Kind", "allows", "(III)Z"⟩ : MethodName)) X2 hx hZ hown (hw _ (List.mem_of_getElem? (i := 3) rfl)) (hw _ (List.mem_of_getElem? (i := 4) rfl)) (notFace_of_selects (args := #[]) (mvT hZ (hw _ (List.mem_of_getElem? (i := 6) rfl)))) (hw _ (List.mem_of_getElem? (i := 6) rfl)) (hw _ (List.mem_of_getElem? (i := 5) rfl)) (hw _ (List.mem_of_getElem? (i := 1) rfl)) (hw _ (List.mem_of_getElem? (i := 7) rfl)) (rm_allows l Z a0 hw oA oB oE1 oE2 oF1 oF2 [] wx p2 p3 p4 (1 : Int32) h0 O0 (oF1.ext O0)) 0 0 0 rfl rfl (by decide) (by decide) (by decide) (by show _ ≤ 0; omega) (by show _ ≤ 0; omega) e2 (oE1.ext O0) (g := (mkF m 83 #[.val (.int p1), .val (.int p2), .val (.int p3), .val (.int p4), .val (.int (0 : Int32)), .val (.ref wx), .val (.int (1 : Int32)), .val (.int (1 : Int32))] [(.int p4), (.int p3), (.int p2), (.ref wx)])) rfl (by rw [hml]; rfl) [(.int p2), (.int p3), (.int p4)] [] (lenOf own_pd_1 rfl) rfl rfl (by show 2 * 0 + _ ≤ _; exact Nat.le_of_eq rfl) (hb hby at_83)
          rcases hQ93 with hQ93 | hQ93 | hQ93 | hQ93 | hQ93
          · obtain ⟨rfl, Nc96, hp94, Kc95⟩ := hQ93
            refine own_go st93 ?_
            have N97 := Fr.app N0 Nc96
            exact absurd hp94 hc3
          · obtain ⟨rfl, Nc102, hp98, hp99, hp100, Kc101⟩ := hQ93
            refine own_go st93 ?_
            have N103 := Fr.app N0 Nc102
            exact absurd hp100 hc33
          · obtain ⟨rfl, Nc108, hp104, hp105, hp106, Kc107⟩ := hQ93
            refine own_go st93 ?_
            have N109 := Fr.app N0 Nc108
            show own_Go p e below s _ _ _ (T93.setTop (mkF m 86 #[.val (.int p1), .val (.int p2), .val (.int p3), .val (.int p4), .val (.int (0 : Int32)), .val (.ref wx), .val (.int (1 : Int32)), .val (.int (1 : Int32))] [(.int (1 : Int32))]))
            refine own_go (fun _ k => XS.iload X93.here hx rfl (hb hby at_86) rfl k) ?_
            show own_Go p e below s _ _ _ (T93.setTop (mkF m 88 #[.val (.int p1), .val (.int p2), .val (.int p3), .val (.int p4), .val (.int (0 : Int32)), .val (.ref wx), .val (.int (1 : Int32)), .val (.int (1 : Int32))] [(.int (1 : Int32)), (.int (1 : Int32))]))
            refine own_go (fun _ k => XS.icmpNo X93.here hx rfl (hb hby at_88) rfl (teq (by decide : (1 : Int32) = (1 : Int32))).2 k) ?_
            show own_Go p e below s _ _ _ (T93.setTop (mkF m 91 #[.val (.int p1), .val (.int p2), .val (.int p3), .val (.int p4), .val (.int (0 : Int32)), .val (.ref wx), .val (.int (1 : Int32)), .val (.int (1 : Int32))] []))
            refine own_go (fun _ k => XS.iconst X93.here hx rfl (hb hby at_91) k) ?_
            show own_Go p e below s _ _ _ (T93.setTop (mkF m 92 #[.val (.int p1), .val (.int p2), .val (.int p3), .val (.int p4), .val (.int (0 : Int32)), .val (.ref wx), .val (.int (1 : Int32)), .val (.int (1 : Int32))] [(.int (1 : Int32))]))
            refine own_go (fun _ k => XS.goto X93.here hx rfl (pc0 := 92) (pc' := 96) rfl (hb hby at_92) (by decide) (by decide) k) ?_
            show own_Go p e below s _ _ _ (T93.setTop (mkF m 96 #[.val (.int p1), .val (.int p2), .val (.int p3), .val (.int p4), .val (.int (0 : Int32)), .val (.ref wx), .val (.int (1 : Int32)), .val (.int (1 : Int32))] [(.int (1 : Int32))]))
            refine own_retN X93 hx hlk Kc107 (t := .boolean) hret (by simp) (hb hby at_96) (by show _ ≤ 0; omega) (by show _ ≤ 0; omega) ?_
            exact ⟨rfl, N109, K0⟩
          · obtain ⟨rfl, Nc114, hp110, hp111, hp112, Kc113⟩ := hQ93
            refine own_go st93 ?_
            have N115 := Fr.app N0 Nc114
            exact absurd hp112 hc63
          · obtain ⟨rfl, Nc120, hp116, hp117, hp118, Kc119⟩ := hQ93
            refine own_go st93 ?_
            have N121 := Fr.app N0 Nc120
            show own_Go p e below s _ _ _ (T93.setTop (mkF m 86 #[.val (.int p1), .val (.int p2), .val (.int p3), .val (.int p4), .val (.int (0 : Int32)), .val (.ref wx), .val (.int (1 : Int32)), .val (.int (1 : Int32))] [(.int (1 : Int32))]))
            refine own_go (fun _ k => XS.iload X93.here hx rfl (hb hby at_86) rfl k) ?_
            show own_Go p e below s _ _ _ (T93.setTop (mkF m 88 #[.val (.int p1), .val (.int p2), .val (.int p3), .val (.int p4), .val (.int (0 : Int32)), .val (.ref wx), .val (.int (1 : Int32)), .val (.int (1 : Int32))] [(.int (1 : Int32)), (.int (1 : Int32))]))
            refine own_go (fun _ k => XS.icmpNo X93.here hx rfl (hb hby at_88) rfl (teq (by decide : (1 : Int32) = (1 : Int32))).2 k) ?_
            show own_Go p e below s _ _ _ (T93.setTop (mkF m 91 #[.val (.int p1), .val (.int p2), .val (.int p3), .val (.int p4), .val (.int (0 : Int32)), .val (.ref wx), .val (.int (1 : Int32)), .val (.int (1 : Int32))] []))
            refine own_go (fun _ k => XS.iconst X93.here hx rfl (hb hby at_91) k) ?_
            show own_Go p e below s _ _ _ (T93.setTop (mkF m 92 #[.val (.int p1), .val (.int p2), .val (.int p3), .val (.int p4), .val (.int (0 : Int32)), .val (.ref wx), .val (.int (1 : Int32)), .val (.int (1 : Int32))] [(.int (1 : Int32))]))
            refine own_go (fun _ k => XS.goto X93.here hx rfl (pc0 := 92) (pc' := 96) rfl (hb hby at_92) (by decide) (by decide) k) ?_
            show own_Go p e below s _ _ _ (T93.setTop (mkF m 96 #[.val (.int p1), .val (.int p2), .val (.int p3), .val (.int p4), .val (.int (0 : Int32)), .val (.ref wx), .val (.int (1 : Int32)), .val (.int (1 : Int32))] [(.int (1 : Int32))]))
            refine own_retN X93 hx hlk Kc119 (t := .boolean) hret (by simp) (hb hby at_96) (by show _ ≤ 0; omega) (by show _ ≤ 0; omega) ?_
            exact ⟨rfl, N121, K0⟩
  · refine own_go (fun _ k => XS.ifNo X0.here hx rfl (hb hby at_3) rfl ((if0 _ _).trans (feq hc1).1) k) ?_
    show own_Go p e below s _ _ _ (T.setTop (mkF m 6 #[.val (.int p1), .val (.int p2), .val (.int p3), .val (.int p4), .unset, .unset, .unset, .unset] []))
    refine own_go (fun _ k => XS.iconst X0.here hx rfl (hb hby at_6) k) ?_
    show own_Go p e below s _ _ _ (T.setTop (mkF m 7 #[.val (.int p1), .val (.int p2), .val (.int p3), .val (.int p4), .unset, .unset, .unset, .unset] [(.int (1 : Int32))]))
    refine own_go (fun _ k => XS.goto X0.here hx rfl (pc0 := 7) (pc' := 11) rfl (hb hby at_7) (by decide) (by decide) k) ?_
    show own_Go p e below s _ _ _ (T.setTop (mkF m 11 #[.val (.int p1), .val (.int p2), .val (.int p3), .val (.int p4), .unset, .unset, .unset, .unset] [(.int (1 : Int32))]))
    refine own_go (fun _ k => XS.istore X0.here hx rfl (hb hby at_11) rfl (l' := #[.val (.int p1), .val (.int p2), .val (.int p3), .val (.int p4), .val (.int (1 : Int32)), .unset, .unset, .unset]) rfl k) ?_
    show own_Go p e below s _ _ _ (T.setTop (mkF m 13 #[.val (.int p1), .val (.int p2), .val (.int p3), .val (.int p4), .val (.int (1 : Int32)), .unset, .unset, .unset] []))
    refine own_go (fun _ k => XS.iload X0.here hx rfl (hb hby at_13) rfl k) ?_
    show own_Go p e below s _ _ _ (T.setTop (mkF m 15 #[.val (.int p1), .val (.int p2), .val (.int p3), .val (.int p4), .val (.int (1 : Int32)), .unset, .unset, .unset] [(.int (1 : Int32))]))
    refine own_go (fun _ k => XS.ifNo X0.here hx rfl (hb hby at_15) rfl ((if0 _ _).trans (feq (by decide : ¬ ((1 : Int32) = (0 : Int32)))).1) k) ?_
    show own_Go p e below s _ _ _ (T.setTop (mkF m 18 #[.val (.int p1), .val (.int p2), .val (.int p3), .val (.int p4), .val (.int (1 : Int32)), .unset, .unset, .unset] []))
    obtain ⟨T122, X122, e122, st122⟩ := getS2 X0 hx hZ hown (host := "") (Or.inl (hw _ (List.mem_of_getElem? (i := 14) rfl))) Via.refl e0 (oB.ext O0) (g := (mkF m 18 #[.val (.int p1), .val (.int p2), .val (.int p3), .val (.int p4), .val (.int (1 : Int32)), .unset, .unset, .unset] [])) rfl (hb hby at_18)
    refine own_go st122 ?_
    show own_Go p e below s _ _ _ (T122.setTop (mkF m 21 #[.val (.int p1), .val (.int p2), .val (.int p3), .val (.int p4), .val (.int (1 : Int32)), .unset, .unset, .unset] [(.ref wy)]))
    refine own_go (fun _ k => XS.goto X122.here hx rfl (pc0 := 21) (pc' := 27) rfl (hb hby at_21) (by decide) (by decide) k) ?_
    show own_Go p e below s _ _ _ (T122.setTop (mkF m 27 #[.val (.int p1), .val (.int p2), .val (.int p3), .val (.int p4), .val (.int (1 : Int32)), .unset, .unset, .unset] [(.ref wy)]))
    refine own_go (fun _ k => XS.astore X122.here hx rfl (hb hby at_27) rfl rfl (l' := #[.val (.int p1), .val (.int p2), .val (.int p3), .val (.int p4), .val (.int (1 : Int32)), .val (.ref wy), .unset, .unset]) rfl k) ?_
    show own_Go p e below s _ _ _ (T122.setTop (mkF m 29 #[.val (.int p1), .val (.int p2), .val (.int p3), .val (.int p4), .val (.int (1 : Int32)), .val (.ref wy), .unset, .unset] []))
    refine own_go (fun _ k => XS.iload X122.here hx rfl (hb hby at_29) rfl k) ?_
    show own_Go p e below s _ _ _ (T122.setTop (mkF m 31 #[.val (.int p1), .val (.int p2), .val (.int p3), .val (.int p4), .val (.int (1 : Int32)), .val (.ref wy), .unset, .unset] [(.int (1 : Int32))]))
    refine own_go (fun _ k => XS.ifNo X122.here hx rfl (hb hby at_31) rfl ((if0 _ _).trans (feq (by decide : ¬ ((1 : Int32) = (0 : Int32)))).1) k) ?_
    show own_Go p e below s _ _ _ (T122.setTop (mkF m 34 #[.val (.int p1), .val (.int p2), .val (.int p3), .val (.int p4), .val (.int (1 : Int32)), .val (.ref wy), .unset, .unset] []))
    refine own_go (fun _ k => XS.iconst X122.here hx rfl (hb hby at_34) k) ?_
    show own_Go p e below s _ _ _ (T122.setTop (mkF m 35 #[.val (.int p1), .val (.int p2), .val (.int p3), .val (.int p4), .val (.int (1 : Int32)), .val (.ref wy), .unset, .unset] [(.int (2 : Int32))]))
    refine own_go (fun _ k => XS.goto X122.here hx rfl (pc0 := 35) (pc' := 39) rfl (hb hby at_35) (by decide) (by decide) k) ?_
    show own_Go p e below s _ _ _ (T122.setTop (mkF m 39 #[.val (.int p1), .val (.int p2), .val (.int p3), .val (.int p4), .val (.int (1 : Int32)), .val (.ref wy), .unset, .unset] [(.int (2 : Int32))]))
    refine own_go (fun _ k => XS.istore X122.here hx rfl (hb hby at_39) rfl (l' := #[.val (.int p1), .val (.int p2), .val (.int p3), .val (.int p4), .val (.int (1 : Int32)), .val (.ref wy), .val (.int (2 : Int32)), .unset]) rfl k) ?_
    show own_Go p e below s _ _ _ (T122.setTop (mkF m 41 #[.val (.int p1), .val (.int p2), .val (.int p3), .val (.int p4), .val (.int (1 : Int32)), .val (.ref wy), .val (.int (2 : Int32)), .unset] []))
    refine own_go (fun _ k => XS.iloadN X122.here hx rfl (hb hby at_41) rfl k) ?_
    show own_Go p e below s _ _ _ (T122.setTop (mkF m 42 #[.val (.int p1), .val (.int p2), .val (.int p3), .val (.int p4), .val (.int (1 : Int32)), .val (.ref wy), .val (.int (2 : Int32)), .unset] [(.int p2)]))
    refine own_go (fun _ k => XS.iload X122.here hx rfl (hb hby at_42) rfl k) ?_
    show own_Go p e below s _ _ _ (T122.setTop (mkF m 44 #[.val (.int p1), .val (.int p2), .val (.int p3), .val (.int p4), .val (.int (1 : Int32)), .val (.ref wy), .val (.int (2 : Int32)), .unset] [(.int (2 : Int32)), (.int p2)]))
    by_cases hc123 : p2 < (2 : Int32)
    · refine own_go (fun _ k => XS.icmpNo X122.here hx rfl (hb hby at_44) rfl (tlt hc123).2.1 k) ?_
      show own_Go p e below s _ _ _ (T122.setTop (mkF m 47 #[.val (.int p1), .val (.int p2), .val (.int p3), .val (.int p4), .val (.int (1 : Int32)), .val (.ref wy), .val (.int (2 : Int32)), .unset] []))
      refine own_go (fun _ k => XS.iconst X122.here hx rfl (hb hby at_47) k) ?_
      show own_Go p e below s _ _ _ (T122.setTop (mkF m 48 #[.val (.int p1), .val (.int p2), .val (.int p3), .val (.int p4), .val (.int (1 : Int32)), .val (.ref wy), .val (.int (2 : Int32)), .unset] [(.int (0 : Int32))]))
      refine own_go (fun _ k => XS.istore X122.here hx rfl (hb hby at_48) rfl (l' := #[.val (.int p1), .val (.int p2), .val (.int p3), .val (.int p4), .val (.int (1 : Int32)), .val (.ref wy), .val (.int (2 : Int32)), .val (.int (0 : Int32))]) rfl k) ?_
      show own_Go p e below s _ _ _ (T122.setTop (mkF m 50 #[.val (.int p1), .val (.int p2), .val (.int p3), .val (.int p4), .val (.int (1 : Int32)), .val (.ref wy), .val (.int (2 : Int32)), .val (.int (0 : Int32))] []))
      refine own_go (fun _ k => XS.goto X122.here hx rfl (pc0 := 50) (pc' := 78) rfl (hb hby at_50) (by decide) (by decide) k) ?_
      show own_Go p e below s _ _ _ (T122.setTop (mkF m 78 #[.val (.int p1), .val (.int p2), .val (.int p3), .val (.int p4), .val (.int (1 : Int32)), .val (.ref wy), .val (.int (2 : Int32)), .val (.int (0 : Int32))] []))
      refine own_go (fun _ k => XS.aload X122.here hx rfl (hb hby at_78) rfl rfl k) ?_
      show own_Go p e below s _ _ _ (T122.setTop (mkF m 80 #[.val (.int p1), .val (.int p2), .val (.int p3), .val (.int p4), .val (.int (1 : Int32)), .val (.ref wy), .val (.int (2 : Int32)), .val (.int (0 : Int32))] [(.ref wy)]))
      refine own_go (fun _ k => XS.iloadN X122.here hx rfl (hb hby at_80) rfl k) ?_
      show own_Go p e below s _ _ _ (T122.setTop (mkF m 81 #[.val (.int p1), .val (.int p2), .val (.int p3), .val (.int p4), .val (.int (1 : Int32)), .val (.ref wy), .val (.int (2 : Int32)), .val (.int (0 : Int32))] [(.int p2), (.ref wy)]))
      refine own_go (fun _ k => XS.iloadN X122.here hx rfl (hb hby at_81) rfl k) ?_
      show own_Go p e below s _ _ _ (T122.setTop (mkF m 82 #[.val (.int p1), .val (.int p2), .val (.int p3), .val (.int p4), .val (.int (1 : Int32)), .val (.ref wy), .val (.int (2 : Int32)), .val (.int (0 : Int32))] [(.int p3), (.int p2), (.ref wy)]))
      refine own_go (fun _ k => XS.iloadN X122.here hx rfl (hb hby at_82) rfl k) ?_
      show own_Go p e below s _ _ _ (T122.setTop (mkF m 83 #[.val (.int p1), .val (.int p2), .val (.int p3), .val (.int p4), .val (.int (1 : Int32)), .val (.ref wy), .val (.int (2 : Int32)), .val (.int (0 : Int32))] [(.int p4), (.int p3), (.int p2), (.ref wy)]))
      obtain ⟨v124, T124, L124, X124, hQ124, st124⟩ := own_callV (y := (⟨"com/example/ratification/ratification/model/Constraint$Kind", "allows", "(III)Z"⟩ : MethodName)) (z := (⟨"com/example/ratification/ratification/model/Constraint$Kind", "allows", "(III)Z"⟩ : MethodName)) X122 hx hZ hown (hw _ (List.mem_of_getElem? (i := 3) rfl)) (hw _ (List.mem_of_getElem? (i := 4) rfl)) (notFace_of_selects (args := #[]) (mvT hZ (hw _ (List.mem_of_getElem? (i := 6) rfl)))) (hw _ (List.mem_of_getElem? (i := 6) rfl)) (hw _ (List.mem_of_getElem? (i := 5) rfl)) (hw _ (List.mem_of_getElem? (i := 1) rfl)) (hw _ (List.mem_of_getElem? (i := 7) rfl)) (rm_allows l Z a0 hw oA oB oE1 oE2 oF1 oF2 [] wy p2 p3 p4 (2 : Int32) h0 O0 (oF2.ext O0)) 0 0 0 rfl rfl (by decide) (by decide) (by decide) (by show _ ≤ 0; omega) (by show _ ≤ 0; omega) e122 (oE2.ext O0) (g := (mkF m 83 #[.val (.int p1), .val (.int p2), .val (.int p3), .val (.int p4), .val (.int (1 : Int32)), .val (.ref wy), .val (.int (2 : Int32)), .val (.int (0 : Int32))] [(.int p4), (.int p3), (.int p2), (.ref wy)])) rfl (by rw [hml]; rfl) [(.int p2), (.int p3), (.int p4)] [] (lenOf own_pd_1 rfl) rfl rfl (by show 2 * 0 + _ ≤ _; exact Nat.le_of_eq rfl) (hb hby at_83)
      rcases hQ124 with hQ124 | hQ124 | hQ124 | hQ124 | hQ124
      · obtain ⟨rfl, Nc127, hp125, Kc126⟩ := hQ124
        refine own_go st124 ?_
        have N128 := Fr.app N0 Nc127
        show own_Go p e below s _ _ _ (T124.setTop (mkF m 86 #[.val (.int p1), .val (.int p2), .val (.int p3), .val (.int p4), .val (.int (1 : Int32)), .val (.ref wy), .val (.int (2 : Int32)), .val (.int (0 : Int32))] [(.int (0 : Int32))]))
        refine own_go (fun _ k => XS.iload X124.here hx rfl (hb hby at_86) rfl k) ?_
        show own_Go p e below s _ _ _ (T124.setTop (mkF m 88 #[.val (.int p1), .val (.int p2), .val (.int p3), .val (.int p4), .val (.int (1 : Int32)), .val (.ref wy), .val (.int (2 : Int32)), .val (.int (0 : Int32))] [(.int (0 : Int32)), (.int (0 : Int32))]))
        refine own_go (fun _ k => XS.icmpNo X124.here hx rfl (hb hby at_88) rfl (teq (by decide : (0 : Int32) = (0 : Int32))).2 k) ?_
        show own_Go p e below s _ _ _ (T124.setTop (mkF m 91 #[.val (.int p1), .val (.int p2), .val (.int p3), .val (.int p4), .val (.int (1 : Int32)), .val (.ref wy), .val (.int (2 : Int32)), .val (.int (0 : Int32))] []))
        refine own_go (fun _ k => XS.iconst X124.here hx rfl (hb hby at_91) k) ?_
        show own_Go p e below s _ _ _ (T124.setTop (mkF m 92 #[.val (.int p1), .val (.int p2), .val (.int p3), .val (.int p4), .val (.int (1 : Int32)), .val (.ref wy), .val (.int (2 : Int32)), .val (.int (0 : Int32))] [(.int (1 : Int32))]))
        refine own_go (fun _ k => XS.goto X124.here hx rfl (pc0 := 92) (pc' := 96) rfl (hb hby at_92) (by decide) (by decide) k) ?_
        show own_Go p e below s _ _ _ (T124.setTop (mkF m 96 #[.val (.int p1), .val (.int p2), .val (.int p3), .val (.int p4), .val (.int (1 : Int32)), .val (.ref wy), .val (.int (2 : Int32)), .val (.int (0 : Int32))] [(.int (1 : Int32))]))
        refine own_retN X124 hx hlk Kc126 (t := .boolean) hret (by simp) (hb hby at_96) (by show _ ≤ 0; omega) (by show _ ≤ 0; omega) ?_
        exact ⟨rfl, N128, K0⟩
      · obtain ⟨rfl, Nc133, hp129, hp130, hp131, Kc132⟩ := hQ124
        refine own_go st124 ?_
        have N134 := Fr.app N0 Nc133
        exact absurd hc123 hp129
      · obtain ⟨rfl, Nc139, hp135, hp136, hp137, Kc138⟩ := hQ124
        refine own_go st124 ?_
        have N140 := Fr.app N0 Nc139
        exact absurd hc123 hp135
      · obtain ⟨rfl, Nc145, hp141, hp142, hp143, Kc144⟩ := hQ124
        refine own_go st124 ?_
        have N146 := Fr.app N0 Nc145
        exact absurd hc123 hp141
      · obtain ⟨rfl, Nc151, hp147, hp148, hp149, Kc150⟩ := hQ124
        refine own_go st124 ?_
        have N152 := Fr.app N0 Nc151
        exact absurd hc123 hp147
    · refine own_go (fun _ k => XS.icmpYes X122.here hx rfl (pc0 := 44) (pc' := 53) rfl (hb hby at_44) rfl (flt hc123).2.1 (by decide) (by decide) k) ?_
      show own_Go p e below s _ _ _ (T122.setTop (mkF m 53 #[.val (.int p1), .val (.int p2), .val (.int p3), .val (.int p4), .val (.int (1 : Int32)), .val (.ref wy), .val (.int (2 : Int32)), .unset] []))
      refine own_go (fun _ k => XS.iloadN X122.here hx rfl (hb hby at_53) rfl k) ?_
      show own_Go p e below s _ _ _ (T122.setTop (mkF m 54 #[.val (.int p1), .val (.int p2), .val (.int p3), .val (.int p4), .val (.int (1 : Int32)), .val (.ref wy), .val (.int (2 : Int32)), .unset] [(.int p2)]))
      refine own_go (fun _ k => XS.iloadN X122.here hx rfl (hb hby at_54) rfl k) ?_
      show own_Go p e below s _ _ _ (T122.setTop (mkF m 55 #[.val (.int p1), .val (.int p2), .val (.int p3), .val (.int p4), .val (.int (1 : Int32)), .val (.ref wy), .val (.int (2 : Int32)), .unset] [(.int p3), (.int p2)]))
      by_cases hc153 : p3 < p2
      · refine own_go (fun _ k => XS.icmpNo X122.here hx rfl (hb hby at_55) rfl (tlt hc153).2.2.2 k) ?_
        show own_Go p e below s _ _ _ (T122.setTop (mkF m 58 #[.val (.int p1), .val (.int p2), .val (.int p3), .val (.int p4), .val (.int (1 : Int32)), .val (.ref wy), .val (.int (2 : Int32)), .unset] []))
        refine own_go (fun _ k => XS.iconst X122.here hx rfl (hb hby at_58) k) ?_
        show own_Go p e below s _ _ _ (T122.setTop (mkF m 59 #[.val (.int p1), .val (.int p2), .val (.int p3), .val (.int p4), .val (.int (1 : Int32)), .val (.ref wy), .val (.int (2 : Int32)), .unset] [(.int (0 : Int32))]))
        refine own_go (fun _ k => XS.istore X122.here hx rfl (hb hby at_59) rfl (l' := #[.val (.int p1), .val (.int p2), .val (.int p3), .val (.int p4), .val (.int (1 : Int32)), .val (.ref wy), .val (.int (2 : Int32)), .val (.int (0 : Int32))]) rfl k) ?_
        show own_Go p e below s _ _ _ (T122.setTop (mkF m 61 #[.val (.int p1), .val (.int p2), .val (.int p3), .val (.int p4), .val (.int (1 : Int32)), .val (.ref wy), .val (.int (2 : Int32)), .val (.int (0 : Int32))] []))
        refine own_go (fun _ k => XS.goto X122.here hx rfl (pc0 := 61) (pc' := 78) rfl (hb hby at_61) (by decide) (by decide) k) ?_
        show own_Go p e below s _ _ _ (T122.setTop (mkF m 78 #[.val (.int p1), .val (.int p2), .val (.int p3), .val (.int p4), .val (.int (1 : Int32)), .val (.ref wy), .val (.int (2 : Int32)), .val (.int (0 : Int32))] []))
        refine own_go (fun _ k => XS.aload X122.here hx rfl (hb hby at_78) rfl rfl k) ?_
        show own_Go p e below s _ _ _ (T122.setTop (mkF m 80 #[.val (.int p1), .val (.int p2), .val (.int p3), .val (.int p4), .val (.int (1 : Int32)), .val (.ref wy), .val (.int (2 : Int32)), .val (.int (0 : Int32))] [(.ref wy)]))
        refine own_go (fun _ k => XS.iloadN X122.here hx rfl (hb hby at_80) rfl k) ?_
        show own_Go p e below s _ _ _ (T122.setTop (mkF m 81 #[.val (.int p1), .val (.int p2), .val (.int p3), .val (.int p4), .val (.int (1 : Int32)), .val (.ref wy), .val (.int (2 : Int32)), .val (.int (0 : Int32))] [(.int p2), (.ref wy)]))
        refine own_go (fun _ k => XS.iloadN X122.here hx rfl (hb hby at_81) rfl k) ?_
        show own_Go p e below s _ _ _ (T122.setTop (mkF m 82 #[.val (.int p1), .val (.int p2), .val (.int p3), .val (.int p4), .val (.int (1 : Int32)), .val (.ref wy), .val (.int (2 : Int32)), .val (.int (0 : Int32))] [(.int p3), (.int p2), (.ref wy)]))
        refine own_go (fun _ k => XS.iloadN X122.here hx rfl (hb hby at_82) rfl k) ?_
        show own_Go p e below s _ _ _ (T122.setTop (mkF m 83 #[.val (.int p1), .val (.int p2), .val (.int p3), .val (.int p4), .val (.int (1 : Int32)), .val (.ref wy), .val (.int (2 : Int32)), .val (.int (0 : Int32))] [(.int p4), (.int p3), (.int p2), (.ref wy)]))
        obtain ⟨v154, T154, L154, X154, hQ154, st154⟩ := own_callV (y := (⟨"com/example/ratification/ratification/model/Constraint$Kind", "allows", "(III)Z"⟩ : MethodName)) (z := (⟨"com/example/ratification/ratification/model/Constraint$Kind", "allows", "(III)Z"⟩ : MethodName)) X122 hx hZ hown (hw _ (List.mem_of_getElem? (i := 3) rfl)) (hw _ (List.mem_of_getElem? (i := 4) rfl)) (notFace_of_selects (args := #[]) (mvT hZ (hw _ (List.mem_of_getElem? (i := 6) rfl)))) (hw _ (List.mem_of_getElem? (i := 6) rfl)) (hw _ (List.mem_of_getElem? (i := 5) rfl)) (hw _ (List.mem_of_getElem? (i := 1) rfl)) (hw _ (List.mem_of_getElem? (i := 7) rfl)) (rm_allows l Z a0 hw oA oB oE1 oE2 oF1 oF2 [] wy p2 p3 p4 (2 : Int32) h0 O0 (oF2.ext O0)) 0 0 0 rfl rfl (by decide) (by decide) (by decide) (by show _ ≤ 0; omega) (by show _ ≤ 0; omega) e122 (oE2.ext O0) (g := (mkF m 83 #[.val (.int p1), .val (.int p2), .val (.int p3), .val (.int p4), .val (.int (1 : Int32)), .val (.ref wy), .val (.int (2 : Int32)), .val (.int (0 : Int32))] [(.int p4), (.int p3), (.int p2), (.ref wy)])) rfl (by rw [hml]; rfl) [(.int p2), (.int p3), (.int p4)] [] (lenOf own_pd_1 rfl) rfl rfl (by show 2 * 0 + _ ≤ _; exact Nat.le_of_eq rfl) (hb hby at_83)
        rcases hQ154 with hQ154 | hQ154 | hQ154 | hQ154 | hQ154
        · obtain ⟨rfl, Nc157, hp155, Kc156⟩ := hQ154
          refine own_go st154 ?_
          have N158 := Fr.app N0 Nc157
          exact absurd hp155 hc123
        · obtain ⟨rfl, Nc163, hp159, hp160, hp161, Kc162⟩ := hQ154
          refine own_go st154 ?_
          have N164 := Fr.app N0 Nc163
          show own_Go p e below s _ _ _ (T154.setTop (mkF m 86 #[.val (.int p1), .val (.int p2), .val (.int p3), .val (.int p4), .val (.int (1 : Int32)), .val (.ref wy), .val (.int (2 : Int32)), .val (.int (0 : Int32))] [(.int (0 : Int32))]))
          refine own_go (fun _ k => XS.iload X154.here hx rfl (hb hby at_86) rfl k) ?_
          show own_Go p e below s _ _ _ (T154.setTop (mkF m 88 #[.val (.int p1), .val (.int p2), .val (.int p3), .val (.int p4), .val (.int (1 : Int32)), .val (.ref wy), .val (.int (2 : Int32)), .val (.int (0 : Int32))] [(.int (0 : Int32)), (.int (0 : Int32))]))
          refine own_go (fun _ k => XS.icmpNo X154.here hx rfl (hb hby at_88) rfl (teq (by decide : (0 : Int32) = (0 : Int32))).2 k) ?_
          show own_Go p e below s _ _ _ (T154.setTop (mkF m 91 #[.val (.int p1), .val (.int p2), .val (.int p3), .val (.int p4), .val (.int (1 : Int32)), .val (.ref wy), .val (.int (2 : Int32)), .val (.int (0 : Int32))] []))
          refine own_go (fun _ k => XS.iconst X154.here hx rfl (hb hby at_91) k) ?_
          show own_Go p e below s _ _ _ (T154.setTop (mkF m 92 #[.val (.int p1), .val (.int p2), .val (.int p3), .val (.int p4), .val (.int (1 : Int32)), .val (.ref wy), .val (.int (2 : Int32)), .val (.int (0 : Int32))] [(.int (1 : Int32))]))
          refine own_go (fun _ k => XS.goto X154.here hx rfl (pc0 := 92) (pc' := 96) rfl (hb hby at_92) (by decide) (by decide) k) ?_
          show own_Go p e below s _ _ _ (T154.setTop (mkF m 96 #[.val (.int p1), .val (.int p2), .val (.int p3), .val (.int p4), .val (.int (1 : Int32)), .val (.ref wy), .val (.int (2 : Int32)), .val (.int (0 : Int32))] [(.int (1 : Int32))]))
          refine own_retN X154 hx hlk Kc162 (t := .boolean) hret (by simp) (hb hby at_96) (by show _ ≤ 0; omega) (by show _ ≤ 0; omega) ?_
          exact ⟨rfl, N164, K0⟩
        · obtain ⟨rfl, Nc169, hp165, hp166, hp167, Kc168⟩ := hQ154
          refine own_go st154 ?_
          have N170 := Fr.app N0 Nc169
          exact absurd hc153 hp167
        · obtain ⟨rfl, Nc175, hp171, hp172, hp173, Kc174⟩ := hQ154
          refine own_go st154 ?_
          have N176 := Fr.app N0 Nc175
          show own_Go p e below s _ _ _ (T154.setTop (mkF m 86 #[.val (.int p1), .val (.int p2), .val (.int p3), .val (.int p4), .val (.int (1 : Int32)), .val (.ref wy), .val (.int (2 : Int32)), .val (.int (0 : Int32))] [(.int (0 : Int32))]))
          refine own_go (fun _ k => XS.iload X154.here hx rfl (hb hby at_86) rfl k) ?_
          show own_Go p e below s _ _ _ (T154.setTop (mkF m 88 #[.val (.int p1), .val (.int p2), .val (.int p3), .val (.int p4), .val (.int (1 : Int32)), .val (.ref wy), .val (.int (2 : Int32)), .val (.int (0 : Int32))] [(.int (0 : Int32)), (.int (0 : Int32))]))
          refine own_go (fun _ k => XS.icmpNo X154.here hx rfl (hb hby at_88) rfl (teq (by decide : (0 : Int32) = (0 : Int32))).2 k) ?_
          show own_Go p e below s _ _ _ (T154.setTop (mkF m 91 #[.val (.int p1), .val (.int p2), .val (.int p3), .val (.int p4), .val (.int (1 : Int32)), .val (.ref wy), .val (.int (2 : Int32)), .val (.int (0 : Int32))] []))
          refine own_go (fun _ k => XS.iconst X154.here hx rfl (hb hby at_91) k) ?_
          show own_Go p e below s _ _ _ (T154.setTop (mkF m 92 #[.val (.int p1), .val (.int p2), .val (.int p3), .val (.int p4), .val (.int (1 : Int32)), .val (.ref wy), .val (.int (2 : Int32)), .val (.int (0 : Int32))] [(.int (1 : Int32))]))
          refine own_go (fun _ k => XS.goto X154.here hx rfl (pc0 := 92) (pc' := 96) rfl (hb hby at_92) (by decide) (by decide) k) ?_
          show own_Go p e below s _ _ _ (T154.setTop (mkF m 96 #[.val (.int p1), .val (.int p2), .val (.int p3), .val (.int p4), .val (.int (1 : Int32)), .val (.ref wy), .val (.int (2 : Int32)), .val (.int (0 : Int32))] [(.int (1 : Int32))]))
          refine own_retN X154 hx hlk Kc174 (t := .boolean) hret (by simp) (hb hby at_96) (by show _ ≤ 0; omega) (by show _ ≤ 0; omega) ?_
          exact ⟨rfl, N176, K0⟩
        · obtain ⟨rfl, Nc181, hp177, hp178, hp179, Kc180⟩ := hQ154
          refine own_go st154 ?_
          have N182 := Fr.app N0 Nc181
          show own_Go p e below s _ _ _ (T154.setTop (mkF m 86 #[.val (.int p1), .val (.int p2), .val (.int p3), .val (.int p4), .val (.int (1 : Int32)), .val (.ref wy), .val (.int (2 : Int32)), .val (.int (0 : Int32))] [(.int (1 : Int32))]))
          refine own_go (fun _ k => XS.iload X154.here hx rfl (hb hby at_86) rfl k) ?_
          show own_Go p e below s _ _ _ (T154.setTop (mkF m 88 #[.val (.int p1), .val (.int p2), .val (.int p3), .val (.int p4), .val (.int (1 : Int32)), .val (.ref wy), .val (.int (2 : Int32)), .val (.int (0 : Int32))] [(.int (0 : Int32)), (.int (1 : Int32))]))
          refine own_go (fun _ k => XS.icmpYes X154.here hx rfl (pc0 := 88) (pc' := 95) rfl (hb hby at_88) rfl (feq (by decide : ¬ ((1 : Int32) = (0 : Int32)))).2 (by decide) (by decide) k) ?_
          show own_Go p e below s _ _ _ (T154.setTop (mkF m 95 #[.val (.int p1), .val (.int p2), .val (.int p3), .val (.int p4), .val (.int (1 : Int32)), .val (.ref wy), .val (.int (2 : Int32)), .val (.int (0 : Int32))] []))
          refine own_go (fun _ k => XS.iconst X154.here hx rfl (hb hby at_95) k) ?_
          show own_Go p e below s _ _ _ (T154.setTop (mkF m 96 #[.val (.int p1), .val (.int p2), .val (.int p3), .val (.int p4), .val (.int (1 : Int32)), .val (.ref wy), .val (.int (2 : Int32)), .val (.int (0 : Int32))] [(.int (0 : Int32))]))
          refine own_retN X154 hx hlk Kc180 (t := .boolean) hret (by simp) (hb hby at_96) (by show _ ≤ 0; omega) (by show _ ≤ 0; omega) ?_
          exfalso
          have ar0 := rng32 p2
          have ar1 : (2 : Int32).toInt = 2 := by decide
          have ar2 := mt Int32.lt_iff_toInt_lt.mpr hp177
          have ar3 := rng32 p3
          have ar4 := Int32.lt_iff_toInt_lt.mp hc153
          have ar5 := rng32 p4
          have ar6 := Int32.lt_iff_toInt_lt.mp hp178
          have ar7 := mt Int32.lt_iff_toInt_lt.mpr hp179
          omega
      · refine own_go (fun _ k => XS.icmpYes X122.here hx rfl (pc0 := 55) (pc' := 64) rfl (hb hby at_55) rfl (flt hc153).2.2.2 (by decide) (by decide) k) ?_
        show own_Go p e below s _ _ _ (T122.setTop (mkF m 64 #[.val (.int p1), .val (.int p2), .val (.int p3), .val (.int p4), .val (.int (1 : Int32)), .val (.ref wy), .val (.int (2 : Int32)), .unset] []))
        refine own_go (fun _ k => XS.iloadN X122.here hx rfl (hb hby at_64) rfl k) ?_
        show own_Go p e below s _ _ _ (T122.setTop (mkF m 65 #[.val (.int p1), .val (.int p2), .val (.int p3), .val (.int p4), .val (.int (1 : Int32)), .val (.ref wy), .val (.int (2 : Int32)), .unset] [(.int p2)]))
        refine own_go (fun _ k => XS.iloadN X122.here hx rfl (hb hby at_65) rfl k) ?_
        show own_Go p e below s _ _ _ (T122.setTop (mkF m 66 #[.val (.int p1), .val (.int p2), .val (.int p3), .val (.int p4), .val (.int (1 : Int32)), .val (.ref wy), .val (.int (2 : Int32)), .unset] [(.int p4), (.int p2)]))
        by_cases hc183 : p4 < p2
        · refine own_go (fun _ k => XS.icmpNo X122.here hx rfl (hb hby at_66) rfl (tlt hc183).2.2.2 k) ?_
          show own_Go p e below s _ _ _ (T122.setTop (mkF m 69 #[.val (.int p1), .val (.int p2), .val (.int p3), .val (.int p4), .val (.int (1 : Int32)), .val (.ref wy), .val (.int (2 : Int32)), .unset] []))
          refine own_go (fun _ k => XS.iconst X122.here hx rfl (hb hby at_69) k) ?_
          show own_Go p e below s _ _ _ (T122.setTop (mkF m 70 #[.val (.int p1), .val (.int p2), .val (.int p3), .val (.int p4), .val (.int (1 : Int32)), .val (.ref wy), .val (.int (2 : Int32)), .unset] [(.int (0 : Int32))]))
          refine own_go (fun _ k => XS.istore X122.here hx rfl (hb hby at_70) rfl (l' := #[.val (.int p1), .val (.int p2), .val (.int p3), .val (.int p4), .val (.int (1 : Int32)), .val (.ref wy), .val (.int (2 : Int32)), .val (.int (0 : Int32))]) rfl k) ?_
          show own_Go p e below s _ _ _ (T122.setTop (mkF m 72 #[.val (.int p1), .val (.int p2), .val (.int p3), .val (.int p4), .val (.int (1 : Int32)), .val (.ref wy), .val (.int (2 : Int32)), .val (.int (0 : Int32))] []))
          refine own_go (fun _ k => XS.goto X122.here hx rfl (pc0 := 72) (pc' := 78) rfl (hb hby at_72) (by decide) (by decide) k) ?_
          show own_Go p e below s _ _ _ (T122.setTop (mkF m 78 #[.val (.int p1), .val (.int p2), .val (.int p3), .val (.int p4), .val (.int (1 : Int32)), .val (.ref wy), .val (.int (2 : Int32)), .val (.int (0 : Int32))] []))
          refine own_go (fun _ k => XS.aload X122.here hx rfl (hb hby at_78) rfl rfl k) ?_
          show own_Go p e below s _ _ _ (T122.setTop (mkF m 80 #[.val (.int p1), .val (.int p2), .val (.int p3), .val (.int p4), .val (.int (1 : Int32)), .val (.ref wy), .val (.int (2 : Int32)), .val (.int (0 : Int32))] [(.ref wy)]))
          refine own_go (fun _ k => XS.iloadN X122.here hx rfl (hb hby at_80) rfl k) ?_
          show own_Go p e below s _ _ _ (T122.setTop (mkF m 81 #[.val (.int p1), .val (.int p2), .val (.int p3), .val (.int p4), .val (.int (1 : Int32)), .val (.ref wy), .val (.int (2 : Int32)), .val (.int (0 : Int32))] [(.int p2), (.ref wy)]))
          refine own_go (fun _ k => XS.iloadN X122.here hx rfl (hb hby at_81) rfl k) ?_
          show own_Go p e below s _ _ _ (T122.setTop (mkF m 82 #[.val (.int p1), .val (.int p2), .val (.int p3), .val (.int p4), .val (.int (1 : Int32)), .val (.ref wy), .val (.int (2 : Int32)), .val (.int (0 : Int32))] [(.int p3), (.int p2), (.ref wy)]))
          refine own_go (fun _ k => XS.iloadN X122.here hx rfl (hb hby at_82) rfl k) ?_
          show own_Go p e below s _ _ _ (T122.setTop (mkF m 83 #[.val (.int p1), .val (.int p2), .val (.int p3), .val (.int p4), .val (.int (1 : Int32)), .val (.ref wy), .val (.int (2 : Int32)), .val (.int (0 : Int32))] [(.int p4), (.int p3), (.int p2), (.ref wy)]))
          obtain ⟨v184, T184, L184, X184, hQ184, st184⟩ := own_callV (y := (⟨"com/example/ratification/ratification/model/Constraint$Kind", "allows", "(III)Z"⟩ : MethodName)) (z := (⟨"com/example/ratification/ratification/model/Constraint$Kind", "allows", "(III)Z"⟩ : MethodName)) X122 hx hZ hown (hw _ (List.mem_of_getElem? (i := 3) rfl)) (hw _ (List.mem_of_getElem? (i := 4) rfl)) (notFace_of_selects (args := #[]) (mvT hZ (hw _ (List.mem_of_getElem? (i := 6) rfl)))) (hw _ (List.mem_of_getElem? (i := 6) rfl)) (hw _ (List.mem_of_getElem? (i := 5) rfl)) (hw _ (List.mem_of_getElem? (i := 1) rfl)) (hw _ (List.mem_of_getElem? (i := 7) rfl)) (rm_allows l Z a0 hw oA oB oE1 oE2 oF1 oF2 [] wy p2 p3 p4 (2 : Int32) h0 O0 (oF2.ext O0)) 0 0 0 rfl rfl (by decide) (by decide) (by decide) (by show _ ≤ 0; omega) (by show _ ≤ 0; omega) e122 (oE2.ext O0) (g := (mkF m 83 #[.val (.int p1), .val (.int p2), .val (.int p3), .val (.int p4), .val (.int (1 : Int32)), .val (.ref wy), .val (.int (2 : Int32)), .val (.int (0 : Int32))] [(.int p4), (.int p3), (.int p2), (.ref wy)])) rfl (by rw [hml]; rfl) [(.int p2), (.int p3), (.int p4)] [] (lenOf own_pd_1 rfl) rfl rfl (by show 2 * 0 + _ ≤ _; exact Nat.le_of_eq rfl) (hb hby at_83)
          rcases hQ184 with hQ184 | hQ184 | hQ184 | hQ184 | hQ184
          · obtain ⟨rfl, Nc187, hp185, Kc186⟩ := hQ184
            refine own_go st184 ?_
            have N188 := Fr.app N0 Nc187
            exact absurd hp185 hc123
          · obtain ⟨rfl, Nc193, hp189, hp190, hp191, Kc192⟩ := hQ184
            refine own_go st184 ?_
            have N194 := Fr.app N0 Nc193
            exact absurd hp191 hc153
          · obtain ⟨rfl, Nc199, hp195, hp196, hp197, Kc198⟩ := hQ184
            refine own_go st184 ?_
            have N200 := Fr.app N0 Nc199
            show own_Go p e below s _ _ _ (T184.setTop (mkF m 86 #[.val (.int p1), .val (.int p2), .val (.int p3), .val (.int p4), .val (.int (1 : Int32)), .val (.ref wy), .val (.int (2 : Int32)), .val (.int (0 : Int32))] [(.int (1 : Int32))]))
            refine own_go (fun _ k => XS.iload X184.here hx rfl (hb hby at_86) rfl k) ?_
            show own_Go p e below s _ _ _ (T184.setTop (mkF m 88 #[.val (.int p1), .val (.int p2), .val (.int p3), .val (.int p4), .val (.int (1 : Int32)), .val (.ref wy), .val (.int (2 : Int32)), .val (.int (0 : Int32))] [(.int (0 : Int32)), (.int (1 : Int32))]))
            refine own_go (fun _ k => XS.icmpYes X184.here hx rfl (pc0 := 88) (pc' := 95) rfl (hb hby at_88) rfl (feq (by decide : ¬ ((1 : Int32) = (0 : Int32)))).2 (by decide) (by decide) k) ?_
            show own_Go p e below s _ _ _ (T184.setTop (mkF m 95 #[.val (.int p1), .val (.int p2), .val (.int p3), .val (.int p4), .val (.int (1 : Int32)), .val (.ref wy), .val (.int (2 : Int32)), .val (.int (0 : Int32))] []))
            refine own_go (fun _ k => XS.iconst X184.here hx rfl (hb hby at_95) k) ?_
            show own_Go p e below s _ _ _ (T184.setTop (mkF m 96 #[.val (.int p1), .val (.int p2), .val (.int p3), .val (.int p4), .val (.int (1 : Int32)), .val (.ref wy), .val (.int (2 : Int32)), .val (.int (0 : Int32))] [(.int (0 : Int32))]))
            refine own_retN X184 hx hlk Kc198 (t := .boolean) hret (by simp) (hb hby at_96) (by show _ ≤ 0; omega) (by show _ ≤ 0; omega) ?_
            exfalso
            have ar0 := rng32 p2
            have ar1 : (2 : Int32).toInt = 2 := by decide
            have ar2 := mt Int32.lt_iff_toInt_lt.mpr hp195
            have ar3 := rng32 p3
            have ar4 := mt Int32.lt_iff_toInt_lt.mpr hp197
            have ar5 := rng32 p4
            have ar6 := Int32.lt_iff_toInt_lt.mp hc183
            have ar7 := mt Int32.lt_iff_toInt_lt.mpr hp196
            omega
          · obtain ⟨rfl, Nc205, hp201, hp202, hp203, Kc204⟩ := hQ184
            refine own_go st184 ?_
            have N206 := Fr.app N0 Nc205
            show own_Go p e below s _ _ _ (T184.setTop (mkF m 86 #[.val (.int p1), .val (.int p2), .val (.int p3), .val (.int p4), .val (.int (1 : Int32)), .val (.ref wy), .val (.int (2 : Int32)), .val (.int (0 : Int32))] [(.int (0 : Int32))]))
            refine own_go (fun _ k => XS.iload X184.here hx rfl (hb hby at_86) rfl k) ?_
            show own_Go p e below s _ _ _ (T184.setTop (mkF m 88 #[.val (.int p1), .val (.int p2), .val (.int p3), .val (.int p4), .val (.int (1 : Int32)), .val (.ref wy), .val (.int (2 : Int32)), .val (.int (0 : Int32))] [(.int (0 : Int32)), (.int (0 : Int32))]))
            refine own_go (fun _ k => XS.icmpNo X184.here hx rfl (hb hby at_88) rfl (teq (by decide : (0 : Int32) = (0 : Int32))).2 k) ?_
            show own_Go p e below s _ _ _ (T184.setTop (mkF m 91 #[.val (.int p1), .val (.int p2), .val (.int p3), .val (.int p4), .val (.int (1 : Int32)), .val (.ref wy), .val (.int (2 : Int32)), .val (.int (0 : Int32))] []))
            refine own_go (fun _ k => XS.iconst X184.here hx rfl (hb hby at_91) k) ?_
            show own_Go p e below s _ _ _ (T184.setTop (mkF m 92 #[.val (.int p1), .val (.int p2), .val (.int p3), .val (.int p4), .val (.int (1 : Int32)), .val (.ref wy), .val (.int (2 : Int32)), .val (.int (0 : Int32))] [(.int (1 : Int32))]))
            refine own_go (fun _ k => XS.goto X184.here hx rfl (pc0 := 92) (pc' := 96) rfl (hb hby at_92) (by decide) (by decide) k) ?_
            show own_Go p e below s _ _ _ (T184.setTop (mkF m 96 #[.val (.int p1), .val (.int p2), .val (.int p3), .val (.int p4), .val (.int (1 : Int32)), .val (.ref wy), .val (.int (2 : Int32)), .val (.int (0 : Int32))] [(.int (1 : Int32))]))
            refine own_retN X184 hx hlk Kc204 (t := .boolean) hret (by simp) (hb hby at_96) (by show _ ≤ 0; omega) (by show _ ≤ 0; omega) ?_
            exact ⟨rfl, N206, K0⟩
          · obtain ⟨rfl, Nc211, hp207, hp208, hp209, Kc210⟩ := hQ184
            refine own_go st184 ?_
            have N212 := Fr.app N0 Nc211
            exact absurd hc183 hp209
        · refine own_go (fun _ k => XS.icmpYes X122.here hx rfl (pc0 := 66) (pc' := 75) rfl (hb hby at_66) rfl (flt hc183).2.2.2 (by decide) (by decide) k) ?_
          show own_Go p e below s _ _ _ (T122.setTop (mkF m 75 #[.val (.int p1), .val (.int p2), .val (.int p3), .val (.int p4), .val (.int (1 : Int32)), .val (.ref wy), .val (.int (2 : Int32)), .unset] []))
          refine own_go (fun _ k => XS.iconst X122.here hx rfl (hb hby at_75) k) ?_
          show own_Go p e below s _ _ _ (T122.setTop (mkF m 76 #[.val (.int p1), .val (.int p2), .val (.int p3), .val (.int p4), .val (.int (1 : Int32)), .val (.ref wy), .val (.int (2 : Int32)), .unset] [(.int (1 : Int32))]))
          refine own_go (fun _ k => XS.istore X122.here hx rfl (hb hby at_76) rfl (l' := #[.val (.int p1), .val (.int p2), .val (.int p3), .val (.int p4), .val (.int (1 : Int32)), .val (.ref wy), .val (.int (2 : Int32)), .val (.int (1 : Int32))]) rfl k) ?_
          show own_Go p e below s _ _ _ (T122.setTop (mkF m 78 #[.val (.int p1), .val (.int p2), .val (.int p3), .val (.int p4), .val (.int (1 : Int32)), .val (.ref wy), .val (.int (2 : Int32)), .val (.int (1 : Int32))] []))
          refine own_go (fun _ k => XS.aload X122.here hx rfl (hb hby at_78) rfl rfl k) ?_
          show own_Go p e below s _ _ _ (T122.setTop (mkF m 80 #[.val (.int p1), .val (.int p2), .val (.int p3), .val (.int p4), .val (.int (1 : Int32)), .val (.ref wy), .val (.int (2 : Int32)), .val (.int (1 : Int32))] [(.ref wy)]))
          refine own_go (fun _ k => XS.iloadN X122.here hx rfl (hb hby at_80) rfl k) ?_
          show own_Go p e below s _ _ _ (T122.setTop (mkF m 81 #[.val (.int p1), .val (.int p2), .val (.int p3), .val (.int p4), .val (.int (1 : Int32)), .val (.ref wy), .val (.int (2 : Int32)), .val (.int (1 : Int32))] [(.int p2), (.ref wy)]))
          refine own_go (fun _ k => XS.iloadN X122.here hx rfl (hb hby at_81) rfl k) ?_
          show own_Go p e below s _ _ _ (T122.setTop (mkF m 82 #[.val (.int p1), .val (.int p2), .val (.int p3), .val (.int p4), .val (.int (1 : Int32)), .val (.ref wy), .val (.int (2 : Int32)), .val (.int (1 : Int32))] [(.int p3), (.int p2), (.ref wy)]))
          refine own_go (fun _ k => XS.iloadN X122.here hx rfl (hb hby at_82) rfl k) ?_
          show own_Go p e below s _ _ _ (T122.setTop (mkF m 83 #[.val (.int p1), .val (.int p2), .val (.int p3), .val (.int p4), .val (.int (1 : Int32)), .val (.ref wy), .val (.int (2 : Int32)), .val (.int (1 : Int32))] [(.int p4), (.int p3), (.int p2), (.ref wy)]))
          obtain ⟨v213, T213, L213, X213, hQ213, st213⟩ := own_callV (y := (⟨"com/example/ratification/ratification/model/Constraint$Kind", "allows", "(III)Z"⟩ : MethodName)) (z := (⟨"com/example/ratification/ratification/model/Constraint$Kind", "allows", "(III)Z"⟩ : MethodName)) X122 hx hZ hown (hw _ (List.mem_of_getElem? (i := 3) rfl)) (hw _ (List.mem_of_getElem? (i := 4) rfl)) (notFace_of_selects (args := #[]) (mvT hZ (hw _ (List.mem_of_getElem? (i := 6) rfl)))) (hw _ (List.mem_of_getElem? (i := 6) rfl)) (hw _ (List.mem_of_getElem? (i := 5) rfl)) (hw _ (List.mem_of_getElem? (i := 1) rfl)) (hw _ (List.mem_of_getElem? (i := 7) rfl)) (rm_allows l Z a0 hw oA oB oE1 oE2 oF1 oF2 [] wy p2 p3 p4 (2 : Int32) h0 O0 (oF2.ext O0)) 0 0 0 rfl rfl (by decide) (by decide) (by decide) (by show _ ≤ 0; omega) (by show _ ≤ 0; omega) e122 (oE2.ext O0) (g := (mkF m 83 #[.val (.int p1), .val (.int p2), .val (.int p3), .val (.int p4), .val (.int (1 : Int32)), .val (.ref wy), .val (.int (2 : Int32)), .val (.int (1 : Int32))] [(.int p4), (.int p3), (.int p2), (.ref wy)])) rfl (by rw [hml]; rfl) [(.int p2), (.int p3), (.int p4)] [] (lenOf own_pd_1 rfl) rfl rfl (by show 2 * 0 + _ ≤ _; exact Nat.le_of_eq rfl) (hb hby at_83)
          rcases hQ213 with hQ213 | hQ213 | hQ213 | hQ213 | hQ213
          · obtain ⟨rfl, Nc216, hp214, Kc215⟩ := hQ213
            refine own_go st213 ?_
            have N217 := Fr.app N0 Nc216
            exact absurd hp214 hc123
          · obtain ⟨rfl, Nc222, hp218, hp219, hp220, Kc221⟩ := hQ213
            refine own_go st213 ?_
            have N223 := Fr.app N0 Nc222
            exact absurd hp220 hc153
          · obtain ⟨rfl, Nc228, hp224, hp225, hp226, Kc227⟩ := hQ213
            refine own_go st213 ?_
            have N229 := Fr.app N0 Nc228
            show own_Go p e below s _ _ _ (T213.setTop (mkF m 86 #[.val (.int p1), .val (.int p2), .val (.int p3), .val (.int p4), .val (.int (1 : Int32)), .val (.ref wy), .val (.int (2 : Int32)), .val (.int (1 : Int32))] [(.int (1 : Int32))]))
            refine own_go (fun _ k => XS.iload X213.here hx rfl (hb hby at_86) rfl k) ?_
            show own_Go p e below s _ _ _ (T213.setTop (mkF m 88 #[.val (.int p1), .val (.int p2), .val (.int p3), .val (.int p4), .val (.int (1 : Int32)), .val (.ref wy), .val (.int (2 : Int32)), .val (.int (1 : Int32))] [(.int (1 : Int32)), (.int (1 : Int32))]))
            refine own_go (fun _ k => XS.icmpNo X213.here hx rfl (hb hby at_88) rfl (teq (by decide : (1 : Int32) = (1 : Int32))).2 k) ?_
            show own_Go p e below s _ _ _ (T213.setTop (mkF m 91 #[.val (.int p1), .val (.int p2), .val (.int p3), .val (.int p4), .val (.int (1 : Int32)), .val (.ref wy), .val (.int (2 : Int32)), .val (.int (1 : Int32))] []))
            refine own_go (fun _ k => XS.iconst X213.here hx rfl (hb hby at_91) k) ?_
            show own_Go p e below s _ _ _ (T213.setTop (mkF m 92 #[.val (.int p1), .val (.int p2), .val (.int p3), .val (.int p4), .val (.int (1 : Int32)), .val (.ref wy), .val (.int (2 : Int32)), .val (.int (1 : Int32))] [(.int (1 : Int32))]))
            refine own_go (fun _ k => XS.goto X213.here hx rfl (pc0 := 92) (pc' := 96) rfl (hb hby at_92) (by decide) (by decide) k) ?_
            show own_Go p e below s _ _ _ (T213.setTop (mkF m 96 #[.val (.int p1), .val (.int p2), .val (.int p3), .val (.int p4), .val (.int (1 : Int32)), .val (.ref wy), .val (.int (2 : Int32)), .val (.int (1 : Int32))] [(.int (1 : Int32))]))
            refine own_retN X213 hx hlk Kc227 (t := .boolean) hret (by simp) (hb hby at_96) (by show _ ≤ 0; omega) (by show _ ≤ 0; omega) ?_
            exact ⟨rfl, N229, K0⟩
          · obtain ⟨rfl, Nc234, hp230, hp231, hp232, Kc233⟩ := hQ213
            refine own_go st213 ?_
            have N235 := Fr.app N0 Nc234
            exact absurd hp232 hc183
          · obtain ⟨rfl, Nc240, hp236, hp237, hp238, Kc239⟩ := hQ213
            refine own_go st213 ?_
            have N241 := Fr.app N0 Nc240
            show own_Go p e below s _ _ _ (T213.setTop (mkF m 86 #[.val (.int p1), .val (.int p2), .val (.int p3), .val (.int p4), .val (.int (1 : Int32)), .val (.ref wy), .val (.int (2 : Int32)), .val (.int (1 : Int32))] [(.int (1 : Int32))]))
            refine own_go (fun _ k => XS.iload X213.here hx rfl (hb hby at_86) rfl k) ?_
            show own_Go p e below s _ _ _ (T213.setTop (mkF m 88 #[.val (.int p1), .val (.int p2), .val (.int p3), .val (.int p4), .val (.int (1 : Int32)), .val (.ref wy), .val (.int (2 : Int32)), .val (.int (1 : Int32))] [(.int (1 : Int32)), (.int (1 : Int32))]))
            refine own_go (fun _ k => XS.icmpNo X213.here hx rfl (hb hby at_88) rfl (teq (by decide : (1 : Int32) = (1 : Int32))).2 k) ?_
            show own_Go p e below s _ _ _ (T213.setTop (mkF m 91 #[.val (.int p1), .val (.int p2), .val (.int p3), .val (.int p4), .val (.int (1 : Int32)), .val (.ref wy), .val (.int (2 : Int32)), .val (.int (1 : Int32))] []))
            refine own_go (fun _ k => XS.iconst X213.here hx rfl (hb hby at_91) k) ?_
            show own_Go p e below s _ _ _ (T213.setTop (mkF m 92 #[.val (.int p1), .val (.int p2), .val (.int p3), .val (.int p4), .val (.int (1 : Int32)), .val (.ref wy), .val (.int (2 : Int32)), .val (.int (1 : Int32))] [(.int (1 : Int32))]))
            refine own_go (fun _ k => XS.goto X213.here hx rfl (pc0 := 92) (pc' := 96) rfl (hb hby at_92) (by decide) (by decide) k) ?_
            show own_Go p e below s _ _ _ (T213.setTop (mkF m 96 #[.val (.int p1), .val (.int p2), .val (.int p3), .val (.int p4), .val (.int (1 : Int32)), .val (.ref wy), .val (.int (2 : Int32)), .val (.int (1 : Int32))] [(.int (1 : Int32))]))
            refine own_retN X213 hx hlk Kc239 (t := .boolean) hret (by simp) (hb hby at_96) (by show _ ≤ 0; omega) (by show _ ≤ 0; omega) ?_
            exact ⟨rfl, N241, K0⟩
set_option maxRecDepth 65536 in
set_option maxHeartbeats 40000000 in
theorem comes_1 {Post : Tables → Env → Array Value → State → Outcome → State → Prop} (hpost : ∀ tb e args s v u, (limb_1_1.after args s (.returned v) u = true ∧ limb_1_2.after args s (.returned v) u = true ∧ True) → FrameEnd s (.returned v) u (Jvm.fieldLocs frame_1_writes args s ++ Jvm.arrayLocs frame_1_arrays args s ++ Jvm.staticLocs frame_1_statics s) 0 0 → Post tb e args s (.returned v) u) :
    ArmFor flags0 classFile x code maxLocals ret World_1 tables_1 room_1 Calls_1 rest_1 Pre_1 Post := by
  intro l hfl _ _ p e ha hc hk s m args below hf hA hF happ hP
  obtain ⟨hcalls, hrest, hpre⟩ := hP
  obtain ⟨-, -, -, hnamed, -, -, -, hat⟩ := (Spec.applies_iff hf).mp happ
  obtain ⟨hg, hn⟩ := and_e (Cond.before_iff.mp (show (Jvm.Cond.and given_1 narrow_1).before args s = true from hpre))
  obtain ⟨gA0, gB0⟩ := and_e hg
  obtain ⟨gA1, gB1⟩ := and_e gB0
  obtain ⟨gA2, gB2⟩ := and_e gB1
  obtain ⟨gA3, gB3⟩ := and_e gB2
  obtain ⟨w0, w1, w2, w3, rfl⟩ : ∃ w0 w1 w2 w3 : Value, args = #[w0, w1, w2, w3] := by
    have hs : args.size = 4 := by simpa [Cond.value, given_1] using gA0
    obtain ⟨L⟩ := args
    match L, hs with
    | [w0, w1, w2, w3], _ => exact ⟨w0, w1, w2, w3, rfl⟩
  have hw := fun d (hd : d ∈ tables_1) => atoms_spec (ws := Jvm.Cond.code x code maxLocals ret :: tables_1) hat d (List.mem_cons_of_mem _ hd)
  have hfit : Fit s := fun {y c} hc i hi => by
    obtain ⟨ha, rfl⟩ := Array.getElem?_eq_some_iff.mp hc
    have q := List.all_eq_true.mp ((Array.all_eq_true_iff_forall_mem.mp hF) _ (Array.getElem_mem ha)) i (List.mem_range.mpr hi)
    simpa [Array.getElem?_eq_getElem hi] using q
  obtain ⟨i0, ei0⟩ := is_v gA1
  obtain rfl : w0 = (.int i0) := Option.some.inj ei0
  obtain ⟨i1, ei1⟩ := is_v gA2
  obtain rfl : w1 = (.int i1) := Option.some.inj ei1
  obtain ⟨i2, ei2⟩ := is_v gA3
  obtain rfl : w2 = (.int i2) := Option.some.inj ei2
  obtain ⟨i3, ei3⟩ := is_v gB3
  obtain rfl : w3 = (.int i3) := Option.some.inj ei3
  obtain ⟨n1, hn2⟩ := and_e hn
  obtain ⟨n2, hn3⟩ := and_e hn2
  obtain ⟨n3, n4⟩ := and_e hn3
  obtain ⟨wx, e1⟩ := exa_v n1
  obtain ⟨wy, e2⟩ := exa_v n3
  have oE1 := Exa.start e1 n1
  have oE2 := Exa.start e2 n3
  have oA := Sta.start e1 (Or.inr ⟨(hw _ (List.mem_of_getElem? (i := 1) rfl)), (hw _ (List.mem_of_getElem? (i := 2) rfl))⟩)
  have oB := Sta.start e2 (Or.inr ⟨(hw _ (List.mem_of_getElem? (i := 1) rfl)), (hw _ (List.mem_of_getElem? (i := 15) rfl))⟩)
  have oF1 := Fld.start (own_ordFld n2 e1)
  have oF2 := Fld.start (own_ordFld n4 e2)
  obtain ⟨n, o, h1, h2, h3, _, L, rfl, ⟨rfl, N, -⟩, hq⟩ := rm_law l s _ hw oA oB oE1 oE2 oF1 oF2 tables_1 i0 i1 i2 i3  s.heap ⟨Nat.le_refl _, fun _ _ q => q⟩  p e ha hc hk s m _ below hf ((Spec.applies_iff_loose hf).mp happ).1 ⟨rfl, State.Warmed39.refl s, rfl⟩ trivial
  refine ⟨n, _, h1, h2, h3, hpost _ _ _ _ _ _ ⟨Cond.after_iff.mpr rfl, Cond.after_iff.mpr (eq_i res_at (Term.int_eval (1)) rfl), trivial⟩ ⟨hq.1, hq.2.1, (hq.2.2.sift fun y hy => Or.inr (N y hy)).mono (by decide) (by decide)⟩⟩
theorem main_1_1 : Claimed_1_1 := comes_1 fun _ _ _ _ _ _ h hF => ⟨h.1, hF⟩
theorem main_1_2 : Claimed_1_2 := comes_1 fun _ _ _ _ _ _ h hF => ⟨h.2.1, hF⟩
end Jvm.Pilot.@@N@@
namespace Jvm.Pilot.@@N@@
open Jvm Jvm.ClassFile Sem Op Lib Jvm.Free Jvm.Stand Jvm.Pilot.@@N@@.Jvm.D
/-! MADE BY PROGRAM (witnessworld.py) out of the Statement's table words and the real class files: 13 classes; the members and pool entries that the words name. The judged class is class 1, her method 1. -/
namespace start1
open Jvm.ClassFile
def u (s : String) : CpInfo := .utf8 (stringToUtf16 s)
/-- a pool by its gaps: so many unusable entries, then the entry; so many at the end -/
def gap : Nat → List CpInfo → List CpInfo
  | 0, r => r
  | n + 1, r => .unusable :: gap n r
def poolList (es : List (Nat × CpInfo)) (last : Nat) : List CpInfo := es.foldr (fun e r => gap e.1 (e.2 :: r)) (gap last [])
def pool (es : List (Nat × CpInfo)) (last : Nat) : Array CpInfo := ⟨poolList es last⟩
def fileOf (pool : Array CpInfo) (this : Nat) (attrs : Array Attribute := #[]) (ms : Array MethodInfo := #[]) (fl : Nat := 33) (sup : Nat := 0) (ifs : Array Nat := #[]) (fds : Array FieldInfo := #[]) : ClassFile where
  minorVersion := 0
  majorVersion := 65
  constantPool := pool
  accessFlags := fl
  thisClass := this
  superClass := sup
  interfaces := ifs
  fields := fds
  methods := ms
  attributes := attrs
def plain (name : String) (sup : Option ClassId) : Class where
  name := name
  kind := .ordinary
  loader := none
  accessFlags := 33
  super := sup
  interfaces := #[]
  cf := none
  fields := #[]
  methods := #[]
  instanceTypes := #[]
  staticTypes := #[]
  resolved := #[]
  callSites := []
  init := .initialized
  statics := none
  mirror := none

def pool0 : Array CpInfo := pool [(5, u "<init>"), (0, u "()V"), (1, .class_ 10), (1, u "java/lang/Object")] 113

def k0m0 : Method := { name := "<init>", desc := "()V", sig := { parameters := [], returnType := none }, accessFlags := 1, code := none }
/-- java/lang/Object -/
def k0 : Class := { plain "java/lang/Object" none with
  accessFlags := 33
  interfaces := #[]
  cf := some (fileOf pool0 8 #[] #[{ accessFlags := 1, nameIndex := 5, descriptorIndex := 6, attributes := #[] }] 33 0 #[] #[])
  fields := #[]
  methods := #[k0m0]
  instanceTypes := #[]
  staticTypes := #[]
  resolved := Array.replicate 124 none
  statics := none }

def pool1 : Array CpInfo := pool [(2, .class_ 4), (1, u "java/lang/Object"), (0, u "<init>"), (0, u "()V"), (0, .fieldref 8 9), (0, .class_ 10), (0, .nameAndType 11 12), (0, u "com/example/ratification/ratification/model/Constraint$Kind"), (0, u "SEPARATION_OF_DUTY"), (0, u "Lcom/example/ratification/ratification/model/Constraint$Kind;"), (0, .fieldref 8 14), (0, .nameAndType 15 12), (0, u "STRICT_AVAILABILITY"), (0, .methodref 8 17), (0, .nameAndType 18 19), (0, u "allows"), (0, u "(III)Z"), (0, .class_ 21), (0, u "com/example/ratification/ratification/model/KindAllowsPinLaw"), (2, u "law"), (0, u "(IIII)Z")] 7

def k1m0 : Method := { name := "<init>", desc := "()V", sig := { parameters := [], returnType := none }, accessFlags := 1, code := none }
def k1c1 : Code := { maxStack := 4, maxLocals := 8, code := code, exceptionTable := #[], attributes := #[] }
def k1m1 : Method := { name := "law", desc := "(IIII)Z", sig := { parameters := [.int, .int, .int, .int], returnType := some .boolean }, accessFlags := 9, code := some k1c1 }
/-- com/example/ratification/ratification/model/KindAllowsPinLaw -/
def k1 : Class := { plain "com/example/ratification/ratification/model/KindAllowsPinLaw" (some 0) with
  accessFlags := 49
  interfaces := #[]
  cf := some (fileOf pool1 20 #[] #[{ accessFlags := 1, nameIndex := 5, descriptorIndex := 6, attributes := #[] }, { accessFlags := 9, nameIndex := 24, descriptorIndex := 25, attributes := #[] }] 49 2 #[] #[])
  fields := #[]
  methods := #[k1m0, k1m1]
  instanceTypes := #[]
  staticTypes := #[]
  resolved := Array.replicate 33 none
  statics := none }

def pool2 : Array CpInfo := pool [(1, .class_ 2), (0, u "java/lang/constant/Constable"), (0, .class_ 4), (0, u "java/lang/Object")] 6

/-- java/lang/constant/Constable -/
def k2 : Class := { plain "java/lang/constant/Constable" (some 0) with
  accessFlags := 1537
  interfaces := #[]
  cf := some (fileOf pool2 1 #[] #[] 1537 3 #[] #[])
  fields := #[]
  methods := #[]
  instanceTypes := #[]
  staticTypes := #[]
  resolved := Array.replicate 11 none
  statics := none }

def pool3 : Array CpInfo := pool [(1, .class_ 2), (0, u "java/lang/Comparable"), (0, .class_ 4), (0, u "java/lang/Object")] 7

/-- java/lang/Comparable -/
def k3 : Class := { plain "java/lang/Comparable" (some 0) with
  accessFlags := 1537
  interfaces := #[]
  cf := some (fileOf pool3 1 #[] #[] 1537 3 #[] #[])
  fields := #[]
  methods := #[]
  instanceTypes := #[]
  staticTypes := #[]
  resolved := Array.replicate 12 none
  statics := none }

def pool4 : Array CpInfo := pool [(1, .class_ 2), (0, u "java/io/Serializable"), (0, .class_ 4), (0, u "java/lang/Object")] 2

/-- java/io/Serializable -/
def k4 : Class := { plain "java/io/Serializable" (some 0) with
  accessFlags := 1537
  interfaces := #[]
  cf := some (fileOf pool4 1 #[] #[] 1537 3 #[] #[])
  fields := #[]
  methods := #[]
  instanceTypes := #[]
  staticTypes := #[]
  resolved := Array.replicate 7 none
  statics := none }

def pool5 : Array CpInfo := pool [(2, .class_ 4), (1, u "java/lang/Enum"), (0, u "name"), (0, u "Ljava/lang/String;"), (2, u "ordinal"), (0, u "I"), (1, .class_ 14), (1, u "java/lang/Object"), (4, u "hash"), (86, .class_ 108), (1, u "java/lang/Enum$EnumDesc"), (2, .class_ 112), (0, u "java/lang/constant/Constable"), (0, .class_ 114), (0, u "java/lang/Comparable"), (0, .class_ 116), (0, u "java/io/Serializable")] 87

/-- java/lang/Enum -/
def k5 : Class := { plain "java/lang/Enum" (some 0) with
  accessFlags := 1057
  interfaces := #[2, 3, 4]
  cf := some (fileOf pool5 2 #[.nestMembers #[106]] #[] 1057 12 #[111, 113, 115] #[{ accessFlags := 18, nameIndex := 5, descriptorIndex := 6, attributes := #[] }, { accessFlags := 18, nameIndex := 9, descriptorIndex := 10, attributes := #[] }, { accessFlags := 2, nameIndex := 19, descriptorIndex := 10, attributes := #[] }])
  fields := #[{ name := "name", type := (.object "java/lang/String"), accessFlags := 18, slot := 0, constantValue := 0 }, { name := "ordinal", type := .int, accessFlags := 18, slot := 1, constantValue := 0 }, { name := "hash", type := .int, accessFlags := 2, slot := 2, constantValue := 0 }]
  methods := #[]
  instanceTypes := #[(.object "java/lang/String"), .int, .int]
  staticTypes := #[]
  resolved := Array.replicate 204 none
  statics := none }

def pool6 : Array CpInfo := pool [(1, .class_ 2), (0, u "com/example/ratification/ratification/model/Constraint$Kind"), (2, u "SEPARATION_OF_DUTY"), (0, u "Lcom/example/ratification/ratification/model/Constraint$Kind;"), (2, u "STRICT_AVAILABILITY"), (2, u "$VALUES"), (0, u "[Lcom/example/ratification/ratification/model/Constraint$Kind;"), (6, .class_ 22), (1, u "java/lang/Enum"), (8, u "keyword"), (0, u "Ljava/lang/String;"), (2, u "bound"), (0, .fieldref 1 37), (0, .nameAndType 38 39), (0, u "least"), (0, u "I"), (0, .methodref 41 42), (0, .class_ 43), (0, .nameAndType 44 45), (0, u "java/lang/Math"), (0, u "min"), (0, u "(II)I"), (30, u "allows"), (0, u "(III)Z"), (9, .class_ 88), (0, u "com/example/ratification/ratification/model/Constraint")] 16

def k6c0 : Code := { maxStack := 3, maxLocals := 4, code := prog_53_method_6_code, exceptionTable := #[], attributes := #[] }
def k6m0 : Method := { name := "allows", desc := "(III)Z", sig := { parameters := [.int, .int, .int], returnType := some .boolean }, accessFlags := 1, code := some k6c0 }
/-- com/example/ratification/ratification/model/Constraint$Kind -/
def k6 : Class := { plain "com/example/ratification/ratification/model/Constraint$Kind" (some 5) with
  accessFlags := 16433
  interfaces := #[]
  cf := some (fileOf pool6 1 #[.nestHost 87] #[{ accessFlags := 1, nameIndex := 76, descriptorIndex := 77, attributes := #[] }] 16433 20 #[] #[{ accessFlags := 16409, nameIndex := 5, descriptorIndex := 6, attributes := #[] }, { accessFlags := 16409, nameIndex := 9, descriptorIndex := 6, attributes := #[] }, { accessFlags := 18, nameIndex := 31, descriptorIndex := 32, attributes := #[] }, { accessFlags := 18, nameIndex := 35, descriptorIndex := 32, attributes := #[] }, { accessFlags := 18, nameIndex := 38, descriptorIndex := 39, attributes := #[] }, { accessFlags := 4122, nameIndex := 12, descriptorIndex := 13, attributes := #[] }])
  fields := #[{ name := "SEPARATION_OF_DUTY", type := (.object "com/example/ratification/ratification/model/Constraint$Kind"), accessFlags := 16409, slot := 0, constantValue := 0 }, { name := "STRICT_AVAILABILITY", type := (.object "com/example/ratification/ratification/model/Constraint$Kind"), accessFlags := 16409, slot := 1, constantValue := 0 }, { name := "keyword", type := (.object "java/lang/String"), accessFlags := 18, slot := 3, constantValue := 0 }, { name := "bound", type := (.object "java/lang/String"), accessFlags := 18, slot := 4, constantValue := 0 }, { name := "least", type := .int, accessFlags := 18, slot := 5, constantValue := 0 }, { name := "$VALUES", type := (.array (.object "com/example/ratification/ratification/model/Constraint$Kind")), accessFlags := 4122, slot := 2, constantValue := 0 }]
  methods := #[k6m0]
  instanceTypes := #[(.object "java/lang/String"), .int, .int, (.object "java/lang/String"), (.object "java/lang/String"), .int]
  staticTypes := #[(.object "com/example/ratification/ratification/model/Constraint$Kind"), (.object "com/example/ratification/ratification/model/Constraint$Kind"), (.array (.object "com/example/ratification/ratification/model/Constraint$Kind"))]
  resolved := Array.replicate 105 none
  statics := some 0 }

def pool7 : Array CpInfo := pool [(1, .class_ 2), (0, u "java/lang/Math"), (1, .class_ 6), (1, u "java/lang/Object"), (0, u "<init>"), (0, u "()V"), (89, .class_ 100), (1, u "java/lang/Math$RandomNumberGeneratorHolder"), (71, u "negativeZeroFloatBits"), (0, u "J"), (2, u "negativeZeroDoubleBits"), (24, u "min"), (43, u "$assertionsDisabled"), (0, u "Z"), (88, u "(II)I"), (2, u "twoToTheDoubleScaleDown"), (0, u "D"), (4, u "twoToTheDoubleScaleUp"), (9, u "E"), (3, u "PI"), (2, u "TAU"), (2, u "DEGREES_TO_RADIANS"), (0, u "RADIANS_TO_DEGREES")] 94

def k7m0 : Method := { name := "<init>", desc := "()V", sig := { parameters := [], returnType := none }, accessFlags := 2, code := none }
def k7c1 : Code := { maxStack := 2, maxLocals := 2, code := jdk_29_method_69_code, exceptionTable := #[], attributes := #[] }
def k7m1 : Method := { name := "min", desc := "(II)I", sig := { parameters := [.int, .int], returnType := some .int }, accessFlags := 9, code := some k7c1 }
/-- java/lang/Math -/
def k7 : Class := { plain "java/lang/Math" (some 0) with
  accessFlags := 49
  interfaces := #[]
  cf := some (fileOf pool7 1 #[.nestMembers #[98]] #[{ accessFlags := 2, nameIndex := 7, descriptorIndex := 8, attributes := #[] }, { accessFlags := 9, nameIndex := 201, descriptorIndex := 335, attributes := #[] }] 49 4 #[] #[{ accessFlags := 25, nameIndex := 354, descriptorIndex := 339, attributes := #[] }, { accessFlags := 25, nameIndex := 358, descriptorIndex := 339, attributes := #[] }, { accessFlags := 25, nameIndex := 361, descriptorIndex := 339, attributes := #[] }, { accessFlags := 26, nameIndex := 364, descriptorIndex := 339, attributes := #[] }, { accessFlags := 26, nameIndex := 365, descriptorIndex := 339, attributes := #[] }, { accessFlags := 26, nameIndex := 172, descriptorIndex := 173, attributes := #[] }, { accessFlags := 26, nameIndex := 176, descriptorIndex := 173, attributes := #[] }, { accessFlags := 8, nameIndex := 344, descriptorIndex := 339, attributes := #[] }, { accessFlags := 8, nameIndex := 338, descriptorIndex := 339, attributes := #[] }, { accessFlags := 4120, nameIndex := 245, descriptorIndex := 246, attributes := #[] }])
  fields := #[{ name := "E", type := .double, accessFlags := 25, slot := 0, constantValue := 0 }, { name := "PI", type := .double, accessFlags := 25, slot := 1, constantValue := 0 }, { name := "TAU", type := .double, accessFlags := 25, slot := 2, constantValue := 0 }, { name := "DEGREES_TO_RADIANS", type := .double, accessFlags := 26, slot := 3, constantValue := 0 }, { name := "RADIANS_TO_DEGREES", type := .double, accessFlags := 26, slot := 4, constantValue := 0 }, { name := "negativeZeroFloatBits", type := .long, accessFlags := 26, slot := 5, constantValue := 0 }, { name := "negativeZeroDoubleBits", type := .long, accessFlags := 26, slot := 6, constantValue := 0 }, { name := "twoToTheDoubleScaleUp", type := .double, accessFlags := 8, slot := 7, constantValue := 0 }, { name := "twoToTheDoubleScaleDown", type := .double, accessFlags := 8, slot := 8, constantValue := 0 }, { name := "$assertionsDisabled", type := .boolean, accessFlags := 4120, slot := 9, constantValue := 0 }]
  methods := #[k7m0, k7m1]
  instanceTypes := #[]
  staticTypes := #[.double, .double, .double, .double, .double, .long, .long, .double, .double, .boolean]
  resolved := Array.replicate 460 none
  statics := none }

def pool8 : Array CpInfo := pool [(1, u "java/lang/Cloneable"), (0, .class_ 1), (0, u "java/lang/Object"), (0, .class_ 3)] 3

/-- java/lang/Cloneable -/
def k8 : Class := { plain "java/lang/Cloneable" (some 0) with
  accessFlags := 1537
  interfaces := #[]
  cf := some (fileOf pool8 2 #[] #[] 1537 4 #[] #[])
  fields := #[]
  methods := #[]
  instanceTypes := #[]
  staticTypes := #[]
  resolved := Array.replicate 8 none
  statics := none }

/-- the primitive byte -/
def k9 : Class := { plain "byte" none with kind := .primitive 'B', accessFlags := 0x411 }
/-- [B -/
def k10 : Class := { plain "[B" (some 0) with kind := .array 9 .byte, interfaces := #[8, 4], accessFlags := 1041 }

/-- the primitive int -/
def k11 : Class := { plain "int" none with kind := .primitive 'I', accessFlags := 0x411 }
/-- [I -/
def k12 : Class := { plain "[I" (some 0) with kind := .array 11 .int, interfaces := #[8, 4], accessFlags := 1041 }

def heap : Heap := #[{ cls := 6, slots := #[.ref 2, .ref 1, .null], vm := .statics 6 },
  { cls := 6, slots := #[.null, .int 0, .int 0, .null, .null, .int 1], vm := .none },
  { cls := 6, slots := #[.null, .int 1, .int 0, .null, .null, .int 2], vm := .none }]
def classes : Array Class := #[k0, k1, k2, k3, k4, k5, k6, k7, k8, k9, k10, k11, k12]
def interned : List (Array UInt16 × Addr) := []
def slotsUsed : Nat := 15
def theMethod : MethodId := ⟨1, 1⟩
def args0 : Array Value := #[.int 5, .int 2, .int 6, .int 6]
def aboutOver (below : List Frame) : State where
  vm := { classes := classes, interned := interned.toArray }
  heap := heap
  slotsUsed := slotsUsed
  threads := #[{ frames := .invoking theMethod args0 :: below }]
def below0 : List Frame := [.native { method := ⟨0, 0⟩, args := #[] }]
def about1 : State := aboutOver below0
def p0 : Program := .bare "" "" ""
def e0 : Env := launch0.env 0 0 0
theorem w_frames : about1.frames = Frame.invoking theMethod args0 :: below0 := rfl
set_option maxRecDepth 65536 in
theorem w_args : argsFit about1.vm theMethod args0 = true := by decide +kernel
set_option maxRecDepth 65536 in
theorem w_heap : heapFits about1 = true := by decide +kernel
set_option maxRecDepth 65536 in
theorem w_runnable : about1.curStatus? = some .runnable := by decide +kernel
set_option maxRecDepth 65536 in
theorem w_alone : about1.alone = true := by decide +kernel
set_option maxRecDepth 65536 in
theorem w_named : about1.methodNamed? x = some theMethod := by decide +kernel
set_option maxRecDepth 65536 in
theorem w_hears : about1.hears theMethod below0 = true := by decide +kernel
set_option maxRecDepth 65536 in
theorem w_ripe : about1.ripe theMethod args0 below0 = true := by decide +kernel
theorem w_running : about1.status = .running := rfl
set_option maxRecDepth 65536 in
theorem w_room : about1.hasRoom e0.platform room_1 = true :=
  launch0.hasRoom_least _ room_1 (by decide +kernel) (by decide +kernel) (by decide +kernel) (by decide +kernel) (by decide +kernel) (by decide +kernel)
theorem allAtoms_all (ts : List Jvm.Cond) (a : Array Jvm.Value) (st : Jvm.State) : (allAtoms ts).before a st = ts.all (fun c => c.before a st) := by
  induction ts with
  | nil => rfl
  | cons c t ih =>
    show (Jvm.Cond.and c (allAtoms t)).before a st = _
    rw [Jvm.Cond.before_and, ih, List.all_cons]
def words1 : List Jvm.Cond := Jvm.Cond.code x code maxLocals ret :: tables_1
/-- a 'code' word, met by the world's own term for the bytes: nothing is compared byte by byte -/
theorem code_word {y : MethodName} {bytes : ByteArray} {mx : Nat} {rt : Option FieldType} {a : Array Value} {s : State} {m : MethodId} {meth : Method} {c : Code} (h1 : s.methodNamed? y = some m) (h2 : s.vm.method? m = some meth) (h3 : meth.code = some c) (h4 : c.code = bytes)
    (h5 : (c.maxLocals == mx && c.exceptionTable.isEmpty && decide (c.maxStack ≤ mostOperands) && decide (meth.sig.returnType = rt) && !meth.locks && decide (parseMethodDescriptor y.desc = some meth.sig)) = true) : (Jvm.Cond.code y bytes mx rt).before a s = true := by
  simp only [Bool.and_eq_true, beq_iff_eq, Bool.not_eq_true', decide_eq_true_eq] at h5
  obtain ⟨⟨⟨⟨⟨g1, g2⟩, g3⟩, g4⟩, g5⟩, g6⟩ := h5
  simp [Cond.before, Cond.holds, Cond.value, h1, h2, h3, h4, g1, g2, g3, g4, g5, g6]
def isCode : Jvm.Cond → Bool
  | .code _ _ _ _ => true
  | _ => false
theorem all_split {L : List Jvm.Cond} {P : Jvm.Cond → Bool} (h1 : L.all (fun c => isCode c || P c) = true) (h2 : ∀ c ∈ L.filter isCode, P c = true) : L.all P = true := by
  refine List.all_eq_true.mpr fun c hc => ?_
  have h := List.all_eq_true.mp h1 c hc
  rcases Bool.eq_false_or_eq_true (isCode c) with hi | hi
  · exact h2 c (List.mem_filter.mpr ⟨hc, hi⟩)
  · simpa [hi] using h
set_option maxRecDepth 65536 in
theorem w_c0 : (Jvm.Cond.code x code maxLocals ret).before args0 about1 = true := code_word (m := ⟨1, 1⟩) (meth := k1m1) (c := k1c1) (by decide +kernel) rfl rfl rfl (by decide +kernel)
set_option maxRecDepth 65536 in
theorem w_c1 : (Jvm.Cond.code ({ cls := "com/example/ratification/ratification/model/Constraint$Kind", name := "allows", desc := "(III)Z" } : Jvm.MethodName) prog_53_method_6_code (4 : Nat) (Option.some Jvm.ClassFile.FieldType.boolean)).before args0 about1 = true := code_word (m := ⟨6, 0⟩) (meth := k6m0) (c := k6c0) (by decide +kernel) rfl rfl rfl (by decide +kernel)
set_option maxRecDepth 65536 in
theorem w_c2 : (Jvm.Cond.code ({ cls := "java/lang/Math", name := "min", desc := "(II)I" } : Jvm.MethodName) jdk_29_method_69_code (2 : Nat) (Option.some Jvm.ClassFile.FieldType.int)).before args0 about1 = true := code_word (m := ⟨7, 1⟩) (meth := k7m1) (c := k7c1) (by decide +kernel) rfl rfl rfl (by decide +kernel)
def codes1 : List Jvm.Cond := [Jvm.Cond.code x code maxLocals ret, Jvm.Cond.code ({ cls := "com/example/ratification/ratification/model/Constraint$Kind", name := "allows", desc := "(III)Z" } : Jvm.MethodName) prog_53_method_6_code (4 : Nat) (Option.some Jvm.ClassFile.FieldType.boolean), Jvm.Cond.code ({ cls := "java/lang/Math", name := "min", desc := "(II)I" } : Jvm.MethodName) jdk_29_method_69_code (2 : Nat) (Option.some Jvm.ClassFile.FieldType.int)]
set_option maxRecDepth 65536 in
theorem codes_eq : words1.filter isCode = codes1 := rfl
theorem w_codes : ∀ c ∈ words1.filter isCode, c.before args0 about1 = true := by
  rw [codes_eq]
  intro c hc
  simp only [codes1, List.mem_cons, List.not_mem_nil, or_false] at hc
  rcases hc with rfl | rfl | rfl
  · exact w_c0
  · exact w_c1
  · exact w_c2
set_option maxRecDepth 65536 in
theorem w_t1 : words1.all (fun c => isCode c || c.before args0 about1) = true := by decide +kernel
theorem w_tables : (allAtoms (Jvm.Cond.code x code maxLocals ret :: tables_1)).before args0 about1 = true := by
  rw [allAtoms_all]
  show words1.all (fun c => c.before args0 about1) = true
  refine all_split ?_ w_codes
  rw [w_t1]
set_option maxRecDepth 65536 in
theorem w_case : (Jvm.Cond.and given_1 narrow_1).before args0 about1 = true := by decide +kernel
theorem w_applies : (headSpec (Jvm.Cond.code x code maxLocals ret :: tables_1) room_1).applies x e0.platform about1 = true :=
  (Spec.applies_iff w_frames).mpr ⟨w_running, w_runnable, w_alone, w_named, w_hears, w_ripe, w_room, w_tables⟩
theorem atStart : AtStart classFile x code maxLocals ret World_1 tables_1 room_1 Calls_1 rest_1 Pre_1 launch0 p0 e0 about1 theMethod args0 below0 :=
  ⟨lists_1, trivial, launch0.admits_env _ _ _, launch0.least_env, fairChoices_fair.cas, fairChoices_fair.clock, w_frames, w_args, w_heap, w_applies, trivial, trivial, w_case⟩
end start1
theorem witness_1 : WitnessClaimed_1 := ⟨start1.p0, start1.e0, start1.about1, start1.theMethod, start1.args0, start1.below0, start1.atStart⟩
end Jvm.Pilot.@@N@@
