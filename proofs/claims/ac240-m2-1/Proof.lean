import JvmDerived
import JvmDerived.Pilot.@@N@@Statement
import JvmDerived.Pilot.@@N@@Code
set_option linter.unusedVariables false
set_option linter.unusedSimpArgs false
namespace Jvm.Pilot.@@N@@
open Jvm Jvm.ClassFile Sem Op Lib Jvm.Free Jvm.Stand Jvm.LawKit Jvm.RoadKit Bundle Jvm.Pilot.@@N@@.Jvm.D
/-- the run from U comes to a return whose value, heap and written places Q takes; it has made at most kc cells of ks slots -/
def own_Go (p : Program) (e : Env) (below : List Frame) (s : State) (Q : Option Value → Heap → List Loc → Prop) (kc ks : Nat) (U : State) : Prop :=
  ∃ t o, Steps p.tables e below U t ∧ t.status = .running ∧ Ended t below o ∧ ∃ v L, o = .returned v ∧ Q v t.heap L ∧ FrameEnd s o t L kc ks
section OwnKit
variable {p : Program} {l : Launch} {e : Env} {R : Room} {s : State} {m : MethodId} {args : Array Value} {below : List Frame} {meth : Method} {c : Code} {T : State} {locs : List Loc} {cells slots kc ks : Nat} {Z : State} {a0 : Array Value} {h : Heap} {Q : Option Value → Heap → List Loc → Prop}
theorem own_go {U U' : State} (f : ∀ t, Steps p.tables e below U' t → Steps p.tables e below U t) (g : own_Go p e below s Q kc ks U') : own_Go p e below s Q kc ks U := by
  obtain ⟨t, o, a, r⟩ := g
  exact ⟨t, o, f t a, r⟩
theorem own_end (X : Stand p l e R s m args below meth c T locs cells slots) (hlk : meth.locks = false) (eT : T.heap = h) {v : Option Value} (hv : meth.sig.returnType = none → v = none) (hc : cells ≤ kc) (hs : slots ≤ ks) (hq : Q v h locs) {U : State}
    (hst : ∀ fs, (∀ (f : JFrame) (acts : List Action), f.method = m → f.locked = none → f.entered = [] → (doReturn e (T.setTop f) acts v).1 = T.setFrames fs) → Steps p.tables e below U (T.setFrames fs)) : own_Go p e below s Q kc ks U := by
  obtain ⟨fs, hr, hrun, hended, hW, hsame⟩ := X.leave (v := v) hv hlk
  refine ⟨_, _, hst fs hr, hrun, hended, v, locs, rfl, ?_, ⟨v, rfl⟩, hW, hsame.mono hc hs⟩
  show Q v T.heap locs
  rw [eT]; exact hq
theorem own_retN (X : Stand p l e R s m args below meth c T locs cells slots) (hx : p.tables.exec = Jvm.exec) (hlk : meth.locks = false) (eT : T.heap = h) {pc : Nat} {Ls : Array Slot} {z : Int32} {t : FieldType} {rest : List Value} (hret : meth.sig.returnType = some t) (ht : t = .boolean ∨ t = .byte ∨ t = .char ∨ t = .short)
    (hd : decode c.code pc = .ok (.ireturn, 1)) (hc : cells ≤ kc) (hs : slots ≤ ks) (hq : Q (some (.int (nar t z))) h locs) : own_Go p e below s Q kc ks (T.setTop (mkF m pc Ls (.int z :: rest))) :=
  own_end X hlk eT (fun q => by rw [hret] at q; cases q) hc hs hq fun fs hr => retN X hx hret ht hd hr
theorem own_retI (X : Stand p l e R s m args below meth c T locs cells slots) (hx : p.tables.exec = Jvm.exec) (hlk : meth.locks = false) (eT : T.heap = h) {pc : Nat} {Ls : Array Slot} {z : Int32} {rest : List Value} (hret : meth.sig.returnType = some .int)
    (hd : decode c.code pc = .ok (.ireturn, 1)) (hc : cells ≤ kc) (hs : slots ≤ ks) (hq : Q (some (.int z)) h locs) : own_Go p e below s Q kc ks (T.setTop (mkF m pc Ls (.int z :: rest))) :=
  own_end X hlk eT (fun q => by rw [hret] at q; cases q) hc hs hq fun fs hr => retOut X hx hret rfl (Or.inl ⟨rfl, Or.inl rfl, z, rfl⟩) hd hr
theorem own_retJ (X : Stand p l e R s m args below meth c T locs cells slots) (hx : p.tables.exec = Jvm.exec) (hlk : meth.locks = false) (eT : T.heap = h) {pc : Nat} {Ls : Array Slot} {z : Int64} {rest : List Value} (hret : meth.sig.returnType = some .long)
    (hd : decode c.code pc = .ok (.lreturn, 1)) (hc : cells ≤ kc) (hs : slots ≤ ks) (hq : Q (some (.long z)) h locs) : own_Go p e below s Q kc ks (T.setTop (mkF m pc Ls (.long z :: rest))) :=
  own_end X hlk eT (fun q => by rw [hret] at q; cases q) hc hs hq fun fs hr => retOut X hx hret rfl (Or.inr (Or.inl ⟨rfl, rfl, z, rfl⟩)) hd hr
theorem own_retA (X : Stand p l e R s m args below meth c T locs cells slots) (hx : p.tables.exec = Jvm.exec) (hlk : meth.locks = false) (eT : T.heap = h) {pc : Nat} {Ls : Array Slot} {v : Value} {t : FieldType} {rest : List Value} (hret : meth.sig.returnType = some t) (ht : t.isReference = true) (hv : v.isRef = true)
    (hd : decode c.code pc = .ok (.areturn, 1)) (hc : cells ≤ kc) (hs : slots ≤ ks) (hq : Q (some v) h locs) : own_Go p e below s Q kc ks (T.setTop (mkF m pc Ls (v :: rest))) :=
  own_end X hlk eT (fun q => by rw [hret] at q; cases q) hc hs hq fun fs hr => retOut X hx hret (by cases t <;> first | (cases ht; done) | (rcases ref_cases hv with rfl | ⟨_, rfl⟩ <;> rfl)) (Or.inr (Or.inr (Or.inr (Or.inr ⟨rfl, ht, hv⟩)))) hd hr
theorem own_retV (X : Stand p l e R s m args below meth c T locs cells slots) (hx : p.tables.exec = Jvm.exec) (hlk : meth.locks = false) (eT : T.heap = h) {pc : Nat} {Ls : Array Slot} (hret : meth.sig.returnType = none)
    (hd : decode c.code pc = .ok (.return_, 1)) (hc : cells ≤ kc) (hs : slots ≤ ks) (hq : Q none h locs) : own_Go p e below s Q kc ks (T.setTop (mkF m pc Ls [])) :=
  own_end X hlk eT (fun _ => rfl) hc hs hq fun fs hr => X.returnOut hx hret hd hr
/-- a body's contract out of its walk -/
theorem own_met {y : MethodName} {bytes : ByteArray} {maxL : Nat} {ret : Option FieldType} {ws : List Jvm.Cond} {rm : Room} {as' : Array Value} (kc ks : Nat) (hpl : plainFor y = true)
    (body : ∀ (p : Program) (e : Env) (s : State) (m : MethodId) (below : List Frame) (meth : Method) (c : Code) (T : State), Stand p l e rm s m as' below meth c T [] 0 0 → p.tables.exec = Jvm.exec → c.code = bytes → c.maxLocals = maxL → meth.sig.returnType = ret → meth.locks = false → Z.Warmed39 s.vm → s.vm.findClass y.cls = some m.cls → meth.name = y.name → T.heap = h →
      own_Go p e below s Q kc ks (T.setTop (entryFrame m as' maxL))) :
    MetFree l y (head1 (Jvm.Cond.code y bytes maxL ret :: ws) rm) (fun a U => a = as' ∧ Z.Warmed39 U.vm ∧ U.heap = h) (fun _ _ _ _ _ => True) (fun _ U o U' => ∃ v L, o = .returned v ∧ Q v U'.heap L ∧ FrameEnd U o U' L kc ks) := by
  refine MetFree.of_bodySF hpl hisR ?_
  intro p e s m args below meth c s₁ Bd hml hP hK
  obtain ⟨rfl, hZ, hh⟩ := hP
  obtain ⟨t, o, h1, h2, h3, h4⟩ := body p e s m below meth c s₁ (Stand.of_body Bd) Bd.exec Bd.bytes hml Bd.returns Bd.notSynchronized hZ (findClass_of_methodNamed Bd.named) (name_of_methodNamed Bd.named Bd.method).1 (by rw [← hh, Bd.state]; rfl)
  exact ⟨t, o, h1, h2, h3, h4⟩
abbrev own_Met (l : Launch) (Z : State) (h : Heap) (y : MethodName) (bytes : ByteArray) (maxL : Nat) (ret : Option FieldType) (rm : Room) (as' : Array Value) (Q : Option Value → Heap → List Loc → Prop) : Prop :=
  MetFree l y (head1 [Jvm.Cond.code y bytes maxL ret] rm) (fun a U => a = as' ∧ Z.Warmed39 U.vm ∧ U.heap = h) (fun _ _ _ _ _ => True) (fun _ U o U' => ∃ v L, o = .returned v ∧ Q v U'.heap L ∧ FrameEnd U o U' L rm.cells rm.slots)
theorem own_callS {y : MethodName} {bytes : ByteArray} {maxL : Nat} {ret : Option FieldType} {rm : Room} {as' : Array Value} {own : String} {index : Nat} (X : Stand p l e R s m args below meth c T locs cells slots) (hx : p.tables.exec = Jvm.exec) (hZ : Z.Warmed39 s.vm) (hown : s.vm.findClass own = some m.cls)
    (w1 : (Jvm.Cond.methodLink own index y).before a0 Z = true) (w2 : (Jvm.Cond.static y).before a0 Z = true) (w3 : (Jvm.Cond.initialized y.cls).before a0 Z = true) (w4 : (Jvm.Cond.code y bytes maxL ret).before a0 Z = true) (hM : own_Met l Z h y bytes maxL ret rm as' Q) (W : Nat) (nc ns : Nat) (hnc : rm.cells = nc) (hns : rm.slots = ns)
    (hy : y.cls ≠ "java/lang/invoke/MethodHandle" ∧ y.cls ≠ "java/lang/invoke/VarHandle") (hf : rm.frames + 1 ≤ R.frames) (hl : W + (maxL + 11) + rm.locals ≤ R.locals) (hc : cells + nc ≤ R.cells) (hs : slots + ns ≤ R.slots) (eT : T.heap = h) {g : JFrame} (hg : g.method = m) (hsize : g.locals.size = c.maxLocals)
    (argsL rest : List Value) (hlen : ∀ sig, parseMethodDescriptor y.desc = some sig → argsL.length = sig.parameters.length) (hstack : g.stack = argsL.reverse ++ rest) (has : argsL.toArray = as') (hW : 2 * g.monitorRoom + (rest.map fun v => v.category).sum ≤ W) (hdg : decode c.code g.pc = .ok (.invokestatic index, 3)) :
    ∃ v T' L, Stand p l e R s m args below meth c T' (locs ++ L) (cells + nc) (slots + ns) ∧ Q v T'.heap L ∧ ∀ target, Steps p.tables e below (T'.setTop { g with pc := g.pc + 3, stack := v.toList ++ rest }) target → Steps p.tables e below (T.setTop g) target := by
  subst hnc hns
  obtain ⟨v, _, ⟨T', L', k', n'⟩, -, X', ⟨L, hQ, h1, h2, h3⟩, st⟩ := Jvm.LawKit.callS X hx hown (mvT hZ w1) (mvT hZ w2) (mvT hZ w3) (mvT hZ w4) hy (backOf (W := W) hM hZ w4 w3 hf hl) hg hsize hlen hstack hW hdg (fun _ _ => ⟨has, eT, hc, hs⟩)
  dsimp only [Pt.U, Pt.locs, Pt.cells, Pt.slots] at X' hQ h1 h2 h3 st
  subst h1 h2 h3
  exact ⟨v, T', L, X', hQ, st⟩
theorem own_callI {y : MethodName} {bytes : ByteArray} {maxL : Nat} {rm : Room} {as' : Array Value} {own : String} {index : Nat} (X : Stand p l e R s m args below meth c T locs cells slots) (hx : p.tables.exec = Jvm.exec) (hZ : Z.Warmed39 s.vm) (hown : s.vm.findClass own = some m.cls)
    (w1 : (Jvm.Cond.methodLink own index y).before a0 Z = true) (w2 : (Jvm.Cond.instanceMethod y).before a0 Z = true) (w3 : (Jvm.Cond.initialized y.cls).before a0 Z = true) (w4 : (Jvm.Cond.code y bytes maxL none).before a0 Z = true) (hM : own_Met l Z h y bytes maxL none rm as' Q) (W : Nat) (nc ns : Nat) (hnc : rm.cells = nc) (hns : rm.slots = ns) (hy1 : y.name = "<init>")
    (hy : y.cls ≠ "java/lang/invoke/MethodHandle" ∧ y.cls ≠ "java/lang/invoke/VarHandle") (hf : rm.frames + 1 ≤ R.frames) (hl : W + (maxL + 11) + rm.locals ≤ R.locals) (hc : cells + nc ≤ R.cells) (hs : slots + ns ≤ R.slots) (eT : T.heap = h) {g : JFrame} (hg : g.method = m) (hsize : g.locals.size = c.maxLocals)
    (a : Addr) (argsL rest : List Value) (hlen : ∀ sig, parseMethodDescriptor y.desc = some sig → argsL.length = sig.parameters.length) (hstack : g.stack = argsL.reverse ++ .ref a :: rest) (has : (Value.ref a :: argsL).toArray = as') (hW : 2 * g.monitorRoom + (rest.map fun v => v.category).sum ≤ W) (hdg : decode c.code g.pc = .ok (.invokespecial index, 3)) :
    ∃ v T' L, Stand p l e R s m args below meth c T' (locs ++ L) (cells + nc) (slots + ns) ∧ Q v T'.heap L ∧ ∀ target, Steps p.tables e below (T'.setTop { g with pc := g.pc + 3, stack := v.toList ++ rest }) target → Steps p.tables e below (T.setTop g) target := by
  subst hnc hns
  obtain ⟨v, _, ⟨T', L', k', n'⟩, -, X', ⟨L, hQ, h1, h2, h3⟩, st⟩ := X.specialBack hx hy1 hown (mvT hZ w1) (mvT hZ w2) (mvT hZ w4) hy (backOf (W := W) hM hZ w4 w3 hf hl) hg hsize (Steps.refl _) (a := a) (argsL := argsL) (rest := rest) hlen hstack hW hdg (fun _ _ => ⟨has, eT, hc, hs⟩)
  dsimp only [Pt.U, Pt.locs, Pt.cells, Pt.slots] at X' hQ h1 h2 h3 st
  subst h1 h2 h3
  exact ⟨v, T', L, X', hQ, fun _ k => st.trans k⟩
theorem own_callV {y z : MethodName} {bytes : ByteArray} {maxL : Nat} {ret : Option FieldType} {rm : Room} {as' : Array Value} {own C : String} {index : Nat} (X : Stand p l e R s m args below meth c T locs cells slots) (hx : p.tables.exec = Jvm.exec) (hZ : Z.Warmed39 s.vm) (hown : s.vm.findClass own = some m.cls)
    (w1 : (Jvm.Cond.methodLink own index y).before a0 Z = true) (wd : (Jvm.Cond.declares y).before a0 Z = true) (nf : NotFace s y) (wsel : (Jvm.Cond.selects C y z).before a0 Z = true) (w2 : (Jvm.Cond.instanceMethod z).before a0 Z = true) (w3 : (Jvm.Cond.initialized z.cls).before a0 Z = true) (w4 : (Jvm.Cond.code z bytes maxL ret).before a0 Z = true) (hM : own_Met l Z h z bytes maxL ret rm as' Q) (W : Nat) (nc ns : Nat) (hnc : rm.cells = nc) (hns : rm.slots = ns)
    (hy : y.cls ≠ "java/lang/invoke/MethodHandle" ∧ y.cls ≠ "java/lang/invoke/VarHandle") (hf : rm.frames + 1 ≤ R.frames) (hl : W + (maxL + 11) + rm.locals ≤ R.locals) (hc : cells + nc ≤ R.cells) (hs : slots + ns ≤ R.slots) (eT : T.heap = h) {a : Addr} (E : Exa Z h a C) {g : JFrame} (hg : g.method = m) (hsize : g.locals.size = c.maxLocals)
    (argsL rest : List Value) (hlen : ∀ sig, parseMethodDescriptor y.desc = some sig → argsL.length = sig.parameters.length) (hstack : g.stack = argsL.reverse ++ .ref a :: rest) (has : (Value.ref a :: argsL).toArray = as') (hW : 2 * g.monitorRoom + (rest.map fun v => v.category).sum ≤ W) (hdg : decode c.code g.pc = .ok (.invokevirtual index, 3)) :
    ∃ v T' L, Stand p l e R s m args below meth c T' (locs ++ L) (cells + nc) (slots + ns) ∧ Q v T'.heap L ∧ ∀ target, Steps p.tables e below (T'.setTop { g with pc := g.pc + 3, stack := v.toList ++ rest }) target → Steps p.tables e below (T.setTop g) target := by
  subst hnc hns
  obtain ⟨cq, kq, qa, qb, qc⟩ := isOf hZ eT E
  obtain ⟨v, _, ⟨T', L', k', n'⟩, -, X', ⟨L, hQ, h1, h2, h3⟩, st⟩ := X.virtualBack hx hown (mvT hZ w1) (mvT hZ wd) nf (mvT hZ wsel) (mvT hZ w2) hy (backOf (W := W) hM hZ w4 w3 hf hl) qa qc hg hsize (Steps.refl _) (argsL := argsL) (rest := rest) hlen hstack hW hdg (fun _ _ => ⟨has, eT, hc, hs⟩)
  dsimp only [Pt.U, Pt.locs, Pt.cells, Pt.slots] at X' hQ h1 h2 h3 st
  subst h1 h2 h3
  exact ⟨v, T', L, X', hQ, fun _ k => st.trans k⟩
theorem own_callP {y : MethodName} {bytes : ByteArray} {maxL : Nat} {ret : Option FieldType} {rm : Room} {as' : Array Value} {own C : String} {index : Nat} (X : Stand p l e R s m args below meth c T locs cells slots) (hx : p.tables.exec = Jvm.exec) (hZ : Z.Warmed39 s.vm) (hown : s.vm.findClass own = some m.cls)
    (w1 : (Jvm.Cond.methodLink own index y).before a0 Z = true) (w2 : (Jvm.Cond.instanceMethod y).before a0 Z = true) (wsel : (Jvm.Cond.selects y.cls y y).before a0 Z = true) (wp : (Jvm.Cond.privateMethod y).before a0 Z = true) (w3 : (Jvm.Cond.initialized y.cls).before a0 Z = true) (w4 : (Jvm.Cond.code y bytes maxL ret).before a0 Z = true) (hM : own_Met l Z h y bytes maxL ret rm as' Q) (W : Nat) (nc ns : Nat) (hnc : rm.cells = nc) (hns : rm.slots = ns)
    (hy : y.cls ≠ "java/lang/invoke/MethodHandle" ∧ y.cls ≠ "java/lang/invoke/VarHandle") (hf : rm.frames + 1 ≤ R.frames) (hl : W + (maxL + 11) + rm.locals ≤ R.locals) (hc : cells + nc ≤ R.cells) (hs : slots + ns ≤ R.slots) (eT : T.heap = h) {a : Addr} (E : Exa Z h a C) {g : JFrame} (hg : g.method = m) (hsize : g.locals.size = c.maxLocals)
    (argsL rest : List Value) (hlen : ∀ sig, parseMethodDescriptor y.desc = some sig → argsL.length = sig.parameters.length) (hstack : g.stack = argsL.reverse ++ .ref a :: rest) (has : (Value.ref a :: argsL).toArray = as') (hW : 2 * g.monitorRoom + (rest.map fun v => v.category).sum ≤ W) (hdg : decode c.code g.pc = .ok (.invokevirtual index, 3)) :
    ∃ v T' L, Stand p l e R s m args below meth c T' (locs ++ L) (cells + nc) (slots + ns) ∧ Q v T'.heap L ∧ ∀ target, Steps p.tables e below (T'.setTop { g with pc := g.pc + 3, stack := v.toList ++ rest }) target → Steps p.tables e below (T.setTop g) target := by
  subst hnc hns
  obtain ⟨cq, q1, q2⟩ := E.cell
  obtain ⟨v, _, ⟨T', L', k', n'⟩, -, X', ⟨L, hQ, h1, h2, h3⟩, st⟩ := X.privateBack hx hown (mvT hZ w1) (mvT hZ w2) (mvT hZ wsel) (Cond.privateMethod_at (mvP hZ wp (args := #[]))) (mvT hZ w4) hy (backOf (W := W) hM hZ w4 w3 hf hl) hg hsize (Steps.refl _) (a := a) (by rw [eT]; exact q1) q2 (argsL := argsL) (rest := rest) hlen hstack hW hdg (fun _ _ => ⟨has, eT, hc, hs⟩)
  dsimp only [Pt.U, Pt.locs, Pt.cells, Pt.slots] at X' hQ h1 h2 h3 st
  subst h1 h2 h3
  exact ⟨v, T', L, X', hQ, fun _ k => st.trans k⟩
theorem own_callF {xi y : MethodName} {bytes : ByteArray} {maxL : Nat} {ret : Option FieldType} {rm : Room} {as' : Array Value} {own C : String} {index count : Nat} (X : Stand p l e R s m args below meth c T locs cells slots) (hx : p.tables.exec = Jvm.exec) (hZ : Z.Warmed39 s.vm) (hown : s.vm.findClass own = some m.cls)
    (w1 : (Jvm.Cond.methodLink own index xi).before a0 Z = true) (wd : (Jvm.Cond.declares xi).before a0 Z = true) (wfa : (Jvm.Cond.interfaceMethod xi.cls xi.cls xi.name xi.desc).before a0 Z = true) (wsel : (Jvm.Cond.selects C xi y).before a0 Z = true) (w2 : (Jvm.Cond.instanceMethod y).before a0 Z = true) (wp : (Jvm.Cond.publicMethod y).before a0 Z = true) (wu : (Jvm.Cond.unhidden C xi.name xi.desc).before a0 Z = true) (wk : (Jvm.Cond.castable C xi.cls).before a0 Z = true) (w3 : (Jvm.Cond.initialized y.cls).before a0 Z = true) (w4 : (Jvm.Cond.code y bytes maxL ret).before a0 Z = true) (hfk : ((Jvm.Cond.interfaceMethod xi.cls xi.cls xi.name xi.desc).onTables && (Jvm.Cond.interfaceMethod xi.cls xi.cls xi.name xi.desc).keepsFace) = true) (hM : own_Met l Z h y bytes maxL ret rm as' Q) (W : Nat) (nc ns : Nat) (hnc : rm.cells = nc) (hns : rm.slots = ns)
    (hy : xi.cls ≠ "java/lang/invoke/MethodHandle" ∧ xi.cls ≠ "java/lang/invoke/VarHandle") (hf : rm.frames + 1 ≤ R.frames) (hl : W + (maxL + 11) + rm.locals ≤ R.locals) (hc : cells + nc ≤ R.cells) (hs : slots + ns ≤ R.slots) (eT : T.heap = h) {a : Addr} (E : Exa Z h a C) {g : JFrame} (hg : g.method = m) (hsize : g.locals.size = c.maxLocals)
    (argsL rest : List Value) (hlen : ∀ sig, parseMethodDescriptor xi.desc = some sig → argsL.length = sig.parameters.length) (hstack : g.stack = argsL.reverse ++ .ref a :: rest) (has : (Value.ref a :: argsL).toArray = as') (hW : 2 * g.monitorRoom + (rest.map fun v => v.category).sum ≤ W) (hdg : decode c.code g.pc = .ok (.invokeinterface index count, 5)) :
    ∃ v T' L, Stand p l e R s m args below meth c T' (locs ++ L) (cells + nc) (slots + ns) ∧ Q v T'.heap L ∧ ∀ target, Steps p.tables e below (T'.setTop { g with pc := g.pc + 5, stack := v.toList ++ rest }) target → Steps p.tables e below (T.setTop g) target := by
  subst hnc hns
  obtain ⟨cq, kq, qa, qb, qc⟩ := isOf hZ eT E
  obtain ⟨v, _, ⟨T', L', k', n'⟩, -, X', ⟨L, hQ, h1, h2, h3⟩, st⟩ := X.interfaceBack hx hown (mvT hZ w1) (mvT hZ wd) (mvT hZ wfa hfk) (mvT hZ wsel) (mvT hZ w2) (mvT hZ wp) (mvT hZ wu) (mvT hZ wk) hy (backOf (W := W) hM hZ w4 w3 hf hl) qa qb qc hg hsize (Steps.refl _) (argsL := argsL) (rest := rest) hlen hstack hW hdg (fun _ _ => ⟨has, eT, hc, hs⟩)
  dsimp only [Pt.U, Pt.locs, Pt.cells, Pt.slots] at X' hQ h1 h2 h3 st
  subst h1 h2 h3
  exact ⟨v, T', L, X', hQ, fun _ k => st.trans k⟩
theorem own_callU {y z : MethodName} {bytes : ByteArray} {maxL : Nat} {ret : Option FieldType} {rm : Room} {as' : Array Value} {own owner C : String} {index : Nat} (X : Stand p l e R s m args below meth c T locs cells slots) (hx : p.tables.exec = Jvm.exec) (hZ : Z.Warmed39 s.vm) (hown : s.vm.findClass own = some m.cls)
    (w1 : (Jvm.Cond.methodLink own index y).before a0 Z = true) (wsm : (Jvm.Cond.sameMethod y.cls owner y.name y.desc).before a0 Z = true) (wd : (Jvm.Cond.declares ⟨owner, y.name, y.desc⟩).before a0 Z = true) (wsel : (Jvm.Cond.selects C y z).before a0 Z = true) (w2 : (Jvm.Cond.instanceMethod z).before a0 Z = true) (w3 : (Jvm.Cond.initialized z.cls).before a0 Z = true) (w4 : (Jvm.Cond.code z bytes maxL ret).before a0 Z = true) (hM : own_Met l Z h z bytes maxL ret rm as' Q) (W : Nat) (nc ns : Nat) (hnc : rm.cells = nc) (hns : rm.slots = ns)
    (howner : owner ≠ "java/lang/invoke/MethodHandle" ∧ owner ≠ "java/lang/invoke/VarHandle") (hf : rm.frames + 1 ≤ R.frames) (hl : W + (maxL + 11) + rm.locals ≤ R.locals) (hc : cells + nc ≤ R.cells) (hs : slots + ns ≤ R.slots) (eT : T.heap = h) {a : Addr} (E : Exa Z h a C) {g : JFrame} (hg : g.method = m) (hsize : g.locals.size = c.maxLocals)
    (argsL rest : List Value) (hlen : ∀ sig, parseMethodDescriptor y.desc = some sig → argsL.length = sig.parameters.length) (hstack : g.stack = argsL.reverse ++ .ref a :: rest) (has : (Value.ref a :: argsL).toArray = as') (hW : 2 * g.monitorRoom + (rest.map fun v => v.category).sum ≤ W) (hdg : decode c.code g.pc = .ok (.invokevirtual index, 3)) :
    ∃ v T' L, Stand p l e R s m args below meth c T' (locs ++ L) (cells + nc) (slots + ns) ∧ Q v T'.heap L ∧ ∀ target, Steps p.tables e below (T'.setTop { g with pc := g.pc + 3, stack := v.toList ++ rest }) target → Steps p.tables e below (T.setTop g) target := by
  subst hnc hns
  obtain ⟨cq, kq, qa, qb, qc⟩ := isOf hZ eT E
  obtain ⟨v, _, ⟨T', L', k', n'⟩, -, X', ⟨L, hQ, h1, h2, h3⟩, st⟩ := X.virtualBackUp hx hown (mvT hZ w1) (mvT hZ wsm) (mvT hZ wd) howner (mvT hZ wsel) (mvT hZ w2) (backOf (W := W) hM hZ w4 w3 hf hl) qa qc hg hsize (Steps.refl _) (argsL := argsL) (rest := rest) hlen hstack hW hdg (fun _ _ => ⟨has, eT, hc, hs⟩)
  dsimp only [Pt.U, Pt.locs, Pt.cells, Pt.slots] at X' hQ h1 h2 h3 st
  subst h1 h2 h3
  exact ⟨v, T', L, X', hQ, fun _ k => st.trans k⟩
/-- the start's heap stands in h unchanged -/
theorem own_oldExt {h' : Heap} (O : Ext Z.heap h) (E : Ext h h') : Ext Z.heap h' := ⟨Nat.le_trans O.1 E.1, fun x c q => E.2 x c (O.2 x c q)⟩
theorem own_oldKeep {h' : Heap} {ws : List Addr} (O : Ext Z.heap h) (K : Keep h h' ws) (q : ∀ x ∈ ws, Z.heap.size ≤ x) : Ext Z.heap h' :=
  ⟨Nat.le_trans O.1 K.1, fun x c r => K.2.1 x c (O.2 x c r) fun z => absurd (Array.getElem?_eq_some_iff.mp r).1 (Nat.not_lt.mpr (q x z))⟩
theorem own_oldWr {h' : Heap} {a : Addr} {sl : Nat} {v : Value} (O : Ext Z.heap h) (W : Wr h h' a sl v) (q : Z.heap.size ≤ a) : Ext Z.heap h' := own_oldKeep O (Keep.of_wr W) (allS q all0)
theorem own_keepTrans {h0 h' : Heap} {ws : List Addr} (K : Keep h0 h ws) (K' : Keep h h' []) : Keep h0 h' ws := K.trans K' fun x q => nomatch q
theorem own_insKeep {h' : Heap} {ws : List Addr} {a : Addr} {C : String} {b : Bool} (F : Ins Z h a C b) (K : Keep h h' ws) : Ins Z h' a C b := by
  obtain ⟨cell, cT, h1, h2, h3⟩ := F
  obtain ⟨c', q1, q2, q3, -⟩ := K.2.2 a cell h1
  exact ⟨c', cT, q1, h2, by rw [q2, q3]; exact h3⟩
theorem own_cat1 {v : Value} (r : v.isRef = true) : v.category = 1 := by cases v <;> simp [Value.isRef, Value.category] at r ⊢
theorem own_fitsRef {v : Value} (t : FieldType) (r : v.isRef = true) (ht : t.isReference = true) : fits t v = true := by
  cases t <;> first | (cases ht; done) | (rcases ref_cases r with rfl | ⟨_, rfl⟩ <;> rfl)
theorem own_narRef {v : Value} (t : FieldType) (r : v.isRef = true) (ht : t.isReference = true) : narrow t v = v := by
  cases t <;> first | (cases ht; done) | (rcases ref_cases r with rfl | ⟨_, rfl⟩ <;> rfl)
theorem own_keepSub {h0 : Heap} {ws ws' : List Addr} (K : Keep h0 h ws) (q : ∀ x ∈ ws, x ∈ ws') : Keep h0 h ws' := ⟨K.1, fun x c r z => K.2.1 x c r fun u => z (q x u), K.2.2⟩
theorem own_neTy {a b : Addr} {k k' : ClassId} {ty ty' : FieldType} {z z' : Int32} {vs vs' : List Value} {d d' : Value} (F : Arv Z h a k ty z vs d) (G : Arv Z h b k' ty' z' vs' d') (hn : ty ≠ ty') : a ≠ b := by
  rintro rfl
  obtain ⟨c, A, -⟩ := F
  obtain ⟨c', A', -⟩ := G
  cases A.1.symm.trans A'.1
  obtain ⟨-, k1, q1, cm1, r1⟩ := A.2.1
  obtain ⟨-, k2, q2, cm2, r2⟩ := A'.2.1
  cases q1.symm.trans q2
  rw [r1] at r2
  cases r2
  exact hn rfl
theorem own_catR (a : Addr) : (Value.ref a).category = 1 := rfl
theorem own_catN : Value.null.category = 1 := rfl
theorem own_catI (a : Int32) : (Value.int a).category = 1 := rfl
theorem own_catJ (a : Int64) : (Value.long a).category = 2 := rfl
end OwnKit
theorem own_pd_0 : parseMethodDescriptor "(Ljava/lang/Object;)Ljava/lang/Object;" = some ⟨[(.object "java/lang/Object")], some (.object "java/lang/Object")⟩ := by decide +kernel
theorem own_pd_1 : parseMethodDescriptor "(Ljava/lang/Object;)V" = some ⟨[(.object "java/lang/Object")], none⟩ := by decide +kernel
theorem own_pd_2 : parseMethodDescriptor "(Ljava/lang/Object;)Ljava/util/Optional;" = some ⟨[(.object "java/lang/Object")], some (.object "java/util/Optional")⟩ := by decide +kernel
theorem own_pd_3 : parseMethodDescriptor "()Ljava/util/Optional;" = some ⟨[], some (.object "java/util/Optional")⟩ := by decide +kernel
theorem own_pd_4 : parseMethodDescriptor "(I)Ljava/util/Optional;" = some ⟨[.int], some (.object "java/util/Optional")⟩ := by decide +kernel
theorem own_pd_5 : parseMethodDescriptor "(I)I" = some ⟨[.int], some .int⟩ := by decide +kernel
theorem own_pn_0 : plainName "java/util/Objects" = true := by first | (simp [plainName, overriddenIn]; done) | decide +kernel
theorem own_pn_1 : plainName "java/util/Optional" = true := by first | (simp [plainName, overriddenIn]; done) | decide +kernel
theorem own_pn_2 : plainName "com/example/ibex/ibex/model/ValueKindOfPinLaw" = true := by first | (simp [plainName, overriddenIn]; done) | decide +kernel
theorem own_pn_3 : plainName "com/example/ibex/ibex/model/ValueKind" = true := by first | (simp [plainName, overriddenIn]; done) | decide +kernel
theorem own_neOrd {args : Array Value} {s : State} {t1 t2 : Term} {wx wy : Addr} {C f : String} (n3 : (Jvm.Cond.eq (Term.field t1 C f "I") (Term.int 0)).value args s none s [] = some true) (n4 : (Jvm.Cond.eq (Term.field t2 C f "I") (Term.int 1)).value args s none s [] = some true)
    (e1 : t1.eval args s none [] s = some (.ref wx)) (e2 : t2.eval args s none [] s = some (.ref wy)) : wx ≠ wy := by
  rintro rfl
  have h1 := (fld_at e1).symm.trans (eqv_i (Term.int_eval 0) n3)
  have h2 := (fld_at e2).symm.trans (eqv_i (Term.int_eval 1) n4)
  rw [h1] at h2
  revert h2; decide
def own_isStr (t : Int32) : Prop := t = (1 : Int32) ∨ t = (12 : Int32) ∨ t = (-1 : Int32) ∨ t = (-15 : Int32) ∨ t = (-9 : Int32) ∨ t = (-16 : Int32)
def own_isNum (t : Int32) : Prop := t = (-6 : Int32) ∨ t = (5 : Int32) ∨ t = (4 : Int32) ∨ t = (-5 : Int32) ∨ t = (3 : Int32) ∨ t = (2 : Int32) ∨ t = (7 : Int32) ∨ t = (6 : Int32) ∨ t = (8 : Int32)
theorem own_getI (vs : List Int32) (i : Nat) : (vs.map Value.int).getD i (.int 0) = .int (vs.getD i 0) := by
  rw [List.getD_eq_getElem?_getD, List.getD_eq_getElem?_getD, List.getElem?_map]
  cases vs[i]? <;> rfl
theorem own_and31 (x : Int32) : ¬ (x &&& (31 : Int32)) < 0 ∧ (x &&& (31 : Int32)) < (32 : Int32) := by
  have h := c_and x 31 (by decide)
  have h1 : (31 : Int32).toInt = 31 := by decide
  have h2 : (32 : Int32).toInt = 32 := by decide
  have h3 : (0 : Int32).toInt = 0 := by decide
  rw [Int32.lt_iff_toInt_lt, Int32.lt_iff_toInt_lt]
  omega
def own_offs : Array Int := #[131, 131, 149, 149, 149, 149, 149, 131, 149, 149, 140, 140, 149, 149, 149, 131, 149, 131, 140, 140, 140, 140, 140, 140, 140, 149, 149, 149, 131]
theorem own_sw1 {t : Int32} (h : own_isStr t) : ¬ (t.toInt < -16 ∨ t.toInt > 12) ∧ own_offs[(t.toInt - (-16)).toNat]? = some 131 := by
  rcases h with rfl | rfl | rfl | rfl | rfl | rfl <;> decide
theorem own_sw2 {t : Int32} (h : own_isNum t) : ¬ (t.toInt < -16 ∨ t.toInt > 12) ∧ own_offs[(t.toInt - (-16)).toNat]? = some 140 := by
  rcases h with rfl | rfl | rfl | rfl | rfl | rfl | rfl | rfl | rfl <;> decide
theorem own_sw3 {t : Int32} (h1 : ¬ own_isStr t) (h2 : ¬ own_isNum t) (h : ¬ (t.toInt < -16 ∨ t.toInt > 12)) : own_offs[(t.toInt - (-16)).toNat]? = some 149 := by
  have hk : ∀ k : Int32, t.toInt = k.toInt → t = k := fun k q => Int32.toInt_inj.mp q
  have hd : t.toInt = -16 ∨ t.toInt = -15 ∨ t.toInt = -14 ∨ t.toInt = -13 ∨ t.toInt = -12 ∨ t.toInt = -11 ∨ t.toInt = -10 ∨ t.toInt = -9 ∨ t.toInt = -8 ∨ t.toInt = -7 ∨ t.toInt = -6 ∨ t.toInt = -5 ∨ t.toInt = -4 ∨ t.toInt = -3 ∨ t.toInt = -2 ∨ t.toInt = -1 ∨ t.toInt = 0 ∨ t.toInt = 1 ∨ t.toInt = 2 ∨ t.toInt = 3 ∨ t.toInt = 4 ∨ t.toInt = 5 ∨ t.toInt = 6 ∨ t.toInt = 7 ∨ t.toInt = 8 ∨ t.toInt = 9 ∨ t.toInt = 10 ∨ t.toInt = 11 ∨ t.toInt = 12 := by omega
  rcases hd with hd | hd | hd | hd | hd | hd | hd | hd | hd | hd | hd | hd | hd | hd | hd | hd | hd | hd | hd | hd | hd | hd | hd | hd | hd | hd | hd | hd | hd
  all_goals first
    | (rw [hd]; decide)
    | (exfalso; first | exact h1 (Or.inl (hk _ hd)) | exact h1 (Or.inr (Or.inl (hk _ hd))) | exact h1 (Or.inr (Or.inr (Or.inl (hk _ hd)))) | exact h1 (Or.inr (Or.inr (Or.inr (Or.inl (hk _ hd))))) | exact h1 (Or.inr (Or.inr (Or.inr (Or.inr (Or.inl (hk _ hd)))))) | exact h1 (Or.inr (Or.inr (Or.inr (Or.inr (Or.inr (hk _ hd)))))) | exact h2 (Or.inl (hk _ hd)) | exact h2 (Or.inr (Or.inl (hk _ hd))) | exact h2 (Or.inr (Or.inr (Or.inl (hk _ hd)))) | exact h2 (Or.inr (Or.inr (Or.inr (Or.inl (hk _ hd))))) | exact h2 (Or.inr (Or.inr (Or.inr (Or.inr (Or.inl (hk _ hd)))))) | exact h2 (Or.inr (Or.inr (Or.inr (Or.inr (Or.inr (Or.inl (hk _ hd))))))) | exact h2 (Or.inr (Or.inr (Or.inr (Or.inr (Or.inr (Or.inr (Or.inl (hk _ hd)))))))) | exact h2 (Or.inr (Or.inr (Or.inr (Or.inr (Or.inr (Or.inr (Or.inr (Or.inl (hk _ hd))))))))) | exact h2 (Or.inr (Or.inr (Or.inr (Or.inr (Or.inr (Or.inr (Or.inr (Or.inr (hk _ hd))))))))))
theorem own_swc (t : Int32) : (own_isStr t ∧ ¬ (t.toInt < -16 ∨ t.toInt > 12) ∧ own_offs[(t.toInt - (-16)).toNat]? = some 131) ∨ (¬ own_isStr t ∧ own_isNum t ∧ ¬ (t.toInt < -16 ∨ t.toInt > 12) ∧ own_offs[(t.toInt - (-16)).toNat]? = some 140)
    ∨ (¬ own_isStr t ∧ ¬ own_isNum t ∧ ¬ (t.toInt < -16 ∨ t.toInt > 12) ∧ own_offs[(t.toInt - (-16)).toNat]? = some 149) ∨ (¬ own_isStr t ∧ ¬ own_isNum t ∧ (t.toInt < -16 ∨ t.toInt > 12)) := by
  by_cases h1 : own_isStr t
  · exact Or.inl ⟨h1, own_sw1 h1⟩
  by_cases h2 : own_isNum t
  · exact Or.inr (Or.inl ⟨h1, h2, own_sw2 h2⟩)
  by_cases h3 : t.toInt < -16 ∨ t.toInt > 12
  · exact Or.inr (Or.inr (Or.inr ⟨h1, h2, h3⟩))
  · exact Or.inr (Or.inr (Or.inl ⟨h1, h2, h3, own_sw3 h1 h2 h3⟩))
theorem d3_0 : decode jdk_31_method_10_code 0 = .ok (.aload_n 0, 1) := by decide +kernel
theorem d3_1 : decode jdk_31_method_10_code 1 = .ok (.ifnonnull 11, 3) := by decide +kernel
theorem d3_12 : decode jdk_31_method_10_code 12 = .ok (.aload_n 0, 1) := by decide +kernel
theorem d3_13 : decode jdk_31_method_10_code 13 = .ok (.areturn, 1) := by decide +kernel
def Q_rnn (Z : State) (wx : Addr) (wy : Addr) (wz : Addr) (a1 : Addr) (h0 : Heap) (v : Option Value) (h : Heap) (L : List Loc) : Prop := (v = some (.ref a1) ∧ Fr Z.heap.size L ∧ h = h0)
theorem ef_rnn (m : MethodId) (x0 : Addr) : entryFrame m #[(.ref x0)] 1 = mkF m 0 #[.val (.ref x0)] [] := by first | (simp [entryFrame, mkF, argsToLocals, Value.category]; done) | rfl
set_option maxRecDepth 65536 in
set_option maxHeartbeats 40000000 in
theorem rm_rnn (l : Launch) (Z : State) (a0 : Array Value) (hw : ∀ d ∈ tables_1, d.before a0 Z = true) {wx : Addr} {wy : Addr} {wz : Addr} (oA : Sta Z Z.heap "com/example/ibex/ibex/model/ValueKind" "STRING" "Lcom/example/ibex/ibex/model/ValueKind;" (.ref wx)) (oB : Sta Z Z.heap "com/example/ibex/ibex/model/ValueKind" "NUMBER" "Lcom/example/ibex/ibex/model/ValueKind;" (.ref wy)) (oE1 : Exa Z Z.heap wx "com/example/ibex/ibex/model/ValueKind") (oE2 : Exa Z Z.heap wy "com/example/ibex/ibex/model/ValueKind") (oNe : wx ≠ wy) (oM : Sta Z Z.heap "java/util/Optional" "EMPTY" "Ljava/util/Optional;" (.ref wz)) (oE3 : Exa Z Z.heap wz "java/util/Optional") (oF3 : Fld Z Z.heap wz "java/util/Optional" "value" "Ljava/lang/Object;" .null) (ws : List Jvm.Cond) (a1 : Addr) (h0 : Heap) (O0 : Ext Z.heap h0) :
    MetFree l (⟨"java/util/Objects", "requireNonNull", "(Ljava/lang/Object;)Ljava/lang/Object;"⟩ : MethodName) (head1 (Jvm.Cond.code (⟨"java/util/Objects", "requireNonNull", "(Ljava/lang/Object;)Ljava/lang/Object;"⟩ : MethodName) jdk_31_method_10_code 1 (some (.object "java/lang/Object")) :: ws) ({ frames := 0, cells := 0, slots := 0, locals := 0 } : Room)) (fun a U => a = #[(.ref a1)] ∧ Z.Warmed39 U.vm ∧ U.heap = h0) (fun _ _ _ _ _ => True) (fun _ U o U' => ∃ v L, o = .returned v ∧ (Q_rnn Z wx wy wz a1 h0) v U'.heap L ∧ FrameEnd U o U' L ({ frames := 0, cells := 0, slots := 0, locals := 0 } : Room).cells ({ frames := 0, cells := 0, slots := 0, locals := 0 } : Room).slots) := by
  refine own_met (Q := (Q_rnn Z wx wy wz a1 h0)) _ _ (plainFor_of_name own_pn_0) ?_
  intro p e s m below meth c T X0 hx hby hml hret hlk hZ hown hnm e0
  replace hown : s.vm.findClass "java/util/Objects" = some m.cls := hown
  replace hnm : meth.name = "requireNonNull" := hnm
  have hml : c.maxLocals = 1 := hml
  have N0 := Fr.nil Z.heap.size
  have K0 := Keep.refl h0 []
  refine own_go (fun _ k => castTop (ef_rnn m a1) k) ?_
  show own_Go p e below s _ _ _ (T.setTop (mkF m 0 #[.val (.ref a1)] []))
  refine own_go (fun _ k => XS.aloadN X0.here hx rfl (hb hby d3_0) rfl rfl k) ?_
  show own_Go p e below s _ _ _ (T.setTop (mkF m 1 #[.val (.ref a1)] [(.ref a1)]))
  refine own_go (fun _ k => XS.ifnonnullYes X0.here hx rfl (pc0 := 1) (pc' := 12) rfl (hb hby d3_1) rfl (by decide) (by decide) k) ?_
  show own_Go p e below s _ _ _ (T.setTop (mkF m 12 #[.val (.ref a1)] []))
  refine own_go (fun _ k => XS.aloadN X0.here hx rfl (hb hby d3_12) rfl rfl k) ?_
  show own_Go p e below s _ _ _ (T.setTop (mkF m 13 #[.val (.ref a1)] [(.ref a1)]))
  refine own_retA X0 hx hlk e0 hret rfl rfl (hb hby d3_13) (by show _ ≤ 0; omega) (by show _ ≤ 0; omega) ?_
  exact ⟨rfl, N0, rfl⟩
theorem d4_0 : decode jdk_32_method_2_code 0 = .ok (.aload_n 0, 1) := by decide +kernel
theorem d4_1 : decode jdk_32_method_2_code 1 = .ok (.invokespecial 7, 3) := by decide +kernel
theorem d4_4 : decode jdk_32_method_2_code 4 = .ok (.aload_n 0, 1) := by decide +kernel
theorem d4_5 : decode jdk_32_method_2_code 5 = .ok (.aload_n 1, 1) := by decide +kernel
theorem d4_6 : decode jdk_32_method_2_code 6 = .ok (.putfield 13, 3) := by decide +kernel
theorem d4_9 : decode jdk_32_method_2_code 9 = .ok (.return_, 1) := by decide +kernel
def Q_oinit (Z : State) (wx : Addr) (wy : Addr) (wz : Addr) (a1 : Addr) (a2 : Addr) (h0 : Heap) (v : Option Value) (h : Heap) (L : List Loc) : Prop := (v = none ∧ Fr Z.heap.size L ∧ Keep h0 h [a1] ∧ Exa Z h a1 "java/util/Optional" ∧ Fld Z h a1 "java/util/Optional" "value" "Ljava/lang/Object;" (.ref a2))
theorem ef_oinit (m : MethodId) (x0 : Addr) (x1 : Addr) : entryFrame m #[(.ref x0), (.ref x1)] 2 = mkF m 0 #[.val (.ref x0), .val (.ref x1)] [] := by first | (simp [entryFrame, mkF, argsToLocals, Value.category]; done) | rfl
set_option maxRecDepth 65536 in
set_option maxHeartbeats 40000000 in
theorem rm_oinit (l : Launch) (Z : State) (a0 : Array Value) (hw : ∀ d ∈ tables_1, d.before a0 Z = true) {wx : Addr} {wy : Addr} {wz : Addr} (oA : Sta Z Z.heap "com/example/ibex/ibex/model/ValueKind" "STRING" "Lcom/example/ibex/ibex/model/ValueKind;" (.ref wx)) (oB : Sta Z Z.heap "com/example/ibex/ibex/model/ValueKind" "NUMBER" "Lcom/example/ibex/ibex/model/ValueKind;" (.ref wy)) (oE1 : Exa Z Z.heap wx "com/example/ibex/ibex/model/ValueKind") (oE2 : Exa Z Z.heap wy "com/example/ibex/ibex/model/ValueKind") (oNe : wx ≠ wy) (oM : Sta Z Z.heap "java/util/Optional" "EMPTY" "Ljava/util/Optional;" (.ref wz)) (oE3 : Exa Z Z.heap wz "java/util/Optional") (oF3 : Fld Z Z.heap wz "java/util/Optional" "value" "Ljava/lang/Object;" .null) (ws : List Jvm.Cond) (a1 : Addr) (a2 : Addr) (h0 : Heap) (O0 : Ext Z.heap h0) (f_E_a1 : Exa Z h0 a1 "java/util/Optional") (f_F_a1_value : Fld Z h0 a1 "java/util/Optional" "value" "Ljava/lang/Object;" .null) (big_a1 : Z.heap.size ≤ a1) :
    MetFree l (⟨"java/util/Optional", "<init>", "(Ljava/lang/Object;)V"⟩ : MethodName) (head1 (Jvm.Cond.code (⟨"java/util/Optional", "<init>", "(Ljava/lang/Object;)V"⟩ : MethodName) jdk_32_method_2_code 2 none :: ws) ({ frames := 1, cells := 0, slots := 0, locals := 12 } : Room)) (fun a U => a = #[(.ref a1), (.ref a2)] ∧ Z.Warmed39 U.vm ∧ U.heap = h0) (fun _ _ _ _ _ => True) (fun _ U o U' => ∃ v L, o = .returned v ∧ (Q_oinit Z wx wy wz a1 a2 h0) v U'.heap L ∧ FrameEnd U o U' L ({ frames := 1, cells := 0, slots := 0, locals := 12 } : Room).cells ({ frames := 1, cells := 0, slots := 0, locals := 12 } : Room).slots) := by
  refine own_met (Q := (Q_oinit Z wx wy wz a1 a2 h0)) _ _ (plainFor_of_name own_pn_1) ?_
  intro p e s m below meth c T X0 hx hby hml hret hlk hZ hown hnm e0
  replace hown : s.vm.findClass "java/util/Optional" = some m.cls := hown
  replace hnm : meth.name = "<init>" := hnm
  have hml : c.maxLocals = 2 := hml
  have N0 := Fr.nil Z.heap.size
  have K0 := Keep.refl h0 [a1]
  refine own_go (fun _ k => castTop (ef_oinit m a1 a2) k) ?_
  show own_Go p e below s _ _ _ (T.setTop (mkF m 0 #[.val (.ref a1), .val (.ref a2)] []))
  refine own_go (fun _ k => XS.aloadN X0.here hx rfl (hb hby d4_0) rfl rfl k) ?_
  show own_Go p e below s _ _ _ (T.setTop (mkF m 1 #[.val (.ref a1), .val (.ref a2)] [(.ref a1)]))
  obtain ⟨T1, X1, e1, st1⟩ := initO X0 hx hZ hown (hw _ (List.mem_of_getElem? (i := 23) rfl)) (hw _ (List.mem_of_getElem? (i := 24) rfl)) (hw _ (List.mem_of_getElem? (i := 25) rfl)) e0 (g := (mkF m 1 #[.val (.ref a1), .val (.ref a2)] [(.ref a1)])) rfl (by rw [hml]; rfl) rfl (hb hby d4_1) (by decide) (W := 0) (by show 2 * 0 + _ ≤ _; exact Nat.le_of_eq rfl) (by decide)
  refine own_go st1 ?_
  show own_Go p e below s _ _ _ (T1.setTop (mkF m 4 #[.val (.ref a1), .val (.ref a2)] []))
  refine own_go (fun _ k => XS.aloadN X1.here hx rfl (hb hby d4_4) rfl rfl k) ?_
  show own_Go p e below s _ _ _ (T1.setTop (mkF m 5 #[.val (.ref a1), .val (.ref a2)] [(.ref a1)]))
  refine own_go (fun _ k => XS.aloadN X1.here hx rfl (hb hby d4_5) rfl rfl k) ?_
  show own_Go p e below s _ _ _ (T1.setTop (mkF m 6 #[.val (.ref a1), .val (.ref a2)] [(.ref a2), (.ref a1)]))
  obtain ⟨T2, h2, X2, e2, W2, st2⟩ := putF X1 hx hZ hown (host := "") (Or.inl (hw _ (List.mem_of_getElem? (i := 26) rfl))) Via.refl e1 f_F_a1_value f_E_a1 (Or.inr ⟨(hw _ (List.mem_of_getElem? (i := 27) rfl)), rfl, hnm⟩) (hw _ (List.mem_of_getElem? (i := 14) rfl)) (ty := (.object "java/lang/Object")) (by decide) rfl rfl (g := (mkF m 6 #[.val (.ref a1), .val (.ref a2)] [(.ref a2), (.ref a1)])) rfl rfl (hb hby d4_6)
  refine own_go st2 ?_
  have N3 := Fr.snoc X2 N0 big_a1
  have f4 : Exa Z h2 a1 "java/util/Optional" := f_E_a1.wr W2
  have f5 : Fld Z h2 a1 "java/util/Optional" "value" "Ljava/lang/Object;" (.ref a2) := f_F_a1_value.same W2
  have O6 := own_oldWr O0 W2 big_a1
  have K7 : Keep h0 h2 [a1] := K0.wr W2 (Or.inl (List.mem_of_getElem? (i := 0) rfl))
  show own_Go p e below s _ _ _ (T2.setTop (mkF m 9 #[.val (.ref a1), .val (.ref a2)] []))
  refine own_retV X2 hx hlk e2 hret (hb hby d4_9) (by show _ ≤ 0; omega) (by show _ ≤ 0; omega) ?_
  exact ⟨rfl, N3, K7, f4, f5⟩
theorem d2_0 : decode jdk_32_method_3_code 0 = .ok (.new 2, 3) := by decide +kernel
theorem d2_3 : decode jdk_32_method_3_code 3 = .ok (.dup, 1) := by decide +kernel
theorem d2_4 : decode jdk_32_method_3_code 4 = .ok (.aload_n 0, 1) := by decide +kernel
theorem d2_5 : decode jdk_32_method_3_code 5 = .ok (.invokestatic 17, 3) := by decide +kernel
theorem d2_8 : decode jdk_32_method_3_code 8 = .ok (.invokespecial 23, 3) := by decide +kernel
theorem d2_11 : decode jdk_32_method_3_code 11 = .ok (.areturn, 1) := by decide +kernel
def Q_oof (Z : State) (wx : Addr) (wy : Addr) (wz : Addr) (a1 : Addr) (h0 : Heap) (v : Option Value) (h : Heap) (L : List Loc) : Prop := (∃ b : Addr, v = some (.ref b) ∧ Fr Z.heap.size L ∧ Keep h0 h [] ∧ h0.size ≤ b ∧ Exa Z h b "java/util/Optional" ∧ Fld Z h b "java/util/Optional" "value" "Ljava/lang/Object;" (.ref a1))
theorem ef_oof (m : MethodId) (x0 : Addr) : entryFrame m #[(.ref x0)] 1 = mkF m 0 #[.val (.ref x0)] [] := by first | (simp [entryFrame, mkF, argsToLocals, Value.category]; done) | rfl
set_option maxRecDepth 65536 in
set_option maxHeartbeats 40000000 in
theorem rm_oof (l : Launch) (Z : State) (a0 : Array Value) (hw : ∀ d ∈ tables_1, d.before a0 Z = true) {wx : Addr} {wy : Addr} {wz : Addr} (oA : Sta Z Z.heap "com/example/ibex/ibex/model/ValueKind" "STRING" "Lcom/example/ibex/ibex/model/ValueKind;" (.ref wx)) (oB : Sta Z Z.heap "com/example/ibex/ibex/model/ValueKind" "NUMBER" "Lcom/example/ibex/ibex/model/ValueKind;" (.ref wy)) (oE1 : Exa Z Z.heap wx "com/example/ibex/ibex/model/ValueKind") (oE2 : Exa Z Z.heap wy "com/example/ibex/ibex/model/ValueKind") (oNe : wx ≠ wy) (oM : Sta Z Z.heap "java/util/Optional" "EMPTY" "Ljava/util/Optional;" (.ref wz)) (oE3 : Exa Z Z.heap wz "java/util/Optional") (oF3 : Fld Z Z.heap wz "java/util/Optional" "value" "Ljava/lang/Object;" .null) (ws : List Jvm.Cond) (a1 : Addr) (h0 : Heap) (O0 : Ext Z.heap h0) :
    MetFree l (⟨"java/util/Optional", "of", "(Ljava/lang/Object;)Ljava/util/Optional;"⟩ : MethodName) (head1 (Jvm.Cond.code (⟨"java/util/Optional", "of", "(Ljava/lang/Object;)Ljava/util/Optional;"⟩ : MethodName) jdk_32_method_3_code 1 (some (.object "java/util/Optional")) :: ws) ({ frames := 2, cells := 1, slots := 1, locals := 26 } : Room)) (fun a U => a = #[(.ref a1)] ∧ Z.Warmed39 U.vm ∧ U.heap = h0) (fun _ _ _ _ _ => True) (fun _ U o U' => ∃ v L, o = .returned v ∧ (Q_oof Z wx wy wz a1 h0) v U'.heap L ∧ FrameEnd U o U' L ({ frames := 2, cells := 1, slots := 1, locals := 26 } : Room).cells ({ frames := 2, cells := 1, slots := 1, locals := 26 } : Room).slots) := by
  refine own_met (Q := (Q_oof Z wx wy wz a1 h0)) _ _ (plainFor_of_name own_pn_1) ?_
  intro p e s m below meth c T X0 hx hby hml hret hlk hZ hown hnm e0
  replace hown : s.vm.findClass "java/util/Optional" = some m.cls := hown
  replace hnm : meth.name = "of" := hnm
  have hml : c.maxLocals = 1 := hml
  have N0 := Fr.nil Z.heap.size
  have K0 := Keep.refl h0 []
  refine own_go (fun _ k => castTop (ef_oof m a1) k) ?_
  show own_Go p e below s _ _ _ (T.setTop (mkF m 0 #[.val (.ref a1)] []))
  obtain ⟨T1, h1, X1, e1, E1, A1, D1, -, st1⟩ := newO X0 hx hZ hown (hw _ (List.mem_of_getElem? (i := 13) rfl)) (hw _ (List.mem_of_getElem? (i := 14) rfl)) (hw _ (List.mem_of_getElem? (i := 11) rfl)) e0 (g := (mkF m 0 #[.val (.ref a1)] [])) rfl (hb hby d2_0) (by show _ ≤ 1; omega) (by show _ ≤ 1; omega)
  obtain ⟨b1, g1⟩ : ∃ z, z = h0.size := ⟨_, rfl⟩
  rw [← g1] at A1 D1 st1
  refine own_go st1 ?_
  have ge1 := Nat.le_of_eq g1.symm
  have big2 : Z.heap.size ≤ b1 := Nat.le_trans O0.1 ge1
  have sz3 : h0.size ≤ b1 := Nat.le_trans K0.1 ge1
  have O4 := own_oldExt O0 E1
  have K5 := K0.ext E1
  have f6 : Fld Z h1 b1 "java/util/Optional" "value" "Ljava/lang/Object;" .null := D1 (Or.inr (hw _ (List.mem_of_getElem? (i := 27) rfl))) (ty := (.object "java/lang/Object")) (by decide)
  show own_Go p e below s _ _ _ (T1.setTop (mkF m 3 #[.val (.ref a1)] [(.ref b1)]))
  refine own_go (fun _ k => XS.dup X1.here hx rfl (hb hby d2_3) rfl rfl k) ?_
  show own_Go p e below s _ _ _ (T1.setTop (mkF m 4 #[.val (.ref a1)] [(.ref b1), (.ref b1)]))
  refine own_go (fun _ k => XS.aloadN X1.here hx rfl (hb hby d2_4) rfl rfl k) ?_
  show own_Go p e below s _ _ _ (T1.setTop (mkF m 5 #[.val (.ref a1)] [(.ref a1), (.ref b1), (.ref b1)]))
  obtain ⟨v7, T7, L7, X7, hQ7, st7⟩ := own_callS (y := (⟨"java/util/Objects", "requireNonNull", "(Ljava/lang/Object;)Ljava/lang/Object;"⟩ : MethodName)) X1 hx hZ hown (hw _ (List.mem_of_getElem? (i := 15) rfl)) (hw _ (List.mem_of_getElem? (i := 16) rfl)) (hw _ (List.mem_of_getElem? (i := 17) rfl)) (hw _ (List.mem_of_getElem? (i := 18) rfl)) (rm_rnn l Z a0 hw oA oB oE1 oE2 oNe oM oE3 oF3 [] a1 h1 O4) 2 0 0 rfl rfl (by decide) (by decide) (by decide) (by show _ ≤ 1; omega) (by show _ ≤ 1; omega) e1 (g := (mkF m 5 #[.val (.ref a1)] [(.ref a1), (.ref b1), (.ref b1)])) rfl (by rw [hml]; rfl) [(.ref a1)] [(.ref b1), (.ref b1)] (lenOf own_pd_0 rfl) rfl rfl (by show 2 * 0 + _ ≤ _; exact Nat.le_of_eq rfl) (hb hby d2_5)
  obtain ⟨rfl, Nc9, Kc8⟩ := hQ7
  refine own_go st7 ?_
  have N10 := Fr.app N0 Nc9
  show own_Go p e below s _ _ _ (T7.setTop (mkF m 8 #[.val (.ref a1)] [(.ref a1), (.ref b1), (.ref b1)]))
  obtain ⟨v11, T11, L11, X11, hQ11, st11⟩ := own_callI (y := (⟨"java/util/Optional", "<init>", "(Ljava/lang/Object;)V"⟩ : MethodName)) X7 hx hZ hown (hw _ (List.mem_of_getElem? (i := 19) rfl)) (hw _ (List.mem_of_getElem? (i := 20) rfl)) (hw _ (List.mem_of_getElem? (i := 11) rfl)) (hw _ (List.mem_of_getElem? (i := 22) rfl)) (rm_oinit l Z a0 hw oA oB oE1 oE2 oNe oM oE3 oF3 [] b1 a1 h1 O4 A1 f6 big2) 1 0 0 rfl rfl rfl (by decide) (by decide) (by decide) (by show _ ≤ 1; omega) (by show _ ≤ 1; omega) Kc8 (g := (mkF m 8 #[.val (.ref a1)] [(.ref a1), (.ref b1), (.ref b1)])) rfl (by rw [hml]; rfl) b1 [(.ref a1)] [(.ref b1)] (lenOf own_pd_1 rfl) rfl rfl (by show 2 * 0 + _ ≤ _; exact Nat.le_of_eq rfl) (hb hby d2_8)
  obtain ⟨rfl, Nc15, Kc14, f12, f13⟩ := hQ11
  refine own_go st11 ?_
  have N16 := Fr.app N10 Nc15
  have f17 : Exa Z T11.heap b1 "java/util/Optional" := A1.keep Kc14
  have O19 := own_oldKeep O4 Kc14 (allS big2 all0)
  have K20 : Keep h0 T11.heap [] := K5.trans Kc14 (allS (Or.inr sz3) all0)
  show own_Go p e below s _ _ _ (T11.setTop (mkF m 11 #[.val (.ref a1)] [(.ref b1)]))
  refine own_retA X11 hx hlk (rfl : T11.heap = T11.heap) hret rfl rfl (hb hby d2_11) (by show _ ≤ 1; omega) (by show _ ≤ 1; omega) ?_
  exact ⟨b1, rfl, N16, K20, sz3, f12, f13⟩
theorem d8_0 : decode jdk_32_method_1_code 0 = .ok (.getstatic 1, 3) := by decide +kernel
theorem d8_3 : decode jdk_32_method_1_code 3 = .ok (.astore_n 0, 1) := by decide +kernel
theorem d8_4 : decode jdk_32_method_1_code 4 = .ok (.aload_n 0, 1) := by decide +kernel
theorem d8_5 : decode jdk_32_method_1_code 5 = .ok (.areturn, 1) := by decide +kernel
def Q_oempty (Z : State) (wx : Addr) (wy : Addr) (wz : Addr) (h0 : Heap) (v : Option Value) (h : Heap) (L : List Loc) : Prop := (v = some (.ref wz) ∧ Fr Z.heap.size L ∧ h = h0)
theorem ef_oempty (m : MethodId) : entryFrame m #[] 1 = mkF m 0 #[.unset] [] := by first | (simp [entryFrame, mkF, argsToLocals, Value.category]; done) | rfl
set_option maxRecDepth 65536 in
set_option maxHeartbeats 40000000 in
theorem rm_oempty (l : Launch) (Z : State) (a0 : Array Value) (hw : ∀ d ∈ tables_1, d.before a0 Z = true) {wx : Addr} {wy : Addr} {wz : Addr} (oA : Sta Z Z.heap "com/example/ibex/ibex/model/ValueKind" "STRING" "Lcom/example/ibex/ibex/model/ValueKind;" (.ref wx)) (oB : Sta Z Z.heap "com/example/ibex/ibex/model/ValueKind" "NUMBER" "Lcom/example/ibex/ibex/model/ValueKind;" (.ref wy)) (oE1 : Exa Z Z.heap wx "com/example/ibex/ibex/model/ValueKind") (oE2 : Exa Z Z.heap wy "com/example/ibex/ibex/model/ValueKind") (oNe : wx ≠ wy) (oM : Sta Z Z.heap "java/util/Optional" "EMPTY" "Ljava/util/Optional;" (.ref wz)) (oE3 : Exa Z Z.heap wz "java/util/Optional") (oF3 : Fld Z Z.heap wz "java/util/Optional" "value" "Ljava/lang/Object;" .null) (ws : List Jvm.Cond)  (h0 : Heap) (O0 : Ext Z.heap h0) :
    MetFree l (⟨"java/util/Optional", "empty", "()Ljava/util/Optional;"⟩ : MethodName) (head1 (Jvm.Cond.code (⟨"java/util/Optional", "empty", "()Ljava/util/Optional;"⟩ : MethodName) jdk_32_method_1_code 1 (some (.object "java/util/Optional")) :: ws) ({ frames := 0, cells := 0, slots := 0, locals := 0 } : Room)) (fun a U => a = #[] ∧ Z.Warmed39 U.vm ∧ U.heap = h0) (fun _ _ _ _ _ => True) (fun _ U o U' => ∃ v L, o = .returned v ∧ (Q_oempty Z wx wy wz h0) v U'.heap L ∧ FrameEnd U o U' L ({ frames := 0, cells := 0, slots := 0, locals := 0 } : Room).cells ({ frames := 0, cells := 0, slots := 0, locals := 0 } : Room).slots) := by
  refine own_met (Q := (Q_oempty Z wx wy wz h0)) _ _ (plainFor_of_name own_pn_1) ?_
  intro p e s m below meth c T X0 hx hby hml hret hlk hZ hown hnm e0
  replace hown : s.vm.findClass "java/util/Optional" = some m.cls := hown
  replace hnm : meth.name = "empty" := hnm
  have hml : c.maxLocals = 1 := hml
  have N0 := Fr.nil Z.heap.size
  have K0 := Keep.refl h0 []
  refine own_go (fun _ k => castTop (ef_oempty m ) k) ?_
  show own_Go p e below s _ _ _ (T.setTop (mkF m 0 #[.unset] []))
  obtain ⟨T1, X1, e1, st1⟩ := getS2 X0 hx hZ hown (host := "") (Or.inl (hw _ (List.mem_of_getElem? (i := 46) rfl))) Via.refl e0 (oM.ext O0) (g := (mkF m 0 #[.unset] [])) rfl (hb hby d8_0)
  refine own_go st1 ?_
  show own_Go p e below s _ _ _ (T1.setTop (mkF m 3 #[.unset] [(.ref wz)]))
  refine own_go (fun _ k => XS.astoreN X1.here hx rfl (hb hby d8_3) rfl rfl (l' := #[.val (.ref wz)]) rfl k) ?_
  show own_Go p e below s _ _ _ (T1.setTop (mkF m 4 #[.val (.ref wz)] []))
  refine own_go (fun _ k => XS.aloadN X1.here hx rfl (hb hby d8_4) rfl rfl k) ?_
  show own_Go p e below s _ _ _ (T1.setTop (mkF m 5 #[.val (.ref wz)] [(.ref wz)]))
  refine own_retA X1 hx hlk e1 hret rfl rfl (hb hby d8_5) (by show _ ≤ 0; omega) (by show _ ≤ 0; omega) ?_
  exact ⟨rfl, N0, rfl⟩
theorem d6_0 : decode jdk_32_method_15_code 0 = .ok (.aload_n 0, 1) := by decide +kernel
theorem d6_1 : decode jdk_32_method_15_code 1 = .ok (.getfield 13, 3) := by decide +kernel
theorem d6_4 : decode jdk_32_method_15_code 4 = .ok (.ifnull 10, 3) := by decide +kernel
theorem d6_14 : decode jdk_32_method_15_code 14 = .ok (.aload_n 1, 1) := by decide +kernel
theorem d6_15 : decode jdk_32_method_15_code 15 = .ok (.areturn, 1) := by decide +kernel
def Q_orElseN (Z : State) (wx : Addr) (wy : Addr) (wz : Addr) (a1 : Addr) (h0 : Heap) (v : Option Value) (h : Heap) (L : List Loc) : Prop := (v = some .null ∧ Fr Z.heap.size L ∧ h = h0)
theorem ef_orElseN (m : MethodId) (x0 : Addr) : entryFrame m #[(.ref x0), .null] 2 = mkF m 0 #[.val (.ref x0), .val .null] [] := by first | (simp [entryFrame, mkF, argsToLocals, Value.category]; done) | rfl
set_option maxRecDepth 65536 in
set_option maxHeartbeats 40000000 in
theorem rm_orElseN (l : Launch) (Z : State) (a0 : Array Value) (hw : ∀ d ∈ tables_1, d.before a0 Z = true) {wx : Addr} {wy : Addr} {wz : Addr} (oA : Sta Z Z.heap "com/example/ibex/ibex/model/ValueKind" "STRING" "Lcom/example/ibex/ibex/model/ValueKind;" (.ref wx)) (oB : Sta Z Z.heap "com/example/ibex/ibex/model/ValueKind" "NUMBER" "Lcom/example/ibex/ibex/model/ValueKind;" (.ref wy)) (oE1 : Exa Z Z.heap wx "com/example/ibex/ibex/model/ValueKind") (oE2 : Exa Z Z.heap wy "com/example/ibex/ibex/model/ValueKind") (oNe : wx ≠ wy) (oM : Sta Z Z.heap "java/util/Optional" "EMPTY" "Ljava/util/Optional;" (.ref wz)) (oE3 : Exa Z Z.heap wz "java/util/Optional") (oF3 : Fld Z Z.heap wz "java/util/Optional" "value" "Ljava/lang/Object;" .null) (ws : List Jvm.Cond) (a1 : Addr) (h0 : Heap) (O0 : Ext Z.heap h0) (f_F_a1_value : Fld Z h0 a1 "java/util/Optional" "value" "Ljava/lang/Object;" .null) :
    MetFree l (⟨"java/util/Optional", "orElse", "(Ljava/lang/Object;)Ljava/lang/Object;"⟩ : MethodName) (head1 (Jvm.Cond.code (⟨"java/util/Optional", "orElse", "(Ljava/lang/Object;)Ljava/lang/Object;"⟩ : MethodName) jdk_32_method_15_code 2 (some (.object "java/lang/Object")) :: ws) ({ frames := 0, cells := 0, slots := 0, locals := 0 } : Room)) (fun a U => a = #[(.ref a1), .null] ∧ Z.Warmed39 U.vm ∧ U.heap = h0) (fun _ _ _ _ _ => True) (fun _ U o U' => ∃ v L, o = .returned v ∧ (Q_orElseN Z wx wy wz a1 h0) v U'.heap L ∧ FrameEnd U o U' L ({ frames := 0, cells := 0, slots := 0, locals := 0 } : Room).cells ({ frames := 0, cells := 0, slots := 0, locals := 0 } : Room).slots) := by
  refine own_met (Q := (Q_orElseN Z wx wy wz a1 h0)) _ _ (plainFor_of_name own_pn_1) ?_
  intro p e s m below meth c T X0 hx hby hml hret hlk hZ hown hnm e0
  replace hown : s.vm.findClass "java/util/Optional" = some m.cls := hown
  replace hnm : meth.name = "orElse" := hnm
  have hml : c.maxLocals = 2 := hml
  have N0 := Fr.nil Z.heap.size
  have K0 := Keep.refl h0 []
  refine own_go (fun _ k => castTop (ef_orElseN m a1) k) ?_
  show own_Go p e below s _ _ _ (T.setTop (mkF m 0 #[.val (.ref a1), .val .null] []))
  refine own_go (fun _ k => XS.aloadN X0.here hx rfl (hb hby d6_0) rfl rfl k) ?_
  show own_Go p e below s _ _ _ (T.setTop (mkF m 1 #[.val (.ref a1), .val .null] [(.ref a1)]))
  obtain ⟨T1, X1, e1, st1⟩ := getF X0 hx hZ hown (host := "") (Or.inl (hw _ (List.mem_of_getElem? (i := 26) rfl))) Via.refl e0 f_F_a1_value (g := (mkF m 1 #[.val (.ref a1), .val .null] [(.ref a1)])) rfl rfl (hb hby d6_1)
  refine own_go st1 ?_
  show own_Go p e below s _ _ _ (T1.setTop (mkF m 4 #[.val (.ref a1), .val .null] [.null]))
  refine own_go (fun _ k => XS.ifnullYes X1.here hx rfl (pc0 := 4) (pc' := 14) rfl (hb hby d6_4) rfl (by decide) (by decide) k) ?_
  show own_Go p e below s _ _ _ (T1.setTop (mkF m 14 #[.val (.ref a1), .val .null] []))
  refine own_go (fun _ k => XS.aloadN X1.here hx rfl (hb hby d6_14) rfl rfl k) ?_
  show own_Go p e below s _ _ _ (T1.setTop (mkF m 15 #[.val (.ref a1), .val .null] [.null]))
  refine own_retA X1 hx hlk e1 hret rfl rfl (hb hby d6_15) (by show _ ≤ 0; omega) (by show _ ≤ 0; omega) ?_
  exact ⟨rfl, N0, rfl⟩
theorem d6_7 : decode jdk_32_method_15_code 7 = .ok (.aload_n 0, 1) := by decide +kernel
theorem d6_8 : decode jdk_32_method_15_code 8 = .ok (.getfield 13, 3) := by decide +kernel
theorem d6_11 : decode jdk_32_method_15_code 11 = .ok (.goto 4, 3) := by decide +kernel
def Q_orElseR (Z : State) (wx : Addr) (wy : Addr) (wz : Addr) (a1 : Addr) (w : Addr) (h0 : Heap) (v : Option Value) (h : Heap) (L : List Loc) : Prop := (v = some (.ref w) ∧ Fr Z.heap.size L ∧ h = h0)
theorem ef_orElseR (m : MethodId) (x0 : Addr) : entryFrame m #[(.ref x0), .null] 2 = mkF m 0 #[.val (.ref x0), .val .null] [] := by first | (simp [entryFrame, mkF, argsToLocals, Value.category]; done) | rfl
set_option maxRecDepth 65536 in
set_option maxHeartbeats 40000000 in
theorem rm_orElseR (l : Launch) (Z : State) (a0 : Array Value) (hw : ∀ d ∈ tables_1, d.before a0 Z = true) {wx : Addr} {wy : Addr} {wz : Addr} (oA : Sta Z Z.heap "com/example/ibex/ibex/model/ValueKind" "STRING" "Lcom/example/ibex/ibex/model/ValueKind;" (.ref wx)) (oB : Sta Z Z.heap "com/example/ibex/ibex/model/ValueKind" "NUMBER" "Lcom/example/ibex/ibex/model/ValueKind;" (.ref wy)) (oE1 : Exa Z Z.heap wx "com/example/ibex/ibex/model/ValueKind") (oE2 : Exa Z Z.heap wy "com/example/ibex/ibex/model/ValueKind") (oNe : wx ≠ wy) (oM : Sta Z Z.heap "java/util/Optional" "EMPTY" "Ljava/util/Optional;" (.ref wz)) (oE3 : Exa Z Z.heap wz "java/util/Optional") (oF3 : Fld Z Z.heap wz "java/util/Optional" "value" "Ljava/lang/Object;" .null) (ws : List Jvm.Cond) (a1 : Addr) (w : Addr) (h0 : Heap) (O0 : Ext Z.heap h0) (f_F_a1_value : Fld Z h0 a1 "java/util/Optional" "value" "Ljava/lang/Object;" (.ref w)) :
    MetFree l (⟨"java/util/Optional", "orElse", "(Ljava/lang/Object;)Ljava/lang/Object;"⟩ : MethodName) (head1 (Jvm.Cond.code (⟨"java/util/Optional", "orElse", "(Ljava/lang/Object;)Ljava/lang/Object;"⟩ : MethodName) jdk_32_method_15_code 2 (some (.object "java/lang/Object")) :: ws) ({ frames := 0, cells := 0, slots := 0, locals := 0 } : Room)) (fun a U => a = #[(.ref a1), .null] ∧ Z.Warmed39 U.vm ∧ U.heap = h0) (fun _ _ _ _ _ => True) (fun _ U o U' => ∃ v L, o = .returned v ∧ (Q_orElseR Z wx wy wz a1 w h0) v U'.heap L ∧ FrameEnd U o U' L ({ frames := 0, cells := 0, slots := 0, locals := 0 } : Room).cells ({ frames := 0, cells := 0, slots := 0, locals := 0 } : Room).slots) := by
  refine own_met (Q := (Q_orElseR Z wx wy wz a1 w h0)) _ _ (plainFor_of_name own_pn_1) ?_
  intro p e s m below meth c T X0 hx hby hml hret hlk hZ hown hnm e0
  replace hown : s.vm.findClass "java/util/Optional" = some m.cls := hown
  replace hnm : meth.name = "orElse" := hnm
  have hml : c.maxLocals = 2 := hml
  have N0 := Fr.nil Z.heap.size
  have K0 := Keep.refl h0 []
  refine own_go (fun _ k => castTop (ef_orElseR m a1) k) ?_
  show own_Go p e below s _ _ _ (T.setTop (mkF m 0 #[.val (.ref a1), .val .null] []))
  refine own_go (fun _ k => XS.aloadN X0.here hx rfl (hb hby d6_0) rfl rfl k) ?_
  show own_Go p e below s _ _ _ (T.setTop (mkF m 1 #[.val (.ref a1), .val .null] [(.ref a1)]))
  obtain ⟨T1, X1, e1, st1⟩ := getF X0 hx hZ hown (host := "") (Or.inl (hw _ (List.mem_of_getElem? (i := 26) rfl))) Via.refl e0 f_F_a1_value (g := (mkF m 1 #[.val (.ref a1), .val .null] [(.ref a1)])) rfl rfl (hb hby d6_1)
  refine own_go st1 ?_
  show own_Go p e below s _ _ _ (T1.setTop (mkF m 4 #[.val (.ref a1), .val .null] [(.ref w)]))
  refine own_go (fun _ k => XS.ifnullNo X1.here hx rfl (hb hby d6_4) rfl k) ?_
  show own_Go p e below s _ _ _ (T1.setTop (mkF m 7 #[.val (.ref a1), .val .null] []))
  refine own_go (fun _ k => XS.aloadN X1.here hx rfl (hb hby d6_7) rfl rfl k) ?_
  show own_Go p e below s _ _ _ (T1.setTop (mkF m 8 #[.val (.ref a1), .val .null] [(.ref a1)]))
  obtain ⟨T2, X2, e2, st2⟩ := getF X1 hx hZ hown (host := "") (Or.inl (hw _ (List.mem_of_getElem? (i := 26) rfl))) Via.refl e1 f_F_a1_value (g := (mkF m 8 #[.val (.ref a1), .val .null] [(.ref a1)])) rfl rfl (hb hby d6_8)
  refine own_go st2 ?_
  show own_Go p e below s _ _ _ (T2.setTop (mkF m 11 #[.val (.ref a1), .val .null] [(.ref w)]))
  refine own_go (fun _ k => XS.goto X2.here hx rfl (pc0 := 11) (pc' := 15) rfl (hb hby d6_11) (by decide) (by decide) k) ?_
  show own_Go p e below s _ _ _ (T2.setTop (mkF m 15 #[.val (.ref a1), .val .null] [(.ref w)]))
  refine own_retA X2 hx hlk e2 hret rfl rfl (hb hby d6_15) (by show _ ≤ 0; omega) (by show _ ≤ 0; omega) ?_
  exact ⟨rfl, N0, rfl⟩
theorem d7_0 : decode method_3_code 0 = .ok (.iload_n 0, 1) := by decide +kernel
theorem d7_1 : decode method_3_code 1 = .ok (.iconst 1, 1) := by decide +kernel
theorem d7_2 : decode method_3_code 2 = .ok (.if_icmp .eq 32, 3) := by decide +kernel
theorem d7_5 : decode method_3_code 5 = .ok (.iload_n 0, 1) := by decide +kernel
theorem d7_6 : decode method_3_code 6 = .ok (.bipush 12, 2) := by decide +kernel
theorem d7_8 : decode method_3_code 8 = .ok (.if_icmp .eq 26, 3) := by decide +kernel
theorem d7_11 : decode method_3_code 11 = .ok (.iload_n 0, 1) := by decide +kernel
theorem d7_12 : decode method_3_code 12 = .ok (.iconst (-1), 1) := by decide +kernel
theorem d7_13 : decode method_3_code 13 = .ok (.if_icmp .eq 21, 3) := by decide +kernel
theorem d7_16 : decode method_3_code 16 = .ok (.iload_n 0, 1) := by decide +kernel
theorem d7_17 : decode method_3_code 17 = .ok (.bipush (-15), 2) := by decide +kernel
theorem d7_19 : decode method_3_code 19 = .ok (.if_icmp .eq 15, 3) := by decide +kernel
theorem d7_22 : decode method_3_code 22 = .ok (.iload_n 0, 1) := by decide +kernel
theorem d7_23 : decode method_3_code 23 = .ok (.bipush (-9), 2) := by decide +kernel
theorem d7_25 : decode method_3_code 25 = .ok (.if_icmp .eq 9, 3) := by decide +kernel
theorem d7_28 : decode method_3_code 28 = .ok (.iload_n 0, 1) := by decide +kernel
theorem d7_29 : decode method_3_code 29 = .ok (.bipush (-16), 2) := by decide +kernel
theorem d7_31 : decode method_3_code 31 = .ok (.if_icmp .ne 5, 3) := by decide +kernel
theorem d7_34 : decode method_3_code 34 = .ok (.iconst 1, 1) := by decide +kernel
theorem d7_35 : decode method_3_code 35 = .ok (.ireturn, 1) := by decide +kernel
theorem d7_36 : decode method_3_code 36 = .ok (.iload_n 0, 1) := by decide +kernel
theorem d7_37 : decode method_3_code 37 = .ok (.bipush (-6), 2) := by decide +kernel
theorem d7_39 : decode method_3_code 39 = .ok (.if_icmp .eq 47, 3) := by decide +kernel
theorem d7_42 : decode method_3_code 42 = .ok (.iload_n 0, 1) := by decide +kernel
theorem d7_43 : decode method_3_code 43 = .ok (.iconst 5, 1) := by decide +kernel
theorem d7_44 : decode method_3_code 44 = .ok (.if_icmp .eq 42, 3) := by decide +kernel
theorem d7_47 : decode method_3_code 47 = .ok (.iload_n 0, 1) := by decide +kernel
theorem d7_48 : decode method_3_code 48 = .ok (.iconst 4, 1) := by decide +kernel
theorem d7_49 : decode method_3_code 49 = .ok (.if_icmp .eq 37, 3) := by decide +kernel
theorem d7_52 : decode method_3_code 52 = .ok (.iload_n 0, 1) := by decide +kernel
theorem d7_53 : decode method_3_code 53 = .ok (.bipush (-5), 2) := by decide +kernel
theorem d7_55 : decode method_3_code 55 = .ok (.if_icmp .eq 31, 3) := by decide +kernel
theorem d7_58 : decode method_3_code 58 = .ok (.iload_n 0, 1) := by decide +kernel
theorem d7_59 : decode method_3_code 59 = .ok (.iconst 3, 1) := by decide +kernel
theorem d7_60 : decode method_3_code 60 = .ok (.if_icmp .eq 26, 3) := by decide +kernel
theorem d7_63 : decode method_3_code 63 = .ok (.iload_n 0, 1) := by decide +kernel
theorem d7_64 : decode method_3_code 64 = .ok (.iconst 2, 1) := by decide +kernel
theorem d7_65 : decode method_3_code 65 = .ok (.if_icmp .eq 21, 3) := by decide +kernel
theorem d7_68 : decode method_3_code 68 = .ok (.iload_n 0, 1) := by decide +kernel
theorem d7_69 : decode method_3_code 69 = .ok (.bipush 7, 2) := by decide +kernel
theorem d7_71 : decode method_3_code 71 = .ok (.if_icmp .eq 15, 3) := by decide +kernel
theorem d7_74 : decode method_3_code 74 = .ok (.iload_n 0, 1) := by decide +kernel
theorem d7_75 : decode method_3_code 75 = .ok (.bipush 6, 2) := by decide +kernel
theorem d7_77 : decode method_3_code 77 = .ok (.if_icmp .eq 9, 3) := by decide +kernel
theorem d7_80 : decode method_3_code 80 = .ok (.iload_n 0, 1) := by decide +kernel
theorem d7_81 : decode method_3_code 81 = .ok (.bipush 8, 2) := by decide +kernel
theorem d7_83 : decode method_3_code 83 = .ok (.if_icmp .ne 5, 3) := by decide +kernel
theorem d7_86 : decode method_3_code 86 = .ok (.iconst 2, 1) := by decide +kernel
theorem d7_87 : decode method_3_code 87 = .ok (.ireturn, 1) := by decide +kernel
theorem d7_88 : decode method_3_code 88 = .ok (.iconst 0, 1) := by decide +kernel
theorem d7_89 : decode method_3_code 89 = .ok (.ireturn, 1) := by decide +kernel
def Q_expected (Z : State) (wx : Addr) (wy : Addr) (wz : Addr) (p1 : Int32) (h0 : Heap) (v : Option Value) (h : Heap) (L : List Loc) : Prop := (v = some (.int (1 : Int32)) ∧ Fr Z.heap.size L ∧ own_isStr p1 ∧ h = h0) ∨ (v = some (.int (2 : Int32)) ∧ Fr Z.heap.size L ∧ ¬ (own_isStr p1) ∧ own_isNum p1 ∧ h = h0) ∨ (v = some (.int (0 : Int32)) ∧ Fr Z.heap.size L ∧ ¬ (own_isStr p1) ∧ ¬ (own_isNum p1) ∧ h = h0)
theorem ef_expected (m : MethodId) (x0 : Int32) : entryFrame m #[(.int x0)] 1 = mkF m 0 #[.val (.int x0)] [] := by first | (simp [entryFrame, mkF, argsToLocals, Value.category]; done) | rfl
set_option maxRecDepth 65536 in
set_option maxHeartbeats 40000000 in
theorem rm_expected (l : Launch) (Z : State) (a0 : Array Value) (hw : ∀ d ∈ tables_1, d.before a0 Z = true) {wx : Addr} {wy : Addr} {wz : Addr} (oA : Sta Z Z.heap "com/example/ibex/ibex/model/ValueKind" "STRING" "Lcom/example/ibex/ibex/model/ValueKind;" (.ref wx)) (oB : Sta Z Z.heap "com/example/ibex/ibex/model/ValueKind" "NUMBER" "Lcom/example/ibex/ibex/model/ValueKind;" (.ref wy)) (oE1 : Exa Z Z.heap wx "com/example/ibex/ibex/model/ValueKind") (oE2 : Exa Z Z.heap wy "com/example/ibex/ibex/model/ValueKind") (oNe : wx ≠ wy) (oM : Sta Z Z.heap "java/util/Optional" "EMPTY" "Ljava/util/Optional;" (.ref wz)) (oE3 : Exa Z Z.heap wz "java/util/Optional") (oF3 : Fld Z Z.heap wz "java/util/Optional" "value" "Ljava/lang/Object;" .null) (ws : List Jvm.Cond) (p1 : Int32) (h0 : Heap) (O0 : Ext Z.heap h0) :
    MetFree l (⟨"com/example/ibex/ibex/model/ValueKindOfPinLaw", "expected", "(I)I"⟩ : MethodName) (head1 (Jvm.Cond.code (⟨"com/example/ibex/ibex/model/ValueKindOfPinLaw", "expected", "(I)I"⟩ : MethodName) method_3_code 1 (some .int) :: ws) ({ frames := 0, cells := 0, slots := 0, locals := 0 } : Room)) (fun a U => a = #[(.int p1)] ∧ Z.Warmed39 U.vm ∧ U.heap = h0) (fun _ _ _ _ _ => True) (fun _ U o U' => ∃ v L, o = .returned v ∧ (Q_expected Z wx wy wz p1 h0) v U'.heap L ∧ FrameEnd U o U' L ({ frames := 0, cells := 0, slots := 0, locals := 0 } : Room).cells ({ frames := 0, cells := 0, slots := 0, locals := 0 } : Room).slots) := by
  refine own_met (Q := (Q_expected Z wx wy wz p1 h0)) _ _ (plainFor_of_name own_pn_2) ?_
  intro p e s m below meth c T X0 hx hby hml hret hlk hZ hown hnm e0
  replace hown : s.vm.findClass "com/example/ibex/ibex/model/ValueKindOfPinLaw" = some m.cls := hown
  replace hnm : meth.name = "expected" := hnm
  have hml : c.maxLocals = 1 := hml
  have N0 := Fr.nil Z.heap.size
  have K0 := Keep.refl h0 []
  refine own_go (fun _ k => castTop (ef_expected m p1) k) ?_
  show own_Go p e below s _ _ _ (T.setTop (mkF m 0 #[.val (.int p1)] []))
  refine own_go (fun _ k => XS.iloadN X0.here hx rfl (hb hby d7_0) rfl k) ?_
  show own_Go p e below s _ _ _ (T.setTop (mkF m 1 #[.val (.int p1)] [(.int p1)]))
  refine own_go (fun _ k => XS.iconst X0.here hx rfl (hb hby d7_1) k) ?_
  show own_Go p e below s _ _ _ (T.setTop (mkF m 2 #[.val (.int p1)] [(.int (1 : Int32)), (.int p1)]))
  by_cases hc1 : p1 = (1 : Int32)
  · refine own_go (fun _ k => XS.icmpYes X0.here hx rfl (pc0 := 2) (pc' := 34) rfl (hb hby d7_2) rfl (teq hc1).1 (by decide) (by decide) k) ?_
    show own_Go p e below s _ _ _ (T.setTop (mkF m 34 #[.val (.int p1)] []))
    refine own_go (fun _ k => XS.iconst X0.here hx rfl (hb hby d7_34) k) ?_
    show own_Go p e below s _ _ _ (T.setTop (mkF m 35 #[.val (.int p1)] [(.int (1 : Int32))]))
    refine own_retI X0 hx hlk e0 hret (hb hby d7_35) (by show _ ≤ 0; omega) (by show _ ≤ 0; omega) ?_
    exact Or.inl ⟨rfl, N0, (Or.inl hc1), rfl⟩
  · refine own_go (fun _ k => XS.icmpNo X0.here hx rfl (hb hby d7_2) rfl (feq hc1).1 k) ?_
    show own_Go p e below s _ _ _ (T.setTop (mkF m 5 #[.val (.int p1)] []))
    refine own_go (fun _ k => XS.iloadN X0.here hx rfl (hb hby d7_5) rfl k) ?_
    show own_Go p e below s _ _ _ (T.setTop (mkF m 6 #[.val (.int p1)] [(.int p1)]))
    refine own_go (fun _ k => XS.bipush X0.here hx rfl (hb hby d7_6) k) ?_
    show own_Go p e below s _ _ _ (T.setTop (mkF m 8 #[.val (.int p1)] [(.int (12 : Int32)), (.int p1)]))
    by_cases hc2 : p1 = (12 : Int32)
    · refine own_go (fun _ k => XS.icmpYes X0.here hx rfl (pc0 := 8) (pc' := 34) rfl (hb hby d7_8) rfl (teq hc2).1 (by decide) (by decide) k) ?_
      show own_Go p e below s _ _ _ (T.setTop (mkF m 34 #[.val (.int p1)] []))
      refine own_go (fun _ k => XS.iconst X0.here hx rfl (hb hby d7_34) k) ?_
      show own_Go p e below s _ _ _ (T.setTop (mkF m 35 #[.val (.int p1)] [(.int (1 : Int32))]))
      refine own_retI X0 hx hlk e0 hret (hb hby d7_35) (by show _ ≤ 0; omega) (by show _ ≤ 0; omega) ?_
      exact Or.inl ⟨rfl, N0, (Or.inr (Or.inl hc2)), rfl⟩
    · refine own_go (fun _ k => XS.icmpNo X0.here hx rfl (hb hby d7_8) rfl (feq hc2).1 k) ?_
      show own_Go p e below s _ _ _ (T.setTop (mkF m 11 #[.val (.int p1)] []))
      refine own_go (fun _ k => XS.iloadN X0.here hx rfl (hb hby d7_11) rfl k) ?_
      show own_Go p e below s _ _ _ (T.setTop (mkF m 12 #[.val (.int p1)] [(.int p1)]))
      refine own_go (fun _ k => XS.iconst X0.here hx rfl (hb hby d7_12) k) ?_
      show own_Go p e below s _ _ _ (T.setTop (mkF m 13 #[.val (.int p1)] [(.int (-1 : Int32)), (.int p1)]))
      by_cases hc3 : p1 = (-1 : Int32)
      · refine own_go (fun _ k => XS.icmpYes X0.here hx rfl (pc0 := 13) (pc' := 34) rfl (hb hby d7_13) rfl (teq hc3).1 (by decide) (by decide) k) ?_
        show own_Go p e below s _ _ _ (T.setTop (mkF m 34 #[.val (.int p1)] []))
        refine own_go (fun _ k => XS.iconst X0.here hx rfl (hb hby d7_34) k) ?_
        show own_Go p e below s _ _ _ (T.setTop (mkF m 35 #[.val (.int p1)] [(.int (1 : Int32))]))
        refine own_retI X0 hx hlk e0 hret (hb hby d7_35) (by show _ ≤ 0; omega) (by show _ ≤ 0; omega) ?_
        exact Or.inl ⟨rfl, N0, (Or.inr (Or.inr (Or.inl hc3))), rfl⟩
      · refine own_go (fun _ k => XS.icmpNo X0.here hx rfl (hb hby d7_13) rfl (feq hc3).1 k) ?_
        show own_Go p e below s _ _ _ (T.setTop (mkF m 16 #[.val (.int p1)] []))
        refine own_go (fun _ k => XS.iloadN X0.here hx rfl (hb hby d7_16) rfl k) ?_
        show own_Go p e below s _ _ _ (T.setTop (mkF m 17 #[.val (.int p1)] [(.int p1)]))
        refine own_go (fun _ k => XS.bipush X0.here hx rfl (hb hby d7_17) k) ?_
        show own_Go p e below s _ _ _ (T.setTop (mkF m 19 #[.val (.int p1)] [(.int (-15 : Int32)), (.int p1)]))
        by_cases hc4 : p1 = (-15 : Int32)
        · refine own_go (fun _ k => XS.icmpYes X0.here hx rfl (pc0 := 19) (pc' := 34) rfl (hb hby d7_19) rfl (teq hc4).1 (by decide) (by decide) k) ?_
          show own_Go p e below s _ _ _ (T.setTop (mkF m 34 #[.val (.int p1)] []))
          refine own_go (fun _ k => XS.iconst X0.here hx rfl (hb hby d7_34) k) ?_
          show own_Go p e below s _ _ _ (T.setTop (mkF m 35 #[.val (.int p1)] [(.int (1 : Int32))]))
          refine own_retI X0 hx hlk e0 hret (hb hby d7_35) (by show _ ≤ 0; omega) (by show _ ≤ 0; omega) ?_
          exact Or.inl ⟨rfl, N0, (Or.inr (Or.inr (Or.inr (Or.inl hc4)))), rfl⟩
        · refine own_go (fun _ k => XS.icmpNo X0.here hx rfl (hb hby d7_19) rfl (feq hc4).1 k) ?_
          show own_Go p e below s _ _ _ (T.setTop (mkF m 22 #[.val (.int p1)] []))
          refine own_go (fun _ k => XS.iloadN X0.here hx rfl (hb hby d7_22) rfl k) ?_
          show own_Go p e below s _ _ _ (T.setTop (mkF m 23 #[.val (.int p1)] [(.int p1)]))
          refine own_go (fun _ k => XS.bipush X0.here hx rfl (hb hby d7_23) k) ?_
          show own_Go p e below s _ _ _ (T.setTop (mkF m 25 #[.val (.int p1)] [(.int (-9 : Int32)), (.int p1)]))
          by_cases hc5 : p1 = (-9 : Int32)
          · refine own_go (fun _ k => XS.icmpYes X0.here hx rfl (pc0 := 25) (pc' := 34) rfl (hb hby d7_25) rfl (teq hc5).1 (by decide) (by decide) k) ?_
            show own_Go p e below s _ _ _ (T.setTop (mkF m 34 #[.val (.int p1)] []))
            refine own_go (fun _ k => XS.iconst X0.here hx rfl (hb hby d7_34) k) ?_
            show own_Go p e below s _ _ _ (T.setTop (mkF m 35 #[.val (.int p1)] [(.int (1 : Int32))]))
            refine own_retI X0 hx hlk e0 hret (hb hby d7_35) (by show _ ≤ 0; omega) (by show _ ≤ 0; omega) ?_
            exact Or.inl ⟨rfl, N0, (Or.inr (Or.inr (Or.inr (Or.inr (Or.inl hc5))))), rfl⟩
          · refine own_go (fun _ k => XS.icmpNo X0.here hx rfl (hb hby d7_25) rfl (feq hc5).1 k) ?_
            show own_Go p e below s _ _ _ (T.setTop (mkF m 28 #[.val (.int p1)] []))
            refine own_go (fun _ k => XS.iloadN X0.here hx rfl (hb hby d7_28) rfl k) ?_
            show own_Go p e below s _ _ _ (T.setTop (mkF m 29 #[.val (.int p1)] [(.int p1)]))
            refine own_go (fun _ k => XS.bipush X0.here hx rfl (hb hby d7_29) k) ?_
            show own_Go p e below s _ _ _ (T.setTop (mkF m 31 #[.val (.int p1)] [(.int (-16 : Int32)), (.int p1)]))
            by_cases hc6 : p1 = (-16 : Int32)
            · refine own_go (fun _ k => XS.icmpNo X0.here hx rfl (hb hby d7_31) rfl (teq hc6).2 k) ?_
              show own_Go p e below s _ _ _ (T.setTop (mkF m 34 #[.val (.int p1)] []))
              refine own_go (fun _ k => XS.iconst X0.here hx rfl (hb hby d7_34) k) ?_
              show own_Go p e below s _ _ _ (T.setTop (mkF m 35 #[.val (.int p1)] [(.int (1 : Int32))]))
              refine own_retI X0 hx hlk e0 hret (hb hby d7_35) (by show _ ≤ 0; omega) (by show _ ≤ 0; omega) ?_
              exact Or.inl ⟨rfl, N0, (Or.inr (Or.inr (Or.inr (Or.inr (Or.inr hc6))))), rfl⟩
            · refine own_go (fun _ k => XS.icmpYes X0.here hx rfl (pc0 := 31) (pc' := 36) rfl (hb hby d7_31) rfl (feq hc6).2 (by decide) (by decide) k) ?_
              show own_Go p e below s _ _ _ (T.setTop (mkF m 36 #[.val (.int p1)] []))
              refine own_go (fun _ k => XS.iloadN X0.here hx rfl (hb hby d7_36) rfl k) ?_
              show own_Go p e below s _ _ _ (T.setTop (mkF m 37 #[.val (.int p1)] [(.int p1)]))
              refine own_go (fun _ k => XS.bipush X0.here hx rfl (hb hby d7_37) k) ?_
              show own_Go p e below s _ _ _ (T.setTop (mkF m 39 #[.val (.int p1)] [(.int (-6 : Int32)), (.int p1)]))
              by_cases hc7 : p1 = (-6 : Int32)
              · refine own_go (fun _ k => XS.icmpYes X0.here hx rfl (pc0 := 39) (pc' := 86) rfl (hb hby d7_39) rfl (teq hc7).1 (by decide) (by decide) k) ?_
                show own_Go p e below s _ _ _ (T.setTop (mkF m 86 #[.val (.int p1)] []))
                refine own_go (fun _ k => XS.iconst X0.here hx rfl (hb hby d7_86) k) ?_
                show own_Go p e below s _ _ _ (T.setTop (mkF m 87 #[.val (.int p1)] [(.int (2 : Int32))]))
                refine own_retI X0 hx hlk e0 hret (hb hby d7_87) (by show _ ≤ 0; omega) (by show _ ≤ 0; omega) ?_
                exact Or.inr (Or.inl ⟨rfl, N0, (fun q => q.elim hc1 (fun q => q.elim hc2 (fun q => q.elim hc3 (fun q => q.elim hc4 (fun q => q.elim hc5 hc6))))), (Or.inl hc7), rfl⟩)
              · refine own_go (fun _ k => XS.icmpNo X0.here hx rfl (hb hby d7_39) rfl (feq hc7).1 k) ?_
                show own_Go p e below s _ _ _ (T.setTop (mkF m 42 #[.val (.int p1)] []))
                refine own_go (fun _ k => XS.iloadN X0.here hx rfl (hb hby d7_42) rfl k) ?_
                show own_Go p e below s _ _ _ (T.setTop (mkF m 43 #[.val (.int p1)] [(.int p1)]))
                refine own_go (fun _ k => XS.iconst X0.here hx rfl (hb hby d7_43) k) ?_
                show own_Go p e below s _ _ _ (T.setTop (mkF m 44 #[.val (.int p1)] [(.int (5 : Int32)), (.int p1)]))
                by_cases hc8 : p1 = (5 : Int32)
                · refine own_go (fun _ k => XS.icmpYes X0.here hx rfl (pc0 := 44) (pc' := 86) rfl (hb hby d7_44) rfl (teq hc8).1 (by decide) (by decide) k) ?_
                  show own_Go p e below s _ _ _ (T.setTop (mkF m 86 #[.val (.int p1)] []))
                  refine own_go (fun _ k => XS.iconst X0.here hx rfl (hb hby d7_86) k) ?_
                  show own_Go p e below s _ _ _ (T.setTop (mkF m 87 #[.val (.int p1)] [(.int (2 : Int32))]))
                  refine own_retI X0 hx hlk e0 hret (hb hby d7_87) (by show _ ≤ 0; omega) (by show _ ≤ 0; omega) ?_
                  exact Or.inr (Or.inl ⟨rfl, N0, (fun q => q.elim hc1 (fun q => q.elim hc2 (fun q => q.elim hc3 (fun q => q.elim hc4 (fun q => q.elim hc5 hc6))))), (Or.inr (Or.inl hc8)), rfl⟩)
                · refine own_go (fun _ k => XS.icmpNo X0.here hx rfl (hb hby d7_44) rfl (feq hc8).1 k) ?_
                  show own_Go p e below s _ _ _ (T.setTop (mkF m 47 #[.val (.int p1)] []))
                  refine own_go (fun _ k => XS.iloadN X0.here hx rfl (hb hby d7_47) rfl k) ?_
                  show own_Go p e below s _ _ _ (T.setTop (mkF m 48 #[.val (.int p1)] [(.int p1)]))
                  refine own_go (fun _ k => XS.iconst X0.here hx rfl (hb hby d7_48) k) ?_
                  show own_Go p e below s _ _ _ (T.setTop (mkF m 49 #[.val (.int p1)] [(.int (4 : Int32)), (.int p1)]))
                  by_cases hc9 : p1 = (4 : Int32)
                  · refine own_go (fun _ k => XS.icmpYes X0.here hx rfl (pc0 := 49) (pc' := 86) rfl (hb hby d7_49) rfl (teq hc9).1 (by decide) (by decide) k) ?_
                    show own_Go p e below s _ _ _ (T.setTop (mkF m 86 #[.val (.int p1)] []))
                    refine own_go (fun _ k => XS.iconst X0.here hx rfl (hb hby d7_86) k) ?_
                    show own_Go p e below s _ _ _ (T.setTop (mkF m 87 #[.val (.int p1)] [(.int (2 : Int32))]))
                    refine own_retI X0 hx hlk e0 hret (hb hby d7_87) (by show _ ≤ 0; omega) (by show _ ≤ 0; omega) ?_
                    exact Or.inr (Or.inl ⟨rfl, N0, (fun q => q.elim hc1 (fun q => q.elim hc2 (fun q => q.elim hc3 (fun q => q.elim hc4 (fun q => q.elim hc5 hc6))))), (Or.inr (Or.inr (Or.inl hc9))), rfl⟩)
                  · refine own_go (fun _ k => XS.icmpNo X0.here hx rfl (hb hby d7_49) rfl (feq hc9).1 k) ?_
                    show own_Go p e below s _ _ _ (T.setTop (mkF m 52 #[.val (.int p1)] []))
                    refine own_go (fun _ k => XS.iloadN X0.here hx rfl (hb hby d7_52) rfl k) ?_
                    show own_Go p e below s _ _ _ (T.setTop (mkF m 53 #[.val (.int p1)] [(.int p1)]))
                    refine own_go (fun _ k => XS.bipush X0.here hx rfl (hb hby d7_53) k) ?_
                    show own_Go p e below s _ _ _ (T.setTop (mkF m 55 #[.val (.int p1)] [(.int (-5 : Int32)), (.int p1)]))
                    by_cases hc10 : p1 = (-5 : Int32)
                    · refine own_go (fun _ k => XS.icmpYes X0.here hx rfl (pc0 := 55) (pc' := 86) rfl (hb hby d7_55) rfl (teq hc10).1 (by decide) (by decide) k) ?_
                      show own_Go p e below s _ _ _ (T.setTop (mkF m 86 #[.val (.int p1)] []))
                      refine own_go (fun _ k => XS.iconst X0.here hx rfl (hb hby d7_86) k) ?_
                      show own_Go p e below s _ _ _ (T.setTop (mkF m 87 #[.val (.int p1)] [(.int (2 : Int32))]))
                      refine own_retI X0 hx hlk e0 hret (hb hby d7_87) (by show _ ≤ 0; omega) (by show _ ≤ 0; omega) ?_
                      exact Or.inr (Or.inl ⟨rfl, N0, (fun q => q.elim hc1 (fun q => q.elim hc2 (fun q => q.elim hc3 (fun q => q.elim hc4 (fun q => q.elim hc5 hc6))))), (Or.inr (Or.inr (Or.inr (Or.inl hc10)))), rfl⟩)
                    · refine own_go (fun _ k => XS.icmpNo X0.here hx rfl (hb hby d7_55) rfl (feq hc10).1 k) ?_
                      show own_Go p e below s _ _ _ (T.setTop (mkF m 58 #[.val (.int p1)] []))
                      refine own_go (fun _ k => XS.iloadN X0.here hx rfl (hb hby d7_58) rfl k) ?_
                      show own_Go p e below s _ _ _ (T.setTop (mkF m 59 #[.val (.int p1)] [(.int p1)]))
                      refine own_go (fun _ k => XS.iconst X0.here hx rfl (hb hby d7_59) k) ?_
                      show own_Go p e below s _ _ _ (T.setTop (mkF m 60 #[.val (.int p1)] [(.int (3 : Int32)), (.int p1)]))
                      by_cases hc11 : p1 = (3 : Int32)
                      · refine own_go (fun _ k => XS.icmpYes X0.here hx rfl (pc0 := 60) (pc' := 86) rfl (hb hby d7_60) rfl (teq hc11).1 (by decide) (by decide) k) ?_
                        show own_Go p e below s _ _ _ (T.setTop (mkF m 86 #[.val (.int p1)] []))
                        refine own_go (fun _ k => XS.iconst X0.here hx rfl (hb hby d7_86) k) ?_
                        show own_Go p e below s _ _ _ (T.setTop (mkF m 87 #[.val (.int p1)] [(.int (2 : Int32))]))
                        refine own_retI X0 hx hlk e0 hret (hb hby d7_87) (by show _ ≤ 0; omega) (by show _ ≤ 0; omega) ?_
                        exact Or.inr (Or.inl ⟨rfl, N0, (fun q => q.elim hc1 (fun q => q.elim hc2 (fun q => q.elim hc3 (fun q => q.elim hc4 (fun q => q.elim hc5 hc6))))), (Or.inr (Or.inr (Or.inr (Or.inr (Or.inl hc11))))), rfl⟩)
                      · refine own_go (fun _ k => XS.icmpNo X0.here hx rfl (hb hby d7_60) rfl (feq hc11).1 k) ?_
                        show own_Go p e below s _ _ _ (T.setTop (mkF m 63 #[.val (.int p1)] []))
                        refine own_go (fun _ k => XS.iloadN X0.here hx rfl (hb hby d7_63) rfl k) ?_
                        show own_Go p e below s _ _ _ (T.setTop (mkF m 64 #[.val (.int p1)] [(.int p1)]))
                        refine own_go (fun _ k => XS.iconst X0.here hx rfl (hb hby d7_64) k) ?_
                        show own_Go p e below s _ _ _ (T.setTop (mkF m 65 #[.val (.int p1)] [(.int (2 : Int32)), (.int p1)]))
                        by_cases hc12 : p1 = (2 : Int32)
                        · refine own_go (fun _ k => XS.icmpYes X0.here hx rfl (pc0 := 65) (pc' := 86) rfl (hb hby d7_65) rfl (teq hc12).1 (by decide) (by decide) k) ?_
                          show own_Go p e below s _ _ _ (T.setTop (mkF m 86 #[.val (.int p1)] []))
                          refine own_go (fun _ k => XS.iconst X0.here hx rfl (hb hby d7_86) k) ?_
                          show own_Go p e below s _ _ _ (T.setTop (mkF m 87 #[.val (.int p1)] [(.int (2 : Int32))]))
                          refine own_retI X0 hx hlk e0 hret (hb hby d7_87) (by show _ ≤ 0; omega) (by show _ ≤ 0; omega) ?_
                          exact Or.inr (Or.inl ⟨rfl, N0, (fun q => q.elim hc1 (fun q => q.elim hc2 (fun q => q.elim hc3 (fun q => q.elim hc4 (fun q => q.elim hc5 hc6))))), (Or.inr (Or.inr (Or.inr (Or.inr (Or.inr (Or.inl hc12)))))), rfl⟩)
                        · refine own_go (fun _ k => XS.icmpNo X0.here hx rfl (hb hby d7_65) rfl (feq hc12).1 k) ?_
                          show own_Go p e below s _ _ _ (T.setTop (mkF m 68 #[.val (.int p1)] []))
                          refine own_go (fun _ k => XS.iloadN X0.here hx rfl (hb hby d7_68) rfl k) ?_
                          show own_Go p e below s _ _ _ (T.setTop (mkF m 69 #[.val (.int p1)] [(.int p1)]))
                          refine own_go (fun _ k => XS.bipush X0.here hx rfl (hb hby d7_69) k) ?_
                          show own_Go p e below s _ _ _ (T.setTop (mkF m 71 #[.val (.int p1)] [(.int (7 : Int32)), (.int p1)]))
                          by_cases hc13 : p1 = (7 : Int32)
                          · refine own_go (fun _ k => XS.icmpYes X0.here hx rfl (pc0 := 71) (pc' := 86) rfl (hb hby d7_71) rfl (teq hc13).1 (by decide) (by decide) k) ?_
                            show own_Go p e below s _ _ _ (T.setTop (mkF m 86 #[.val (.int p1)] []))
                            refine own_go (fun _ k => XS.iconst X0.here hx rfl (hb hby d7_86) k) ?_
                            show own_Go p e below s _ _ _ (T.setTop (mkF m 87 #[.val (.int p1)] [(.int (2 : Int32))]))
                            refine own_retI X0 hx hlk e0 hret (hb hby d7_87) (by show _ ≤ 0; omega) (by show _ ≤ 0; omega) ?_
                            exact Or.inr (Or.inl ⟨rfl, N0, (fun q => q.elim hc1 (fun q => q.elim hc2 (fun q => q.elim hc3 (fun q => q.elim hc4 (fun q => q.elim hc5 hc6))))), (Or.inr (Or.inr (Or.inr (Or.inr (Or.inr (Or.inr (Or.inl hc13))))))), rfl⟩)
                          · refine own_go (fun _ k => XS.icmpNo X0.here hx rfl (hb hby d7_71) rfl (feq hc13).1 k) ?_
                            show own_Go p e below s _ _ _ (T.setTop (mkF m 74 #[.val (.int p1)] []))
                            refine own_go (fun _ k => XS.iloadN X0.here hx rfl (hb hby d7_74) rfl k) ?_
                            show own_Go p e below s _ _ _ (T.setTop (mkF m 75 #[.val (.int p1)] [(.int p1)]))
                            refine own_go (fun _ k => XS.bipush X0.here hx rfl (hb hby d7_75) k) ?_
                            show own_Go p e below s _ _ _ (T.setTop (mkF m 77 #[.val (.int p1)] [(.int (6 : Int32)), (.int p1)]))
                            by_cases hc14 : p1 = (6 : Int32)
                            · refine own_go (fun _ k => XS.icmpYes X0.here hx rfl (pc0 := 77) (pc' := 86) rfl (hb hby d7_77) rfl (teq hc14).1 (by decide) (by decide) k) ?_
                              show own_Go p e below s _ _ _ (T.setTop (mkF m 86 #[.val (.int p1)] []))
                              refine own_go (fun _ k => XS.iconst X0.here hx rfl (hb hby d7_86) k) ?_
                              show own_Go p e below s _ _ _ (T.setTop (mkF m 87 #[.val (.int p1)] [(.int (2 : Int32))]))
                              refine own_retI X0 hx hlk e0 hret (hb hby d7_87) (by show _ ≤ 0; omega) (by show _ ≤ 0; omega) ?_
                              exact Or.inr (Or.inl ⟨rfl, N0, (fun q => q.elim hc1 (fun q => q.elim hc2 (fun q => q.elim hc3 (fun q => q.elim hc4 (fun q => q.elim hc5 hc6))))), (Or.inr (Or.inr (Or.inr (Or.inr (Or.inr (Or.inr (Or.inr (Or.inl hc14)))))))), rfl⟩)
                            · refine own_go (fun _ k => XS.icmpNo X0.here hx rfl (hb hby d7_77) rfl (feq hc14).1 k) ?_
                              show own_Go p e below s _ _ _ (T.setTop (mkF m 80 #[.val (.int p1)] []))
                              refine own_go (fun _ k => XS.iloadN X0.here hx rfl (hb hby d7_80) rfl k) ?_
                              show own_Go p e below s _ _ _ (T.setTop (mkF m 81 #[.val (.int p1)] [(.int p1)]))
                              refine own_go (fun _ k => XS.bipush X0.here hx rfl (hb hby d7_81) k) ?_
                              show own_Go p e below s _ _ _ (T.setTop (mkF m 83 #[.val (.int p1)] [(.int (8 : Int32)), (.int p1)]))
                              by_cases hc15 : p1 = (8 : Int32)
                              · refine own_go (fun _ k => XS.icmpNo X0.here hx rfl (hb hby d7_83) rfl (teq hc15).2 k) ?_
                                show own_Go p e below s _ _ _ (T.setTop (mkF m 86 #[.val (.int p1)] []))
                                refine own_go (fun _ k => XS.iconst X0.here hx rfl (hb hby d7_86) k) ?_
                                show own_Go p e below s _ _ _ (T.setTop (mkF m 87 #[.val (.int p1)] [(.int (2 : Int32))]))
                                refine own_retI X0 hx hlk e0 hret (hb hby d7_87) (by show _ ≤ 0; omega) (by show _ ≤ 0; omega) ?_
                                exact Or.inr (Or.inl ⟨rfl, N0, (fun q => q.elim hc1 (fun q => q.elim hc2 (fun q => q.elim hc3 (fun q => q.elim hc4 (fun q => q.elim hc5 hc6))))), (Or.inr (Or.inr (Or.inr (Or.inr (Or.inr (Or.inr (Or.inr (Or.inr hc15)))))))), rfl⟩)
                              · refine own_go (fun _ k => XS.icmpYes X0.here hx rfl (pc0 := 83) (pc' := 88) rfl (hb hby d7_83) rfl (feq hc15).2 (by decide) (by decide) k) ?_
                                show own_Go p e below s _ _ _ (T.setTop (mkF m 88 #[.val (.int p1)] []))
                                refine own_go (fun _ k => XS.iconst X0.here hx rfl (hb hby d7_88) k) ?_
                                show own_Go p e below s _ _ _ (T.setTop (mkF m 89 #[.val (.int p1)] [(.int (0 : Int32))]))
                                refine own_retI X0 hx hlk e0 hret (hb hby d7_89) (by show _ ≤ 0; omega) (by show _ ≤ 0; omega) ?_
                                exact Or.inr (Or.inr (⟨rfl, N0, (fun q => q.elim hc1 (fun q => q.elim hc2 (fun q => q.elim hc3 (fun q => q.elim hc4 (fun q => q.elim hc5 hc6))))), (fun q => q.elim hc7 (fun q => q.elim hc8 (fun q => q.elim hc9 (fun q => q.elim hc10 (fun q => q.elim hc11 (fun q => q.elim hc12 (fun q => q.elim hc13 (fun q => q.elim hc14 hc15)))))))), rfl⟩))
theorem d1_0 : decode prog_103_method_4_code 0 = .ok (.iload_n 0, 1) := by decide +kernel
theorem d1_1 : decode prog_103_method_4_code 1 = .ok (.tableswitch 149 (-16) 12 #[131, 131, 149, 149, 149, 149, 149, 131, 149, 149, 140, 140, 149, 149, 149, 131, 149, 131, 140, 140, 140, 140, 140, 140, 140, 149, 149, 149, 131], 131) := by decide +kernel
theorem d1_132 : decode prog_103_method_4_code 132 = .ok (.getstatic 3, 3) := by decide +kernel
theorem d1_135 : decode prog_103_method_4_code 135 = .ok (.invokestatic 29, 3) := by decide +kernel
theorem d1_138 : decode prog_103_method_4_code 138 = .ok (.goto 15, 3) := by decide +kernel
theorem d1_141 : decode prog_103_method_4_code 141 = .ok (.getstatic 7, 3) := by decide +kernel
theorem d1_144 : decode prog_103_method_4_code 144 = .ok (.invokestatic 29, 3) := by decide +kernel
theorem d1_147 : decode prog_103_method_4_code 147 = .ok (.goto 6, 3) := by decide +kernel
theorem d1_150 : decode prog_103_method_4_code 150 = .ok (.invokestatic 35, 3) := by decide +kernel
theorem d1_153 : decode prog_103_method_4_code 153 = .ok (.areturn, 1) := by decide +kernel
def Q_vof (Z : State) (wx : Addr) (wy : Addr) (wz : Addr) (p1 : Int32) (h0 : Heap) (v : Option Value) (h : Heap) (L : List Loc) : Prop := (∃ b : Addr, v = some (.ref b) ∧ Fr Z.heap.size L ∧ own_isStr p1 ∧ Keep h0 h [] ∧ h0.size ≤ b ∧ Exa Z h b "java/util/Optional" ∧ Fld Z h b "java/util/Optional" "value" "Ljava/lang/Object;" (.ref wx)) ∨ (∃ b : Addr, v = some (.ref b) ∧ Fr Z.heap.size L ∧ ¬ (own_isStr p1) ∧ own_isNum p1 ∧ Keep h0 h [] ∧ h0.size ≤ b ∧ Exa Z h b "java/util/Optional" ∧ Fld Z h b "java/util/Optional" "value" "Ljava/lang/Object;" (.ref wy)) ∨ (v = some (.ref wz) ∧ Fr Z.heap.size L ∧ ¬ (own_isStr p1) ∧ ¬ (own_isNum p1) ∧ Keep h0 h [])
theorem ef_vof (m : MethodId) (x0 : Int32) : entryFrame m #[(.int x0)] 1 = mkF m 0 #[.val (.int x0)] [] := by first | (simp [entryFrame, mkF, argsToLocals, Value.category]; done) | rfl
set_option maxRecDepth 65536 in
set_option maxHeartbeats 40000000 in
theorem rm_vof (l : Launch) (Z : State) (a0 : Array Value) (hw : ∀ d ∈ tables_1, d.before a0 Z = true) {wx : Addr} {wy : Addr} {wz : Addr} (oA : Sta Z Z.heap "com/example/ibex/ibex/model/ValueKind" "STRING" "Lcom/example/ibex/ibex/model/ValueKind;" (.ref wx)) (oB : Sta Z Z.heap "com/example/ibex/ibex/model/ValueKind" "NUMBER" "Lcom/example/ibex/ibex/model/ValueKind;" (.ref wy)) (oE1 : Exa Z Z.heap wx "com/example/ibex/ibex/model/ValueKind") (oE2 : Exa Z Z.heap wy "com/example/ibex/ibex/model/ValueKind") (oNe : wx ≠ wy) (oM : Sta Z Z.heap "java/util/Optional" "EMPTY" "Ljava/util/Optional;" (.ref wz)) (oE3 : Exa Z Z.heap wz "java/util/Optional") (oF3 : Fld Z Z.heap wz "java/util/Optional" "value" "Ljava/lang/Object;" .null) (ws : List Jvm.Cond) (p1 : Int32) (h0 : Heap) (O0 : Ext Z.heap h0) :
    MetFree l (⟨"com/example/ibex/ibex/model/ValueKind", "of", "(I)Ljava/util/Optional;"⟩ : MethodName) (head1 (Jvm.Cond.code (⟨"com/example/ibex/ibex/model/ValueKind", "of", "(I)Ljava/util/Optional;"⟩ : MethodName) prog_103_method_4_code 1 (some (.object "java/util/Optional")) :: ws) ({ frames := 3, cells := 1, slots := 1, locals := 38 } : Room)) (fun a U => a = #[(.int p1)] ∧ Z.Warmed39 U.vm ∧ U.heap = h0) (fun _ _ _ _ _ => True) (fun _ U o U' => ∃ v L, o = .returned v ∧ (Q_vof Z wx wy wz p1 h0) v U'.heap L ∧ FrameEnd U o U' L ({ frames := 3, cells := 1, slots := 1, locals := 38 } : Room).cells ({ frames := 3, cells := 1, slots := 1, locals := 38 } : Room).slots) := by
  refine own_met (Q := (Q_vof Z wx wy wz p1 h0)) _ _ (plainFor_of_name own_pn_3) ?_
  intro p e s m below meth c T X0 hx hby hml hret hlk hZ hown hnm e0
  replace hown : s.vm.findClass "com/example/ibex/ibex/model/ValueKind" = some m.cls := hown
  replace hnm : meth.name = "of" := hnm
  have hml : c.maxLocals = 1 := hml
  have N0 := Fr.nil Z.heap.size
  have K0 := Keep.refl h0 []
  refine own_go (fun _ k => castTop (ef_vof m p1) k) ?_
  show own_Go p e below s _ _ _ (T.setTop (mkF m 0 #[.val (.int p1)] []))
  refine own_go (fun _ k => XS.iloadN X0.here hx rfl (hb hby d1_0) rfl k) ?_
  show own_Go p e below s _ _ _ (T.setTop (mkF m 1 #[.val (.int p1)] [(.int p1)]))
  rcases own_swc p1 with ⟨hs, hi, ho⟩ | ⟨hs, hm, hi, ho⟩ | ⟨hs, hm, hi, ho⟩ | ⟨hs, hm, hi⟩
  · refine own_go (fun _ k => XS.tswIn X0.here hx rfl (pc0 := 1) (pc' := 132) rfl (hb hby d1_1) rfl hi ho (by decide) (by decide) k) ?_
    show own_Go p e below s _ _ _ (T.setTop (mkF m 132 #[.val (.int p1)] []))
    obtain ⟨T1, X1, e1, st1⟩ := getS2 X0 hx hZ hown (host := "") (Or.inl (hw _ (List.mem_of_getElem? (i := 7) rfl))) Via.refl e0 (oA.ext O0) (g := (mkF m 132 #[.val (.int p1)] [])) rfl (hb hby d1_132)
    refine own_go st1 ?_
    show own_Go p e below s _ _ _ (T1.setTop (mkF m 135 #[.val (.int p1)] [(.ref wx)]))
    obtain ⟨v2, T2, L2, X2, hQ2, st2⟩ := own_callS (y := (⟨"java/util/Optional", "of", "(Ljava/lang/Object;)Ljava/util/Optional;"⟩ : MethodName)) X1 hx hZ hown (hw _ (List.mem_of_getElem? (i := 9) rfl)) (hw _ (List.mem_of_getElem? (i := 10) rfl)) (hw _ (List.mem_of_getElem? (i := 11) rfl)) (hw _ (List.mem_of_getElem? (i := 12) rfl)) (rm_oof l Z a0 hw oA oB oE1 oE2 oNe oM oE3 oF3 [] wx h0 O0) 0 1 1 rfl rfl (by decide) (by decide) (by decide) (by show _ ≤ 1; omega) (by show _ ≤ 1; omega) e1 (g := (mkF m 135 #[.val (.int p1)] [(.ref wx)])) rfl (by rw [hml]; rfl) [(.ref wx)] [] (lenOf own_pd_2 rfl) rfl rfl (by show 2 * 0 + _ ≤ _; exact Nat.le_of_eq rfl) (hb hby d1_135)
    obtain ⟨w3, rfl, Nc8, Kc7, hb4, f5, f6⟩ := hQ2
    refine own_go st2 ?_
    have N9 := Fr.app N0 Nc8
    have big10 : Z.heap.size ≤ w3 := Nat.le_trans O0.1 hb4
    have sz11 : h0.size ≤ w3 := Nat.le_trans K0.1 hb4
    have O12 := own_oldKeep O0 Kc7 all0
    have K13 : Keep h0 T2.heap [] := K0.trans Kc7 all0
    show own_Go p e below s _ _ _ (T2.setTop (mkF m 138 #[.val (.int p1)] [(.ref w3)]))
    refine own_go (fun _ k => XS.goto X2.here hx rfl (pc0 := 138) (pc' := 153) rfl (hb hby d1_138) (by decide) (by decide) k) ?_
    show own_Go p e below s _ _ _ (T2.setTop (mkF m 153 #[.val (.int p1)] [(.ref w3)]))
    refine own_retA X2 hx hlk (rfl : T2.heap = T2.heap) hret rfl rfl (hb hby d1_153) (by show _ ≤ 1; omega) (by show _ ≤ 1; omega) ?_
    exact Or.inl ⟨w3, rfl, N9, hs, K13, sz11, f5, f6⟩
  · refine own_go (fun _ k => XS.tswIn X0.here hx rfl (pc0 := 1) (pc' := 141) rfl (hb hby d1_1) rfl hi ho (by decide) (by decide) k) ?_
    show own_Go p e below s _ _ _ (T.setTop (mkF m 141 #[.val (.int p1)] []))
    obtain ⟨T14, X14, e14, st14⟩ := getS2 X0 hx hZ hown (host := "") (Or.inl (hw _ (List.mem_of_getElem? (i := 40) rfl))) Via.refl e0 (oB.ext O0) (g := (mkF m 141 #[.val (.int p1)] [])) rfl (hb hby d1_141)
    refine own_go st14 ?_
    show own_Go p e below s _ _ _ (T14.setTop (mkF m 144 #[.val (.int p1)] [(.ref wy)]))
    obtain ⟨v15, T15, L15, X15, hQ15, st15⟩ := own_callS (y := (⟨"java/util/Optional", "of", "(Ljava/lang/Object;)Ljava/util/Optional;"⟩ : MethodName)) X14 hx hZ hown (hw _ (List.mem_of_getElem? (i := 9) rfl)) (hw _ (List.mem_of_getElem? (i := 10) rfl)) (hw _ (List.mem_of_getElem? (i := 11) rfl)) (hw _ (List.mem_of_getElem? (i := 12) rfl)) (rm_oof l Z a0 hw oA oB oE1 oE2 oNe oM oE3 oF3 [] wy h0 O0) 0 1 1 rfl rfl (by decide) (by decide) (by decide) (by show _ ≤ 1; omega) (by show _ ≤ 1; omega) e14 (g := (mkF m 144 #[.val (.int p1)] [(.ref wy)])) rfl (by rw [hml]; rfl) [(.ref wy)] [] (lenOf own_pd_2 rfl) rfl rfl (by show 2 * 0 + _ ≤ _; exact Nat.le_of_eq rfl) (hb hby d1_144)
    obtain ⟨w16, rfl, Nc21, Kc20, hb17, f18, f19⟩ := hQ15
    refine own_go st15 ?_
    have N22 := Fr.app N0 Nc21
    have big23 : Z.heap.size ≤ w16 := Nat.le_trans O0.1 hb17
    have sz24 : h0.size ≤ w16 := Nat.le_trans K0.1 hb17
    have O25 := own_oldKeep O0 Kc20 all0
    have K26 : Keep h0 T15.heap [] := K0.trans Kc20 all0
    show own_Go p e below s _ _ _ (T15.setTop (mkF m 147 #[.val (.int p1)] [(.ref w16)]))
    refine own_go (fun _ k => XS.goto X15.here hx rfl (pc0 := 147) (pc' := 153) rfl (hb hby d1_147) (by decide) (by decide) k) ?_
    show own_Go p e below s _ _ _ (T15.setTop (mkF m 153 #[.val (.int p1)] [(.ref w16)]))
    refine own_retA X15 hx hlk (rfl : T15.heap = T15.heap) hret rfl rfl (hb hby d1_153) (by show _ ≤ 1; omega) (by show _ ≤ 1; omega) ?_
    exact Or.inr (Or.inl ⟨w16, rfl, N22, hs, hm, K26, sz24, f18, f19⟩)
  · refine own_go (fun _ k => XS.tswIn X0.here hx rfl (pc0 := 1) (pc' := 150) rfl (hb hby d1_1) rfl hi ho (by decide) (by decide) k) ?_
    show own_Go p e below s _ _ _ (T.setTop (mkF m 150 #[.val (.int p1)] []))
    obtain ⟨v27, T27, L27, X27, hQ27, st27⟩ := own_callS (y := (⟨"java/util/Optional", "empty", "()Ljava/util/Optional;"⟩ : MethodName)) X0 hx hZ hown (hw _ (List.mem_of_getElem? (i := 43) rfl)) (hw _ (List.mem_of_getElem? (i := 44) rfl)) (hw _ (List.mem_of_getElem? (i := 11) rfl)) (hw _ (List.mem_of_getElem? (i := 45) rfl)) (rm_oempty l Z a0 hw oA oB oE1 oE2 oNe oM oE3 oF3 []  h0 O0) 0 0 0 rfl rfl (by decide) (by decide) (by decide) (by show _ ≤ 1; omega) (by show _ ≤ 1; omega) e0 (g := (mkF m 150 #[.val (.int p1)] [])) rfl (by rw [hml]; rfl) [] [] (lenOf own_pd_3 rfl) rfl rfl (by show 2 * 0 + _ ≤ _; exact Nat.le_of_eq rfl) (hb hby d1_150)
    obtain ⟨rfl, Nc29, Kc28⟩ := hQ27
    refine own_go st27 ?_
    have N30 := Fr.app N0 Nc29
    show own_Go p e below s _ _ _ (T27.setTop (mkF m 153 #[.val (.int p1)] [(.ref wz)]))
    refine own_retA X27 hx hlk Kc28 hret rfl rfl (hb hby d1_153) (by show _ ≤ 1; omega) (by show _ ≤ 1; omega) ?_
    exact Or.inr (Or.inr (⟨rfl, N30, hs, hm, K0⟩))
  · refine own_go (fun _ k => XS.tswOut X0.here hx rfl (pc0 := 1) (pc' := 150) rfl (hb hby d1_1) rfl hi (by decide) (by decide) k) ?_
    show own_Go p e below s _ _ _ (T.setTop (mkF m 150 #[.val (.int p1)] []))
    obtain ⟨v31, T31, L31, X31, hQ31, st31⟩ := own_callS (y := (⟨"java/util/Optional", "empty", "()Ljava/util/Optional;"⟩ : MethodName)) X0 hx hZ hown (hw _ (List.mem_of_getElem? (i := 43) rfl)) (hw _ (List.mem_of_getElem? (i := 44) rfl)) (hw _ (List.mem_of_getElem? (i := 11) rfl)) (hw _ (List.mem_of_getElem? (i := 45) rfl)) (rm_oempty l Z a0 hw oA oB oE1 oE2 oNe oM oE3 oF3 []  h0 O0) 0 0 0 rfl rfl (by decide) (by decide) (by decide) (by show _ ≤ 1; omega) (by show _ ≤ 1; omega) e0 (g := (mkF m 150 #[.val (.int p1)] [])) rfl (by rw [hml]; rfl) [] [] (lenOf own_pd_3 rfl) rfl rfl (by show 2 * 0 + _ ≤ _; exact Nat.le_of_eq rfl) (hb hby d1_150)
    obtain ⟨rfl, Nc33, Kc32⟩ := hQ31
    refine own_go st31 ?_
    have N34 := Fr.app N0 Nc33
    show own_Go p e below s _ _ _ (T31.setTop (mkF m 153 #[.val (.int p1)] [(.ref wz)]))
    refine own_retA X31 hx hlk Kc32 hret rfl rfl (hb hby d1_153) (by show _ ≤ 1; omega) (by show _ ≤ 1; omega) ?_
    exact Or.inr (Or.inr (⟨rfl, N34, hs, hm, K0⟩))
def Q_law (Z : State) (wx : Addr) (wy : Addr) (wz : Addr) (p1 : Int32) (p2 : Int32) (h0 : Heap) (v : Option Value) (h : Heap) (L : List Loc) : Prop := (v = some (.int (1 : Int32)) ∧ Fr Z.heap.size L ∧ Keep h0 h [])
theorem ef_law (m : MethodId) (x0 : Int32) (x1 : Int32) : entryFrame m #[(.int x0), (.int x1)] maxLocals = mkF m 0 #[.val (.int x0), .val (.int x1), .unset, .unset, .unset, .unset] [] := by first | (simp [entryFrame, mkF, argsToLocals, Value.category, maxLocals]; done) | rfl
set_option maxRecDepth 65536 in
set_option maxHeartbeats 40000000 in
theorem rm_law (l : Launch) (Z : State) (a0 : Array Value) (hw : ∀ d ∈ tables_1, d.before a0 Z = true) {wx : Addr} {wy : Addr} {wz : Addr} (oA : Sta Z Z.heap "com/example/ibex/ibex/model/ValueKind" "STRING" "Lcom/example/ibex/ibex/model/ValueKind;" (.ref wx)) (oB : Sta Z Z.heap "com/example/ibex/ibex/model/ValueKind" "NUMBER" "Lcom/example/ibex/ibex/model/ValueKind;" (.ref wy)) (oE1 : Exa Z Z.heap wx "com/example/ibex/ibex/model/ValueKind") (oE2 : Exa Z Z.heap wy "com/example/ibex/ibex/model/ValueKind") (oNe : wx ≠ wy) (oM : Sta Z Z.heap "java/util/Optional" "EMPTY" "Ljava/util/Optional;" (.ref wz)) (oE3 : Exa Z Z.heap wz "java/util/Optional") (oF3 : Fld Z Z.heap wz "java/util/Optional" "value" "Ljava/lang/Object;" .null) (ws : List Jvm.Cond) (p1 : Int32) (p2 : Int32) (h0 : Heap) (O0 : Ext Z.heap h0) :
    MetFree l x (head1 (Jvm.Cond.code x code maxLocals ret :: ws) room_1) (fun a U => a = #[(.int p1), (.int p2)] ∧ Z.Warmed39 U.vm ∧ U.heap = h0) (fun _ _ _ _ _ => True) (fun _ U o U' => ∃ v L, o = .returned v ∧ (Q_law Z wx wy wz p1 p2 h0) v U'.heap L ∧ FrameEnd U o U' L room_1.cells room_1.slots) := by
  refine own_met (Q := (Q_law Z wx wy wz p1 p2 h0)) _ _ (plainFor_of_name own_pn_2) ?_
  intro p e s m below meth c T X0 hx hby hml hret hlk hZ hown hnm e0
  replace hown : s.vm.findClass "com/example/ibex/ibex/model/ValueKindOfPinLaw" = some m.cls := hown
  replace hnm : meth.name = "law" := hnm
  have hml : c.maxLocals = 6 := hml
  have N0 := Fr.nil Z.heap.size
  have K0 := Keep.refl h0 []
  refine own_go (fun _ k => castTop (ef_law m p1 p2) k) ?_
  show own_Go p e below s _ _ _ (T.setTop (mkF m 0 #[.val (.int p1), .val (.int p2), .unset, .unset, .unset, .unset] []))
  refine own_go (fun _ k => XS.bipush X0.here hx rfl (hb hby at_0) k) ?_
  show own_Go p e below s _ _ _ (T.setTop (mkF m 2 #[.val (.int p1), .val (.int p2), .unset, .unset, .unset, .unset] [(.int (32 : Int32))]))
  obtain ⟨T1, h1, k1, X1, e1, E1, A1, st1⟩ := newP X0 hx hZ (hw _ (List.mem_of_getElem? (i := 0) rfl)) e0 (g := (mkF m 2 #[.val (.int p1), .val (.int p2), .unset, .unset, .unset, .unset] [(.int (32 : Int32))])) rfl (hb hby at_2) rfl (by decide) (cap := 32) (by decide) (by decide) (by show _ ≤ 16; omega) (by show _ ≤ 192; omega)
  obtain ⟨b1, g1⟩ : ∃ z, z = h0.size := ⟨_, rfl⟩
  rw [← g1] at A1 st1
  refine own_go st1 ?_
  have ge1 := Nat.le_of_eq g1.symm
  have big2 : Z.heap.size ≤ b1 := Nat.le_trans O0.1 ge1
  have sz3 : h0.size ≤ b1 := Nat.le_trans K0.1 ge1
  have O4 := own_oldExt O0 E1
  have K5 := K0.ext E1
  have f6 : Arv Z h1 b1 k1 .int (32 : Int32) [(.int (0 : Int32)), (.int (0 : Int32)), (.int (0 : Int32)), (.int (0 : Int32)), (.int (0 : Int32)), (.int (0 : Int32)), (.int (0 : Int32)), (.int (0 : Int32)), (.int (0 : Int32)), (.int (0 : Int32)), (.int (0 : Int32)), (.int (0 : Int32)), (.int (0 : Int32)), (.int (0 : Int32)), (.int (0 : Int32)), (.int (0 : Int32)), (.int (0 : Int32)), (.int (0 : Int32)), (.int (0 : Int32)), (.int (0 : Int32)), (.int (0 : Int32)), (.int (0 : Int32)), (.int (0 : Int32)), (.int (0 : Int32)), (.int (0 : Int32)), (.int (0 : Int32)), (.int (0 : Int32)), (.int (0 : Int32)), (.int (0 : Int32)), (.int (0 : Int32)), (.int (0 : Int32)), (.int (0 : Int32))] (.int (0 : Int32)) := (Arv.new A1 (by decide)).pad (pad_rep [] (.int (0 : Int32)) 32)
  show own_Go p e below s _ _ _ (T1.setTop (mkF m 4 #[.val (.int p1), .val (.int p2), .unset, .unset, .unset, .unset] [(.ref b1)]))
  refine own_go (fun _ k => XS.dup X1.here hx rfl (hb hby at_4) rfl rfl k) ?_
  show own_Go p e below s _ _ _ (T1.setTop (mkF m 5 #[.val (.int p1), .val (.int p2), .unset, .unset, .unset, .unset] [(.ref b1), (.ref b1)]))
  refine own_go (fun _ k => XS.iconst X1.here hx rfl (hb hby at_5) k) ?_
  show own_Go p e below s _ _ _ (T1.setTop (mkF m 6 #[.val (.int p1), .val (.int p2), .unset, .unset, .unset, .unset] [(.int (0 : Int32)), (.ref b1), (.ref b1)]))
  refine own_go (fun _ k => XS.iconst X1.here hx rfl (hb hby at_6) k) ?_
  show own_Go p e below s _ _ _ (T1.setTop (mkF m 7 #[.val (.int p1), .val (.int p2), .unset, .unset, .unset, .unset] [(.int (1 : Int32)), (.int (0 : Int32)), (.ref b1), (.ref b1)]))
  obtain ⟨cl7, Ar7, q7, S7, M7, P7, G7⟩ := f6
  have hin7 : ¬ ((0 : Int32) < 0 ∨ cl7.slots.size ≤ ((0 : Int32)).toNatClampNeg) := inb_of S7 ⟨by decide, by decide⟩
  obtain ⟨T8, h8, X8, e8, W8, st8⟩ := stI X1 hx hZ e1 Ar7 (j := (0 : Int32)) hin7 (g := (mkF m 7 #[.val (.int p1), .val (.int p2), .unset, .unset, .unset, .unset] [(.int (1 : Int32)), (.int (0 : Int32)), (.ref b1), (.ref b1)])) rfl rfl (hb hby at_7)
  refine own_go st8 ?_
  have f9 : Arv Z h8 b1 k1 .int (32 : Int32) [(.int (1 : Int32)), (.int (0 : Int32)), (.int (0 : Int32)), (.int (0 : Int32)), (.int (0 : Int32)), (.int (0 : Int32)), (.int (0 : Int32)), (.int (0 : Int32)), (.int (0 : Int32)), (.int (0 : Int32)), (.int (0 : Int32)), (.int (0 : Int32)), (.int (0 : Int32)), (.int (0 : Int32)), (.int (0 : Int32)), (.int (0 : Int32)), (.int (0 : Int32)), (.int (0 : Int32)), (.int (0 : Int32)), (.int (0 : Int32)), (.int (0 : Int32)), (.int (0 : Int32)), (.int (0 : Int32)), (.int (0 : Int32)), (.int (0 : Int32)), (.int (0 : Int32)), (.int (0 : Int32)), (.int (0 : Int32)), (.int (0 : Int32)), (.int (0 : Int32)), (.int (0 : Int32)), (.int (0 : Int32))] (.int (0 : Int32)) := Arv.set Ar7 q7 S7 M7 P7 G7 rfl W8 0 rfl (Nat.le_of_ble_eq_true rfl)
  have N10 := Fr.snoc X8 N0 big2
  have O12 := own_oldWr O4 W8 big2
  have K13 : Keep h0 h8 [] := K5.wr W8 (Or.inr sz3)
  show own_Go p e below s _ _ _ (T8.setTop (mkF m 8 #[.val (.int p1), .val (.int p2), .unset, .unset, .unset, .unset] [(.ref b1)]))
  refine own_go (fun _ k => XS.dup X8.here hx rfl (hb hby at_8) rfl rfl k) ?_
  show own_Go p e below s _ _ _ (T8.setTop (mkF m 9 #[.val (.int p1), .val (.int p2), .unset, .unset, .unset, .unset] [(.ref b1), (.ref b1)]))
  refine own_go (fun _ k => XS.iconst X8.here hx rfl (hb hby at_9) k) ?_
  show own_Go p e below s _ _ _ (T8.setTop (mkF m 10 #[.val (.int p1), .val (.int p2), .unset, .unset, .unset, .unset] [(.int (1 : Int32)), (.ref b1), (.ref b1)]))
  refine own_go (fun _ k => XS.bipush X8.here hx rfl (hb hby at_10) k) ?_
  show own_Go p e below s _ _ _ (T8.setTop (mkF m 12 #[.val (.int p1), .val (.int p2), .unset, .unset, .unset, .unset] [(.int (12 : Int32)), (.int (1 : Int32)), (.ref b1), (.ref b1)]))
  obtain ⟨cl14, Ar14, q14, S14, M14, P14, G14⟩ := f9
  have hin14 : ¬ ((1 : Int32) < 0 ∨ cl14.slots.size ≤ ((1 : Int32)).toNatClampNeg) := inb_of S14 ⟨by decide, by decide⟩
  obtain ⟨T15, h15, X15, e15, W15, st15⟩ := stI X8 hx hZ e8 Ar14 (j := (1 : Int32)) hin14 (g := (mkF m 12 #[.val (.int p1), .val (.int p2), .unset, .unset, .unset, .unset] [(.int (12 : Int32)), (.int (1 : Int32)), (.ref b1), (.ref b1)])) rfl rfl (hb hby at_12)
  refine own_go st15 ?_
  have f16 : Arv Z h15 b1 k1 .int (32 : Int32) [(.int (1 : Int32)), (.int (12 : Int32)), (.int (0 : Int32)), (.int (0 : Int32)), (.int (0 : Int32)), (.int (0 : Int32)), (.int (0 : Int32)), (.int (0 : Int32)), (.int (0 : Int32)), (.int (0 : Int32)), (.int (0 : Int32)), (.int (0 : Int32)), (.int (0 : Int32)), (.int (0 : Int32)), (.int (0 : Int32)), (.int (0 : Int32)), (.int (0 : Int32)), (.int (0 : Int32)), (.int (0 : Int32)), (.int (0 : Int32)), (.int (0 : Int32)), (.int (0 : Int32)), (.int (0 : Int32)), (.int (0 : Int32)), (.int (0 : Int32)), (.int (0 : Int32)), (.int (0 : Int32)), (.int (0 : Int32)), (.int (0 : Int32)), (.int (0 : Int32)), (.int (0 : Int32)), (.int (0 : Int32))] (.int (0 : Int32)) := Arv.set Ar14 q14 S14 M14 P14 G14 rfl W15 1 rfl (Nat.le_of_ble_eq_true rfl)
  have N17 := Fr.snoc X15 N10 big2
  have O19 := own_oldWr O12 W15 big2
  have K20 : Keep h0 h15 [] := K13.wr W15 (Or.inr sz3)
  show own_Go p e below s _ _ _ (T15.setTop (mkF m 13 #[.val (.int p1), .val (.int p2), .unset, .unset, .unset, .unset] [(.ref b1)]))
  refine own_go (fun _ k => XS.dup X15.here hx rfl (hb hby at_13) rfl rfl k) ?_
  show own_Go p e below s _ _ _ (T15.setTop (mkF m 14 #[.val (.int p1), .val (.int p2), .unset, .unset, .unset, .unset] [(.ref b1), (.ref b1)]))
  refine own_go (fun _ k => XS.iconst X15.here hx rfl (hb hby at_14) k) ?_
  show own_Go p e below s _ _ _ (T15.setTop (mkF m 15 #[.val (.int p1), .val (.int p2), .unset, .unset, .unset, .unset] [(.int (2 : Int32)), (.ref b1), (.ref b1)]))
  refine own_go (fun _ k => XS.iconst X15.here hx rfl (hb hby at_15) k) ?_
  show own_Go p e below s _ _ _ (T15.setTop (mkF m 16 #[.val (.int p1), .val (.int p2), .unset, .unset, .unset, .unset] [(.int (-1 : Int32)), (.int (2 : Int32)), (.ref b1), (.ref b1)]))
  obtain ⟨cl21, Ar21, q21, S21, M21, P21, G21⟩ := f16
  have hin21 : ¬ ((2 : Int32) < 0 ∨ cl21.slots.size ≤ ((2 : Int32)).toNatClampNeg) := inb_of S21 ⟨by decide, by decide⟩
  obtain ⟨T22, h22, X22, e22, W22, st22⟩ := stI X15 hx hZ e15 Ar21 (j := (2 : Int32)) hin21 (g := (mkF m 16 #[.val (.int p1), .val (.int p2), .unset, .unset, .unset, .unset] [(.int (-1 : Int32)), (.int (2 : Int32)), (.ref b1), (.ref b1)])) rfl rfl (hb hby at_16)
  refine own_go st22 ?_
  have f23 : Arv Z h22 b1 k1 .int (32 : Int32) [(.int (1 : Int32)), (.int (12 : Int32)), (.int (-1 : Int32)), (.int (0 : Int32)), (.int (0 : Int32)), (.int (0 : Int32)), (.int (0 : Int32)), (.int (0 : Int32)), (.int (0 : Int32)), (.int (0 : Int32)), (.int (0 : Int32)), (.int (0 : Int32)), (.int (0 : Int32)), (.int (0 : Int32)), (.int (0 : Int32)), (.int (0 : Int32)), (.int (0 : Int32)), (.int (0 : Int32)), (.int (0 : Int32)), (.int (0 : Int32)), (.int (0 : Int32)), (.int (0 : Int32)), (.int (0 : Int32)), (.int (0 : Int32)), (.int (0 : Int32)), (.int (0 : Int32)), (.int (0 : Int32)), (.int (0 : Int32)), (.int (0 : Int32)), (.int (0 : Int32)), (.int (0 : Int32)), (.int (0 : Int32))] (.int (0 : Int32)) := Arv.set Ar21 q21 S21 M21 P21 G21 rfl W22 2 rfl (Nat.le_of_ble_eq_true rfl)
  have N24 := Fr.snoc X22 N17 big2
  have O26 := own_oldWr O19 W22 big2
  have K27 : Keep h0 h22 [] := K20.wr W22 (Or.inr sz3)
  show own_Go p e below s _ _ _ (T22.setTop (mkF m 17 #[.val (.int p1), .val (.int p2), .unset, .unset, .unset, .unset] [(.ref b1)]))
  refine own_go (fun _ k => XS.dup X22.here hx rfl (hb hby at_17) rfl rfl k) ?_
  show own_Go p e below s _ _ _ (T22.setTop (mkF m 18 #[.val (.int p1), .val (.int p2), .unset, .unset, .unset, .unset] [(.ref b1), (.ref b1)]))
  refine own_go (fun _ k => XS.iconst X22.here hx rfl (hb hby at_18) k) ?_
  show own_Go p e below s _ _ _ (T22.setTop (mkF m 19 #[.val (.int p1), .val (.int p2), .unset, .unset, .unset, .unset] [(.int (3 : Int32)), (.ref b1), (.ref b1)]))
  refine own_go (fun _ k => XS.bipush X22.here hx rfl (hb hby at_19) k) ?_
  show own_Go p e below s _ _ _ (T22.setTop (mkF m 21 #[.val (.int p1), .val (.int p2), .unset, .unset, .unset, .unset] [(.int (-15 : Int32)), (.int (3 : Int32)), (.ref b1), (.ref b1)]))
  obtain ⟨cl28, Ar28, q28, S28, M28, P28, G28⟩ := f23
  have hin28 : ¬ ((3 : Int32) < 0 ∨ cl28.slots.size ≤ ((3 : Int32)).toNatClampNeg) := inb_of S28 ⟨by decide, by decide⟩
  obtain ⟨T29, h29, X29, e29, W29, st29⟩ := stI X22 hx hZ e22 Ar28 (j := (3 : Int32)) hin28 (g := (mkF m 21 #[.val (.int p1), .val (.int p2), .unset, .unset, .unset, .unset] [(.int (-15 : Int32)), (.int (3 : Int32)), (.ref b1), (.ref b1)])) rfl rfl (hb hby at_21)
  refine own_go st29 ?_
  have f30 : Arv Z h29 b1 k1 .int (32 : Int32) [(.int (1 : Int32)), (.int (12 : Int32)), (.int (-1 : Int32)), (.int (-15 : Int32)), (.int (0 : Int32)), (.int (0 : Int32)), (.int (0 : Int32)), (.int (0 : Int32)), (.int (0 : Int32)), (.int (0 : Int32)), (.int (0 : Int32)), (.int (0 : Int32)), (.int (0 : Int32)), (.int (0 : Int32)), (.int (0 : Int32)), (.int (0 : Int32)), (.int (0 : Int32)), (.int (0 : Int32)), (.int (0 : Int32)), (.int (0 : Int32)), (.int (0 : Int32)), (.int (0 : Int32)), (.int (0 : Int32)), (.int (0 : Int32)), (.int (0 : Int32)), (.int (0 : Int32)), (.int (0 : Int32)), (.int (0 : Int32)), (.int (0 : Int32)), (.int (0 : Int32)), (.int (0 : Int32)), (.int (0 : Int32))] (.int (0 : Int32)) := Arv.set Ar28 q28 S28 M28 P28 G28 rfl W29 3 rfl (Nat.le_of_ble_eq_true rfl)
  have N31 := Fr.snoc X29 N24 big2
  have O33 := own_oldWr O26 W29 big2
  have K34 : Keep h0 h29 [] := K27.wr W29 (Or.inr sz3)
  show own_Go p e below s _ _ _ (T29.setTop (mkF m 22 #[.val (.int p1), .val (.int p2), .unset, .unset, .unset, .unset] [(.ref b1)]))
  refine own_go (fun _ k => XS.dup X29.here hx rfl (hb hby at_22) rfl rfl k) ?_
  show own_Go p e below s _ _ _ (T29.setTop (mkF m 23 #[.val (.int p1), .val (.int p2), .unset, .unset, .unset, .unset] [(.ref b1), (.ref b1)]))
  refine own_go (fun _ k => XS.iconst X29.here hx rfl (hb hby at_23) k) ?_
  show own_Go p e below s _ _ _ (T29.setTop (mkF m 24 #[.val (.int p1), .val (.int p2), .unset, .unset, .unset, .unset] [(.int (4 : Int32)), (.ref b1), (.ref b1)]))
  refine own_go (fun _ k => XS.bipush X29.here hx rfl (hb hby at_24) k) ?_
  show own_Go p e below s _ _ _ (T29.setTop (mkF m 26 #[.val (.int p1), .val (.int p2), .unset, .unset, .unset, .unset] [(.int (-9 : Int32)), (.int (4 : Int32)), (.ref b1), (.ref b1)]))
  obtain ⟨cl35, Ar35, q35, S35, M35, P35, G35⟩ := f30
  have hin35 : ¬ ((4 : Int32) < 0 ∨ cl35.slots.size ≤ ((4 : Int32)).toNatClampNeg) := inb_of S35 ⟨by decide, by decide⟩
  obtain ⟨T36, h36, X36, e36, W36, st36⟩ := stI X29 hx hZ e29 Ar35 (j := (4 : Int32)) hin35 (g := (mkF m 26 #[.val (.int p1), .val (.int p2), .unset, .unset, .unset, .unset] [(.int (-9 : Int32)), (.int (4 : Int32)), (.ref b1), (.ref b1)])) rfl rfl (hb hby at_26)
  refine own_go st36 ?_
  have f37 : Arv Z h36 b1 k1 .int (32 : Int32) [(.int (1 : Int32)), (.int (12 : Int32)), (.int (-1 : Int32)), (.int (-15 : Int32)), (.int (-9 : Int32)), (.int (0 : Int32)), (.int (0 : Int32)), (.int (0 : Int32)), (.int (0 : Int32)), (.int (0 : Int32)), (.int (0 : Int32)), (.int (0 : Int32)), (.int (0 : Int32)), (.int (0 : Int32)), (.int (0 : Int32)), (.int (0 : Int32)), (.int (0 : Int32)), (.int (0 : Int32)), (.int (0 : Int32)), (.int (0 : Int32)), (.int (0 : Int32)), (.int (0 : Int32)), (.int (0 : Int32)), (.int (0 : Int32)), (.int (0 : Int32)), (.int (0 : Int32)), (.int (0 : Int32)), (.int (0 : Int32)), (.int (0 : Int32)), (.int (0 : Int32)), (.int (0 : Int32)), (.int (0 : Int32))] (.int (0 : Int32)) := Arv.set Ar35 q35 S35 M35 P35 G35 rfl W36 4 rfl (Nat.le_of_ble_eq_true rfl)
  have N38 := Fr.snoc X36 N31 big2
  have O40 := own_oldWr O33 W36 big2
  have K41 : Keep h0 h36 [] := K34.wr W36 (Or.inr sz3)
  show own_Go p e below s _ _ _ (T36.setTop (mkF m 27 #[.val (.int p1), .val (.int p2), .unset, .unset, .unset, .unset] [(.ref b1)]))
  refine own_go (fun _ k => XS.dup X36.here hx rfl (hb hby at_27) rfl rfl k) ?_
  show own_Go p e below s _ _ _ (T36.setTop (mkF m 28 #[.val (.int p1), .val (.int p2), .unset, .unset, .unset, .unset] [(.ref b1), (.ref b1)]))
  refine own_go (fun _ k => XS.iconst X36.here hx rfl (hb hby at_28) k) ?_
  show own_Go p e below s _ _ _ (T36.setTop (mkF m 29 #[.val (.int p1), .val (.int p2), .unset, .unset, .unset, .unset] [(.int (5 : Int32)), (.ref b1), (.ref b1)]))
  refine own_go (fun _ k => XS.bipush X36.here hx rfl (hb hby at_29) k) ?_
  show own_Go p e below s _ _ _ (T36.setTop (mkF m 31 #[.val (.int p1), .val (.int p2), .unset, .unset, .unset, .unset] [(.int (-16 : Int32)), (.int (5 : Int32)), (.ref b1), (.ref b1)]))
  obtain ⟨cl42, Ar42, q42, S42, M42, P42, G42⟩ := f37
  have hin42 : ¬ ((5 : Int32) < 0 ∨ cl42.slots.size ≤ ((5 : Int32)).toNatClampNeg) := inb_of S42 ⟨by decide, by decide⟩
  obtain ⟨T43, h43, X43, e43, W43, st43⟩ := stI X36 hx hZ e36 Ar42 (j := (5 : Int32)) hin42 (g := (mkF m 31 #[.val (.int p1), .val (.int p2), .unset, .unset, .unset, .unset] [(.int (-16 : Int32)), (.int (5 : Int32)), (.ref b1), (.ref b1)])) rfl rfl (hb hby at_31)
  refine own_go st43 ?_
  have f44 : Arv Z h43 b1 k1 .int (32 : Int32) [(.int (1 : Int32)), (.int (12 : Int32)), (.int (-1 : Int32)), (.int (-15 : Int32)), (.int (-9 : Int32)), (.int (-16 : Int32)), (.int (0 : Int32)), (.int (0 : Int32)), (.int (0 : Int32)), (.int (0 : Int32)), (.int (0 : Int32)), (.int (0 : Int32)), (.int (0 : Int32)), (.int (0 : Int32)), (.int (0 : Int32)), (.int (0 : Int32)), (.int (0 : Int32)), (.int (0 : Int32)), (.int (0 : Int32)), (.int (0 : Int32)), (.int (0 : Int32)), (.int (0 : Int32)), (.int (0 : Int32)), (.int (0 : Int32)), (.int (0 : Int32)), (.int (0 : Int32)), (.int (0 : Int32)), (.int (0 : Int32)), (.int (0 : Int32)), (.int (0 : Int32)), (.int (0 : Int32)), (.int (0 : Int32))] (.int (0 : Int32)) := Arv.set Ar42 q42 S42 M42 P42 G42 rfl W43 5 rfl (Nat.le_of_ble_eq_true rfl)
  have N45 := Fr.snoc X43 N38 big2
  have O47 := own_oldWr O40 W43 big2
  have K48 : Keep h0 h43 [] := K41.wr W43 (Or.inr sz3)
  show own_Go p e below s _ _ _ (T43.setTop (mkF m 32 #[.val (.int p1), .val (.int p2), .unset, .unset, .unset, .unset] [(.ref b1)]))
  refine own_go (fun _ k => XS.dup X43.here hx rfl (hb hby at_32) rfl rfl k) ?_
  show own_Go p e below s _ _ _ (T43.setTop (mkF m 33 #[.val (.int p1), .val (.int p2), .unset, .unset, .unset, .unset] [(.ref b1), (.ref b1)]))
  refine own_go (fun _ k => XS.bipush X43.here hx rfl (hb hby at_33) k) ?_
  show own_Go p e below s _ _ _ (T43.setTop (mkF m 35 #[.val (.int p1), .val (.int p2), .unset, .unset, .unset, .unset] [(.int (6 : Int32)), (.ref b1), (.ref b1)]))
  refine own_go (fun _ k => XS.bipush X43.here hx rfl (hb hby at_35) k) ?_
  show own_Go p e below s _ _ _ (T43.setTop (mkF m 37 #[.val (.int p1), .val (.int p2), .unset, .unset, .unset, .unset] [(.int (-6 : Int32)), (.int (6 : Int32)), (.ref b1), (.ref b1)]))
  obtain ⟨cl49, Ar49, q49, S49, M49, P49, G49⟩ := f44
  have hin49 : ¬ ((6 : Int32) < 0 ∨ cl49.slots.size ≤ ((6 : Int32)).toNatClampNeg) := inb_of S49 ⟨by decide, by decide⟩
  obtain ⟨T50, h50, X50, e50, W50, st50⟩ := stI X43 hx hZ e43 Ar49 (j := (6 : Int32)) hin49 (g := (mkF m 37 #[.val (.int p1), .val (.int p2), .unset, .unset, .unset, .unset] [(.int (-6 : Int32)), (.int (6 : Int32)), (.ref b1), (.ref b1)])) rfl rfl (hb hby at_37)
  refine own_go st50 ?_
  have f51 : Arv Z h50 b1 k1 .int (32 : Int32) [(.int (1 : Int32)), (.int (12 : Int32)), (.int (-1 : Int32)), (.int (-15 : Int32)), (.int (-9 : Int32)), (.int (-16 : Int32)), (.int (-6 : Int32)), (.int (0 : Int32)), (.int (0 : Int32)), (.int (0 : Int32)), (.int (0 : Int32)), (.int (0 : Int32)), (.int (0 : Int32)), (.int (0 : Int32)), (.int (0 : Int32)), (.int (0 : Int32)), (.int (0 : Int32)), (.int (0 : Int32)), (.int (0 : Int32)), (.int (0 : Int32)), (.int (0 : Int32)), (.int (0 : Int32)), (.int (0 : Int32)), (.int (0 : Int32)), (.int (0 : Int32)), (.int (0 : Int32)), (.int (0 : Int32)), (.int (0 : Int32)), (.int (0 : Int32)), (.int (0 : Int32)), (.int (0 : Int32)), (.int (0 : Int32))] (.int (0 : Int32)) := Arv.set Ar49 q49 S49 M49 P49 G49 rfl W50 6 rfl (Nat.le_of_ble_eq_true rfl)
  have N52 := Fr.snoc X50 N45 big2
  have O54 := own_oldWr O47 W50 big2
  have K55 : Keep h0 h50 [] := K48.wr W50 (Or.inr sz3)
  show own_Go p e below s _ _ _ (T50.setTop (mkF m 38 #[.val (.int p1), .val (.int p2), .unset, .unset, .unset, .unset] [(.ref b1)]))
  refine own_go (fun _ k => XS.dup X50.here hx rfl (hb hby at_38) rfl rfl k) ?_
  show own_Go p e below s _ _ _ (T50.setTop (mkF m 39 #[.val (.int p1), .val (.int p2), .unset, .unset, .unset, .unset] [(.ref b1), (.ref b1)]))
  refine own_go (fun _ k => XS.bipush X50.here hx rfl (hb hby at_39) k) ?_
  show own_Go p e below s _ _ _ (T50.setTop (mkF m 41 #[.val (.int p1), .val (.int p2), .unset, .unset, .unset, .unset] [(.int (7 : Int32)), (.ref b1), (.ref b1)]))
  refine own_go (fun _ k => XS.iconst X50.here hx rfl (hb hby at_41) k) ?_
  show own_Go p e below s _ _ _ (T50.setTop (mkF m 42 #[.val (.int p1), .val (.int p2), .unset, .unset, .unset, .unset] [(.int (5 : Int32)), (.int (7 : Int32)), (.ref b1), (.ref b1)]))
  obtain ⟨cl56, Ar56, q56, S56, M56, P56, G56⟩ := f51
  have hin56 : ¬ ((7 : Int32) < 0 ∨ cl56.slots.size ≤ ((7 : Int32)).toNatClampNeg) := inb_of S56 ⟨by decide, by decide⟩
  obtain ⟨T57, h57, X57, e57, W57, st57⟩ := stI X50 hx hZ e50 Ar56 (j := (7 : Int32)) hin56 (g := (mkF m 42 #[.val (.int p1), .val (.int p2), .unset, .unset, .unset, .unset] [(.int (5 : Int32)), (.int (7 : Int32)), (.ref b1), (.ref b1)])) rfl rfl (hb hby at_42)
  refine own_go st57 ?_
  have f58 : Arv Z h57 b1 k1 .int (32 : Int32) [(.int (1 : Int32)), (.int (12 : Int32)), (.int (-1 : Int32)), (.int (-15 : Int32)), (.int (-9 : Int32)), (.int (-16 : Int32)), (.int (-6 : Int32)), (.int (5 : Int32)), (.int (0 : Int32)), (.int (0 : Int32)), (.int (0 : Int32)), (.int (0 : Int32)), (.int (0 : Int32)), (.int (0 : Int32)), (.int (0 : Int32)), (.int (0 : Int32)), (.int (0 : Int32)), (.int (0 : Int32)), (.int (0 : Int32)), (.int (0 : Int32)), (.int (0 : Int32)), (.int (0 : Int32)), (.int (0 : Int32)), (.int (0 : Int32)), (.int (0 : Int32)), (.int (0 : Int32)), (.int (0 : Int32)), (.int (0 : Int32)), (.int (0 : Int32)), (.int (0 : Int32)), (.int (0 : Int32)), (.int (0 : Int32))] (.int (0 : Int32)) := Arv.set Ar56 q56 S56 M56 P56 G56 rfl W57 7 rfl (Nat.le_of_ble_eq_true rfl)
  have N59 := Fr.snoc X57 N52 big2
  have O61 := own_oldWr O54 W57 big2
  have K62 : Keep h0 h57 [] := K55.wr W57 (Or.inr sz3)
  show own_Go p e below s _ _ _ (T57.setTop (mkF m 43 #[.val (.int p1), .val (.int p2), .unset, .unset, .unset, .unset] [(.ref b1)]))
  refine own_go (fun _ k => XS.dup X57.here hx rfl (hb hby at_43) rfl rfl k) ?_
  show own_Go p e below s _ _ _ (T57.setTop (mkF m 44 #[.val (.int p1), .val (.int p2), .unset, .unset, .unset, .unset] [(.ref b1), (.ref b1)]))
  refine own_go (fun _ k => XS.bipush X57.here hx rfl (hb hby at_44) k) ?_
  show own_Go p e below s _ _ _ (T57.setTop (mkF m 46 #[.val (.int p1), .val (.int p2), .unset, .unset, .unset, .unset] [(.int (8 : Int32)), (.ref b1), (.ref b1)]))
  refine own_go (fun _ k => XS.iconst X57.here hx rfl (hb hby at_46) k) ?_
  show own_Go p e below s _ _ _ (T57.setTop (mkF m 47 #[.val (.int p1), .val (.int p2), .unset, .unset, .unset, .unset] [(.int (4 : Int32)), (.int (8 : Int32)), (.ref b1), (.ref b1)]))
  obtain ⟨cl63, Ar63, q63, S63, M63, P63, G63⟩ := f58
  have hin63 : ¬ ((8 : Int32) < 0 ∨ cl63.slots.size ≤ ((8 : Int32)).toNatClampNeg) := inb_of S63 ⟨by decide, by decide⟩
  obtain ⟨T64, h64, X64, e64, W64, st64⟩ := stI X57 hx hZ e57 Ar63 (j := (8 : Int32)) hin63 (g := (mkF m 47 #[.val (.int p1), .val (.int p2), .unset, .unset, .unset, .unset] [(.int (4 : Int32)), (.int (8 : Int32)), (.ref b1), (.ref b1)])) rfl rfl (hb hby at_47)
  refine own_go st64 ?_
  have f65 : Arv Z h64 b1 k1 .int (32 : Int32) [(.int (1 : Int32)), (.int (12 : Int32)), (.int (-1 : Int32)), (.int (-15 : Int32)), (.int (-9 : Int32)), (.int (-16 : Int32)), (.int (-6 : Int32)), (.int (5 : Int32)), (.int (4 : Int32)), (.int (0 : Int32)), (.int (0 : Int32)), (.int (0 : Int32)), (.int (0 : Int32)), (.int (0 : Int32)), (.int (0 : Int32)), (.int (0 : Int32)), (.int (0 : Int32)), (.int (0 : Int32)), (.int (0 : Int32)), (.int (0 : Int32)), (.int (0 : Int32)), (.int (0 : Int32)), (.int (0 : Int32)), (.int (0 : Int32)), (.int (0 : Int32)), (.int (0 : Int32)), (.int (0 : Int32)), (.int (0 : Int32)), (.int (0 : Int32)), (.int (0 : Int32)), (.int (0 : Int32)), (.int (0 : Int32))] (.int (0 : Int32)) := Arv.set Ar63 q63 S63 M63 P63 G63 rfl W64 8 rfl (Nat.le_of_ble_eq_true rfl)
  have N66 := Fr.snoc X64 N59 big2
  have O68 := own_oldWr O61 W64 big2
  have K69 : Keep h0 h64 [] := K62.wr W64 (Or.inr sz3)
  show own_Go p e below s _ _ _ (T64.setTop (mkF m 48 #[.val (.int p1), .val (.int p2), .unset, .unset, .unset, .unset] [(.ref b1)]))
  refine own_go (fun _ k => XS.dup X64.here hx rfl (hb hby at_48) rfl rfl k) ?_
  show own_Go p e below s _ _ _ (T64.setTop (mkF m 49 #[.val (.int p1), .val (.int p2), .unset, .unset, .unset, .unset] [(.ref b1), (.ref b1)]))
  refine own_go (fun _ k => XS.bipush X64.here hx rfl (hb hby at_49) k) ?_
  show own_Go p e below s _ _ _ (T64.setTop (mkF m 51 #[.val (.int p1), .val (.int p2), .unset, .unset, .unset, .unset] [(.int (9 : Int32)), (.ref b1), (.ref b1)]))
  refine own_go (fun _ k => XS.bipush X64.here hx rfl (hb hby at_51) k) ?_
  show own_Go p e below s _ _ _ (T64.setTop (mkF m 53 #[.val (.int p1), .val (.int p2), .unset, .unset, .unset, .unset] [(.int (-5 : Int32)), (.int (9 : Int32)), (.ref b1), (.ref b1)]))
  obtain ⟨cl70, Ar70, q70, S70, M70, P70, G70⟩ := f65
  have hin70 : ¬ ((9 : Int32) < 0 ∨ cl70.slots.size ≤ ((9 : Int32)).toNatClampNeg) := inb_of S70 ⟨by decide, by decide⟩
  obtain ⟨T71, h71, X71, e71, W71, st71⟩ := stI X64 hx hZ e64 Ar70 (j := (9 : Int32)) hin70 (g := (mkF m 53 #[.val (.int p1), .val (.int p2), .unset, .unset, .unset, .unset] [(.int (-5 : Int32)), (.int (9 : Int32)), (.ref b1), (.ref b1)])) rfl rfl (hb hby at_53)
  refine own_go st71 ?_
  have f72 : Arv Z h71 b1 k1 .int (32 : Int32) [(.int (1 : Int32)), (.int (12 : Int32)), (.int (-1 : Int32)), (.int (-15 : Int32)), (.int (-9 : Int32)), (.int (-16 : Int32)), (.int (-6 : Int32)), (.int (5 : Int32)), (.int (4 : Int32)), (.int (-5 : Int32)), (.int (0 : Int32)), (.int (0 : Int32)), (.int (0 : Int32)), (.int (0 : Int32)), (.int (0 : Int32)), (.int (0 : Int32)), (.int (0 : Int32)), (.int (0 : Int32)), (.int (0 : Int32)), (.int (0 : Int32)), (.int (0 : Int32)), (.int (0 : Int32)), (.int (0 : Int32)), (.int (0 : Int32)), (.int (0 : Int32)), (.int (0 : Int32)), (.int (0 : Int32)), (.int (0 : Int32)), (.int (0 : Int32)), (.int (0 : Int32)), (.int (0 : Int32)), (.int (0 : Int32))] (.int (0 : Int32)) := Arv.set Ar70 q70 S70 M70 P70 G70 rfl W71 9 rfl (Nat.le_of_ble_eq_true rfl)
  have N73 := Fr.snoc X71 N66 big2
  have O75 := own_oldWr O68 W71 big2
  have K76 : Keep h0 h71 [] := K69.wr W71 (Or.inr sz3)
  show own_Go p e below s _ _ _ (T71.setTop (mkF m 54 #[.val (.int p1), .val (.int p2), .unset, .unset, .unset, .unset] [(.ref b1)]))
  refine own_go (fun _ k => XS.dup X71.here hx rfl (hb hby at_54) rfl rfl k) ?_
  show own_Go p e below s _ _ _ (T71.setTop (mkF m 55 #[.val (.int p1), .val (.int p2), .unset, .unset, .unset, .unset] [(.ref b1), (.ref b1)]))
  refine own_go (fun _ k => XS.bipush X71.here hx rfl (hb hby at_55) k) ?_
  show own_Go p e below s _ _ _ (T71.setTop (mkF m 57 #[.val (.int p1), .val (.int p2), .unset, .unset, .unset, .unset] [(.int (10 : Int32)), (.ref b1), (.ref b1)]))
  refine own_go (fun _ k => XS.iconst X71.here hx rfl (hb hby at_57) k) ?_
  show own_Go p e below s _ _ _ (T71.setTop (mkF m 58 #[.val (.int p1), .val (.int p2), .unset, .unset, .unset, .unset] [(.int (3 : Int32)), (.int (10 : Int32)), (.ref b1), (.ref b1)]))
  obtain ⟨cl77, Ar77, q77, S77, M77, P77, G77⟩ := f72
  have hin77 : ¬ ((10 : Int32) < 0 ∨ cl77.slots.size ≤ ((10 : Int32)).toNatClampNeg) := inb_of S77 ⟨by decide, by decide⟩
  obtain ⟨T78, h78, X78, e78, W78, st78⟩ := stI X71 hx hZ e71 Ar77 (j := (10 : Int32)) hin77 (g := (mkF m 58 #[.val (.int p1), .val (.int p2), .unset, .unset, .unset, .unset] [(.int (3 : Int32)), (.int (10 : Int32)), (.ref b1), (.ref b1)])) rfl rfl (hb hby at_58)
  refine own_go st78 ?_
  have f79 : Arv Z h78 b1 k1 .int (32 : Int32) [(.int (1 : Int32)), (.int (12 : Int32)), (.int (-1 : Int32)), (.int (-15 : Int32)), (.int (-9 : Int32)), (.int (-16 : Int32)), (.int (-6 : Int32)), (.int (5 : Int32)), (.int (4 : Int32)), (.int (-5 : Int32)), (.int (3 : Int32)), (.int (0 : Int32)), (.int (0 : Int32)), (.int (0 : Int32)), (.int (0 : Int32)), (.int (0 : Int32)), (.int (0 : Int32)), (.int (0 : Int32)), (.int (0 : Int32)), (.int (0 : Int32)), (.int (0 : Int32)), (.int (0 : Int32)), (.int (0 : Int32)), (.int (0 : Int32)), (.int (0 : Int32)), (.int (0 : Int32)), (.int (0 : Int32)), (.int (0 : Int32)), (.int (0 : Int32)), (.int (0 : Int32)), (.int (0 : Int32)), (.int (0 : Int32))] (.int (0 : Int32)) := Arv.set Ar77 q77 S77 M77 P77 G77 rfl W78 10 rfl (Nat.le_of_ble_eq_true rfl)
  have N80 := Fr.snoc X78 N73 big2
  have O82 := own_oldWr O75 W78 big2
  have K83 : Keep h0 h78 [] := K76.wr W78 (Or.inr sz3)
  show own_Go p e below s _ _ _ (T78.setTop (mkF m 59 #[.val (.int p1), .val (.int p2), .unset, .unset, .unset, .unset] [(.ref b1)]))
  refine own_go (fun _ k => XS.dup X78.here hx rfl (hb hby at_59) rfl rfl k) ?_
  show own_Go p e below s _ _ _ (T78.setTop (mkF m 60 #[.val (.int p1), .val (.int p2), .unset, .unset, .unset, .unset] [(.ref b1), (.ref b1)]))
  refine own_go (fun _ k => XS.bipush X78.here hx rfl (hb hby at_60) k) ?_
  show own_Go p e below s _ _ _ (T78.setTop (mkF m 62 #[.val (.int p1), .val (.int p2), .unset, .unset, .unset, .unset] [(.int (11 : Int32)), (.ref b1), (.ref b1)]))
  refine own_go (fun _ k => XS.iconst X78.here hx rfl (hb hby at_62) k) ?_
  show own_Go p e below s _ _ _ (T78.setTop (mkF m 63 #[.val (.int p1), .val (.int p2), .unset, .unset, .unset, .unset] [(.int (2 : Int32)), (.int (11 : Int32)), (.ref b1), (.ref b1)]))
  obtain ⟨cl84, Ar84, q84, S84, M84, P84, G84⟩ := f79
  have hin84 : ¬ ((11 : Int32) < 0 ∨ cl84.slots.size ≤ ((11 : Int32)).toNatClampNeg) := inb_of S84 ⟨by decide, by decide⟩
  obtain ⟨T85, h85, X85, e85, W85, st85⟩ := stI X78 hx hZ e78 Ar84 (j := (11 : Int32)) hin84 (g := (mkF m 63 #[.val (.int p1), .val (.int p2), .unset, .unset, .unset, .unset] [(.int (2 : Int32)), (.int (11 : Int32)), (.ref b1), (.ref b1)])) rfl rfl (hb hby at_63)
  refine own_go st85 ?_
  have f86 : Arv Z h85 b1 k1 .int (32 : Int32) [(.int (1 : Int32)), (.int (12 : Int32)), (.int (-1 : Int32)), (.int (-15 : Int32)), (.int (-9 : Int32)), (.int (-16 : Int32)), (.int (-6 : Int32)), (.int (5 : Int32)), (.int (4 : Int32)), (.int (-5 : Int32)), (.int (3 : Int32)), (.int (2 : Int32)), (.int (0 : Int32)), (.int (0 : Int32)), (.int (0 : Int32)), (.int (0 : Int32)), (.int (0 : Int32)), (.int (0 : Int32)), (.int (0 : Int32)), (.int (0 : Int32)), (.int (0 : Int32)), (.int (0 : Int32)), (.int (0 : Int32)), (.int (0 : Int32)), (.int (0 : Int32)), (.int (0 : Int32)), (.int (0 : Int32)), (.int (0 : Int32)), (.int (0 : Int32)), (.int (0 : Int32)), (.int (0 : Int32)), (.int (0 : Int32))] (.int (0 : Int32)) := Arv.set Ar84 q84 S84 M84 P84 G84 rfl W85 11 rfl (Nat.le_of_ble_eq_true rfl)
  have N87 := Fr.snoc X85 N80 big2
  have O89 := own_oldWr O82 W85 big2
  have K90 : Keep h0 h85 [] := K83.wr W85 (Or.inr sz3)
  show own_Go p e below s _ _ _ (T85.setTop (mkF m 64 #[.val (.int p1), .val (.int p2), .unset, .unset, .unset, .unset] [(.ref b1)]))
  refine own_go (fun _ k => XS.dup X85.here hx rfl (hb hby at_64) rfl rfl k) ?_
  show own_Go p e below s _ _ _ (T85.setTop (mkF m 65 #[.val (.int p1), .val (.int p2), .unset, .unset, .unset, .unset] [(.ref b1), (.ref b1)]))
  refine own_go (fun _ k => XS.bipush X85.here hx rfl (hb hby at_65) k) ?_
  show own_Go p e below s _ _ _ (T85.setTop (mkF m 67 #[.val (.int p1), .val (.int p2), .unset, .unset, .unset, .unset] [(.int (12 : Int32)), (.ref b1), (.ref b1)]))
  refine own_go (fun _ k => XS.bipush X85.here hx rfl (hb hby at_67) k) ?_
  show own_Go p e below s _ _ _ (T85.setTop (mkF m 69 #[.val (.int p1), .val (.int p2), .unset, .unset, .unset, .unset] [(.int (7 : Int32)), (.int (12 : Int32)), (.ref b1), (.ref b1)]))
  obtain ⟨cl91, Ar91, q91, S91, M91, P91, G91⟩ := f86
  have hin91 : ¬ ((12 : Int32) < 0 ∨ cl91.slots.size ≤ ((12 : Int32)).toNatClampNeg) := inb_of S91 ⟨by decide, by decide⟩
  obtain ⟨T92, h92, X92, e92, W92, st92⟩ := stI X85 hx hZ e85 Ar91 (j := (12 : Int32)) hin91 (g := (mkF m 69 #[.val (.int p1), .val (.int p2), .unset, .unset, .unset, .unset] [(.int (7 : Int32)), (.int (12 : Int32)), (.ref b1), (.ref b1)])) rfl rfl (hb hby at_69)
  refine own_go st92 ?_
  have f93 : Arv Z h92 b1 k1 .int (32 : Int32) [(.int (1 : Int32)), (.int (12 : Int32)), (.int (-1 : Int32)), (.int (-15 : Int32)), (.int (-9 : Int32)), (.int (-16 : Int32)), (.int (-6 : Int32)), (.int (5 : Int32)), (.int (4 : Int32)), (.int (-5 : Int32)), (.int (3 : Int32)), (.int (2 : Int32)), (.int (7 : Int32)), (.int (0 : Int32)), (.int (0 : Int32)), (.int (0 : Int32)), (.int (0 : Int32)), (.int (0 : Int32)), (.int (0 : Int32)), (.int (0 : Int32)), (.int (0 : Int32)), (.int (0 : Int32)), (.int (0 : Int32)), (.int (0 : Int32)), (.int (0 : Int32)), (.int (0 : Int32)), (.int (0 : Int32)), (.int (0 : Int32)), (.int (0 : Int32)), (.int (0 : Int32)), (.int (0 : Int32)), (.int (0 : Int32))] (.int (0 : Int32)) := Arv.set Ar91 q91 S91 M91 P91 G91 rfl W92 12 rfl (Nat.le_of_ble_eq_true rfl)
  have N94 := Fr.snoc X92 N87 big2
  have O96 := own_oldWr O89 W92 big2
  have K97 : Keep h0 h92 [] := K90.wr W92 (Or.inr sz3)
  show own_Go p e below s _ _ _ (T92.setTop (mkF m 70 #[.val (.int p1), .val (.int p2), .unset, .unset, .unset, .unset] [(.ref b1)]))
  refine own_go (fun _ k => XS.dup X92.here hx rfl (hb hby at_70) rfl rfl k) ?_
  show own_Go p e below s _ _ _ (T92.setTop (mkF m 71 #[.val (.int p1), .val (.int p2), .unset, .unset, .unset, .unset] [(.ref b1), (.ref b1)]))
  refine own_go (fun _ k => XS.bipush X92.here hx rfl (hb hby at_71) k) ?_
  show own_Go p e below s _ _ _ (T92.setTop (mkF m 73 #[.val (.int p1), .val (.int p2), .unset, .unset, .unset, .unset] [(.int (13 : Int32)), (.ref b1), (.ref b1)]))
  refine own_go (fun _ k => XS.bipush X92.here hx rfl (hb hby at_73) k) ?_
  show own_Go p e below s _ _ _ (T92.setTop (mkF m 75 #[.val (.int p1), .val (.int p2), .unset, .unset, .unset, .unset] [(.int (6 : Int32)), (.int (13 : Int32)), (.ref b1), (.ref b1)]))
  obtain ⟨cl98, Ar98, q98, S98, M98, P98, G98⟩ := f93
  have hin98 : ¬ ((13 : Int32) < 0 ∨ cl98.slots.size ≤ ((13 : Int32)).toNatClampNeg) := inb_of S98 ⟨by decide, by decide⟩
  obtain ⟨T99, h99, X99, e99, W99, st99⟩ := stI X92 hx hZ e92 Ar98 (j := (13 : Int32)) hin98 (g := (mkF m 75 #[.val (.int p1), .val (.int p2), .unset, .unset, .unset, .unset] [(.int (6 : Int32)), (.int (13 : Int32)), (.ref b1), (.ref b1)])) rfl rfl (hb hby at_75)
  refine own_go st99 ?_
  have f100 : Arv Z h99 b1 k1 .int (32 : Int32) [(.int (1 : Int32)), (.int (12 : Int32)), (.int (-1 : Int32)), (.int (-15 : Int32)), (.int (-9 : Int32)), (.int (-16 : Int32)), (.int (-6 : Int32)), (.int (5 : Int32)), (.int (4 : Int32)), (.int (-5 : Int32)), (.int (3 : Int32)), (.int (2 : Int32)), (.int (7 : Int32)), (.int (6 : Int32)), (.int (0 : Int32)), (.int (0 : Int32)), (.int (0 : Int32)), (.int (0 : Int32)), (.int (0 : Int32)), (.int (0 : Int32)), (.int (0 : Int32)), (.int (0 : Int32)), (.int (0 : Int32)), (.int (0 : Int32)), (.int (0 : Int32)), (.int (0 : Int32)), (.int (0 : Int32)), (.int (0 : Int32)), (.int (0 : Int32)), (.int (0 : Int32)), (.int (0 : Int32)), (.int (0 : Int32))] (.int (0 : Int32)) := Arv.set Ar98 q98 S98 M98 P98 G98 rfl W99 13 rfl (Nat.le_of_ble_eq_true rfl)
  have N101 := Fr.snoc X99 N94 big2
  have O103 := own_oldWr O96 W99 big2
  have K104 : Keep h0 h99 [] := K97.wr W99 (Or.inr sz3)
  show own_Go p e below s _ _ _ (T99.setTop (mkF m 76 #[.val (.int p1), .val (.int p2), .unset, .unset, .unset, .unset] [(.ref b1)]))
  refine own_go (fun _ k => XS.dup X99.here hx rfl (hb hby at_76) rfl rfl k) ?_
  show own_Go p e below s _ _ _ (T99.setTop (mkF m 77 #[.val (.int p1), .val (.int p2), .unset, .unset, .unset, .unset] [(.ref b1), (.ref b1)]))
  refine own_go (fun _ k => XS.bipush X99.here hx rfl (hb hby at_77) k) ?_
  show own_Go p e below s _ _ _ (T99.setTop (mkF m 79 #[.val (.int p1), .val (.int p2), .unset, .unset, .unset, .unset] [(.int (14 : Int32)), (.ref b1), (.ref b1)]))
  refine own_go (fun _ k => XS.bipush X99.here hx rfl (hb hby at_79) k) ?_
  show own_Go p e below s _ _ _ (T99.setTop (mkF m 81 #[.val (.int p1), .val (.int p2), .unset, .unset, .unset, .unset] [(.int (8 : Int32)), (.int (14 : Int32)), (.ref b1), (.ref b1)]))
  obtain ⟨cl105, Ar105, q105, S105, M105, P105, G105⟩ := f100
  have hin105 : ¬ ((14 : Int32) < 0 ∨ cl105.slots.size ≤ ((14 : Int32)).toNatClampNeg) := inb_of S105 ⟨by decide, by decide⟩
  obtain ⟨T106, h106, X106, e106, W106, st106⟩ := stI X99 hx hZ e99 Ar105 (j := (14 : Int32)) hin105 (g := (mkF m 81 #[.val (.int p1), .val (.int p2), .unset, .unset, .unset, .unset] [(.int (8 : Int32)), (.int (14 : Int32)), (.ref b1), (.ref b1)])) rfl rfl (hb hby at_81)
  refine own_go st106 ?_
  have f107 : Arv Z h106 b1 k1 .int (32 : Int32) [(.int (1 : Int32)), (.int (12 : Int32)), (.int (-1 : Int32)), (.int (-15 : Int32)), (.int (-9 : Int32)), (.int (-16 : Int32)), (.int (-6 : Int32)), (.int (5 : Int32)), (.int (4 : Int32)), (.int (-5 : Int32)), (.int (3 : Int32)), (.int (2 : Int32)), (.int (7 : Int32)), (.int (6 : Int32)), (.int (8 : Int32)), (.int (0 : Int32)), (.int (0 : Int32)), (.int (0 : Int32)), (.int (0 : Int32)), (.int (0 : Int32)), (.int (0 : Int32)), (.int (0 : Int32)), (.int (0 : Int32)), (.int (0 : Int32)), (.int (0 : Int32)), (.int (0 : Int32)), (.int (0 : Int32)), (.int (0 : Int32)), (.int (0 : Int32)), (.int (0 : Int32)), (.int (0 : Int32)), (.int (0 : Int32))] (.int (0 : Int32)) := Arv.set Ar105 q105 S105 M105 P105 G105 rfl W106 14 rfl (Nat.le_of_ble_eq_true rfl)
  have N108 := Fr.snoc X106 N101 big2
  have O110 := own_oldWr O103 W106 big2
  have K111 : Keep h0 h106 [] := K104.wr W106 (Or.inr sz3)
  show own_Go p e below s _ _ _ (T106.setTop (mkF m 82 #[.val (.int p1), .val (.int p2), .unset, .unset, .unset, .unset] [(.ref b1)]))
  refine own_go (fun _ k => XS.dup X106.here hx rfl (hb hby at_82) rfl rfl k) ?_
  show own_Go p e below s _ _ _ (T106.setTop (mkF m 83 #[.val (.int p1), .val (.int p2), .unset, .unset, .unset, .unset] [(.ref b1), (.ref b1)]))
  refine own_go (fun _ k => XS.bipush X106.here hx rfl (hb hby at_83) k) ?_
  show own_Go p e below s _ _ _ (T106.setTop (mkF m 85 #[.val (.int p1), .val (.int p2), .unset, .unset, .unset, .unset] [(.int (15 : Int32)), (.ref b1), (.ref b1)]))
  refine own_go (fun _ k => XS.iconst X106.here hx rfl (hb hby at_85) k) ?_
  show own_Go p e below s _ _ _ (T106.setTop (mkF m 86 #[.val (.int p1), .val (.int p2), .unset, .unset, .unset, .unset] [(.int (0 : Int32)), (.int (15 : Int32)), (.ref b1), (.ref b1)]))
  obtain ⟨cl112, Ar112, q112, S112, M112, P112, G112⟩ := f107
  have hin112 : ¬ ((15 : Int32) < 0 ∨ cl112.slots.size ≤ ((15 : Int32)).toNatClampNeg) := inb_of S112 ⟨by decide, by decide⟩
  obtain ⟨T113, h113, X113, e113, W113, st113⟩ := stI X106 hx hZ e106 Ar112 (j := (15 : Int32)) hin112 (g := (mkF m 86 #[.val (.int p1), .val (.int p2), .unset, .unset, .unset, .unset] [(.int (0 : Int32)), (.int (15 : Int32)), (.ref b1), (.ref b1)])) rfl rfl (hb hby at_86)
  refine own_go st113 ?_
  have f114 : Arv Z h113 b1 k1 .int (32 : Int32) [(.int (1 : Int32)), (.int (12 : Int32)), (.int (-1 : Int32)), (.int (-15 : Int32)), (.int (-9 : Int32)), (.int (-16 : Int32)), (.int (-6 : Int32)), (.int (5 : Int32)), (.int (4 : Int32)), (.int (-5 : Int32)), (.int (3 : Int32)), (.int (2 : Int32)), (.int (7 : Int32)), (.int (6 : Int32)), (.int (8 : Int32)), (.int (0 : Int32)), (.int (0 : Int32)), (.int (0 : Int32)), (.int (0 : Int32)), (.int (0 : Int32)), (.int (0 : Int32)), (.int (0 : Int32)), (.int (0 : Int32)), (.int (0 : Int32)), (.int (0 : Int32)), (.int (0 : Int32)), (.int (0 : Int32)), (.int (0 : Int32)), (.int (0 : Int32)), (.int (0 : Int32)), (.int (0 : Int32)), (.int (0 : Int32))] (.int (0 : Int32)) := Arv.set Ar112 q112 S112 M112 P112 G112 rfl W113 15 rfl (Nat.le_of_ble_eq_true rfl)
  have N115 := Fr.snoc X113 N108 big2
  have O117 := own_oldWr O110 W113 big2
  have K118 : Keep h0 h113 [] := K111.wr W113 (Or.inr sz3)
  show own_Go p e below s _ _ _ (T113.setTop (mkF m 87 #[.val (.int p1), .val (.int p2), .unset, .unset, .unset, .unset] [(.ref b1)]))
  refine own_go (fun _ k => XS.dup X113.here hx rfl (hb hby at_87) rfl rfl k) ?_
  show own_Go p e below s _ _ _ (T113.setTop (mkF m 88 #[.val (.int p1), .val (.int p2), .unset, .unset, .unset, .unset] [(.ref b1), (.ref b1)]))
  refine own_go (fun _ k => XS.bipush X113.here hx rfl (hb hby at_88) k) ?_
  show own_Go p e below s _ _ _ (T113.setTop (mkF m 90 #[.val (.int p1), .val (.int p2), .unset, .unset, .unset, .unset] [(.int (16 : Int32)), (.ref b1), (.ref b1)]))
  refine own_go (fun _ k => XS.bipush X113.here hx rfl (hb hby at_90) k) ?_
  show own_Go p e below s _ _ _ (T113.setTop (mkF m 92 #[.val (.int p1), .val (.int p2), .unset, .unset, .unset, .unset] [(.int (9 : Int32)), (.int (16 : Int32)), (.ref b1), (.ref b1)]))
  obtain ⟨cl119, Ar119, q119, S119, M119, P119, G119⟩ := f114
  have hin119 : ¬ ((16 : Int32) < 0 ∨ cl119.slots.size ≤ ((16 : Int32)).toNatClampNeg) := inb_of S119 ⟨by decide, by decide⟩
  obtain ⟨T120, h120, X120, e120, W120, st120⟩ := stI X113 hx hZ e113 Ar119 (j := (16 : Int32)) hin119 (g := (mkF m 92 #[.val (.int p1), .val (.int p2), .unset, .unset, .unset, .unset] [(.int (9 : Int32)), (.int (16 : Int32)), (.ref b1), (.ref b1)])) rfl rfl (hb hby at_92)
  refine own_go st120 ?_
  have f121 : Arv Z h120 b1 k1 .int (32 : Int32) [(.int (1 : Int32)), (.int (12 : Int32)), (.int (-1 : Int32)), (.int (-15 : Int32)), (.int (-9 : Int32)), (.int (-16 : Int32)), (.int (-6 : Int32)), (.int (5 : Int32)), (.int (4 : Int32)), (.int (-5 : Int32)), (.int (3 : Int32)), (.int (2 : Int32)), (.int (7 : Int32)), (.int (6 : Int32)), (.int (8 : Int32)), (.int (0 : Int32)), (.int (9 : Int32)), (.int (0 : Int32)), (.int (0 : Int32)), (.int (0 : Int32)), (.int (0 : Int32)), (.int (0 : Int32)), (.int (0 : Int32)), (.int (0 : Int32)), (.int (0 : Int32)), (.int (0 : Int32)), (.int (0 : Int32)), (.int (0 : Int32)), (.int (0 : Int32)), (.int (0 : Int32)), (.int (0 : Int32)), (.int (0 : Int32))] (.int (0 : Int32)) := Arv.set Ar119 q119 S119 M119 P119 G119 rfl W120 16 rfl (Nat.le_of_ble_eq_true rfl)
  have N122 := Fr.snoc X120 N115 big2
  have O124 := own_oldWr O117 W120 big2
  have K125 : Keep h0 h120 [] := K118.wr W120 (Or.inr sz3)
  show own_Go p e below s _ _ _ (T120.setTop (mkF m 93 #[.val (.int p1), .val (.int p2), .unset, .unset, .unset, .unset] [(.ref b1)]))
  refine own_go (fun _ k => XS.dup X120.here hx rfl (hb hby at_93) rfl rfl k) ?_
  show own_Go p e below s _ _ _ (T120.setTop (mkF m 94 #[.val (.int p1), .val (.int p2), .unset, .unset, .unset, .unset] [(.ref b1), (.ref b1)]))
  refine own_go (fun _ k => XS.bipush X120.here hx rfl (hb hby at_94) k) ?_
  show own_Go p e below s _ _ _ (T120.setTop (mkF m 96 #[.val (.int p1), .val (.int p2), .unset, .unset, .unset, .unset] [(.int (17 : Int32)), (.ref b1), (.ref b1)]))
  refine own_go (fun _ k => XS.bipush X120.here hx rfl (hb hby at_96) k) ?_
  show own_Go p e below s _ _ _ (T120.setTop (mkF m 98 #[.val (.int p1), .val (.int p2), .unset, .unset, .unset, .unset] [(.int (10 : Int32)), (.int (17 : Int32)), (.ref b1), (.ref b1)]))
  obtain ⟨cl126, Ar126, q126, S126, M126, P126, G126⟩ := f121
  have hin126 : ¬ ((17 : Int32) < 0 ∨ cl126.slots.size ≤ ((17 : Int32)).toNatClampNeg) := inb_of S126 ⟨by decide, by decide⟩
  obtain ⟨T127, h127, X127, e127, W127, st127⟩ := stI X120 hx hZ e120 Ar126 (j := (17 : Int32)) hin126 (g := (mkF m 98 #[.val (.int p1), .val (.int p2), .unset, .unset, .unset, .unset] [(.int (10 : Int32)), (.int (17 : Int32)), (.ref b1), (.ref b1)])) rfl rfl (hb hby at_98)
  refine own_go st127 ?_
  have f128 : Arv Z h127 b1 k1 .int (32 : Int32) [(.int (1 : Int32)), (.int (12 : Int32)), (.int (-1 : Int32)), (.int (-15 : Int32)), (.int (-9 : Int32)), (.int (-16 : Int32)), (.int (-6 : Int32)), (.int (5 : Int32)), (.int (4 : Int32)), (.int (-5 : Int32)), (.int (3 : Int32)), (.int (2 : Int32)), (.int (7 : Int32)), (.int (6 : Int32)), (.int (8 : Int32)), (.int (0 : Int32)), (.int (9 : Int32)), (.int (10 : Int32)), (.int (0 : Int32)), (.int (0 : Int32)), (.int (0 : Int32)), (.int (0 : Int32)), (.int (0 : Int32)), (.int (0 : Int32)), (.int (0 : Int32)), (.int (0 : Int32)), (.int (0 : Int32)), (.int (0 : Int32)), (.int (0 : Int32)), (.int (0 : Int32)), (.int (0 : Int32)), (.int (0 : Int32))] (.int (0 : Int32)) := Arv.set Ar126 q126 S126 M126 P126 G126 rfl W127 17 rfl (Nat.le_of_ble_eq_true rfl)
  have N129 := Fr.snoc X127 N122 big2
  have O131 := own_oldWr O124 W127 big2
  have K132 : Keep h0 h127 [] := K125.wr W127 (Or.inr sz3)
  show own_Go p e below s _ _ _ (T127.setTop (mkF m 99 #[.val (.int p1), .val (.int p2), .unset, .unset, .unset, .unset] [(.ref b1)]))
  refine own_go (fun _ k => XS.dup X127.here hx rfl (hb hby at_99) rfl rfl k) ?_
  show own_Go p e below s _ _ _ (T127.setTop (mkF m 100 #[.val (.int p1), .val (.int p2), .unset, .unset, .unset, .unset] [(.ref b1), (.ref b1)]))
  refine own_go (fun _ k => XS.bipush X127.here hx rfl (hb hby at_100) k) ?_
  show own_Go p e below s _ _ _ (T127.setTop (mkF m 102 #[.val (.int p1), .val (.int p2), .unset, .unset, .unset, .unset] [(.int (18 : Int32)), (.ref b1), (.ref b1)]))
  refine own_go (fun _ k => XS.bipush X127.here hx rfl (hb hby at_102) k) ?_
  show own_Go p e below s _ _ _ (T127.setTop (mkF m 104 #[.val (.int p1), .val (.int p2), .unset, .unset, .unset, .unset] [(.int (11 : Int32)), (.int (18 : Int32)), (.ref b1), (.ref b1)]))
  obtain ⟨cl133, Ar133, q133, S133, M133, P133, G133⟩ := f128
  have hin133 : ¬ ((18 : Int32) < 0 ∨ cl133.slots.size ≤ ((18 : Int32)).toNatClampNeg) := inb_of S133 ⟨by decide, by decide⟩
  obtain ⟨T134, h134, X134, e134, W134, st134⟩ := stI X127 hx hZ e127 Ar133 (j := (18 : Int32)) hin133 (g := (mkF m 104 #[.val (.int p1), .val (.int p2), .unset, .unset, .unset, .unset] [(.int (11 : Int32)), (.int (18 : Int32)), (.ref b1), (.ref b1)])) rfl rfl (hb hby at_104)
  refine own_go st134 ?_
  have f135 : Arv Z h134 b1 k1 .int (32 : Int32) [(.int (1 : Int32)), (.int (12 : Int32)), (.int (-1 : Int32)), (.int (-15 : Int32)), (.int (-9 : Int32)), (.int (-16 : Int32)), (.int (-6 : Int32)), (.int (5 : Int32)), (.int (4 : Int32)), (.int (-5 : Int32)), (.int (3 : Int32)), (.int (2 : Int32)), (.int (7 : Int32)), (.int (6 : Int32)), (.int (8 : Int32)), (.int (0 : Int32)), (.int (9 : Int32)), (.int (10 : Int32)), (.int (11 : Int32)), (.int (0 : Int32)), (.int (0 : Int32)), (.int (0 : Int32)), (.int (0 : Int32)), (.int (0 : Int32)), (.int (0 : Int32)), (.int (0 : Int32)), (.int (0 : Int32)), (.int (0 : Int32)), (.int (0 : Int32)), (.int (0 : Int32)), (.int (0 : Int32)), (.int (0 : Int32))] (.int (0 : Int32)) := Arv.set Ar133 q133 S133 M133 P133 G133 rfl W134 18 rfl (Nat.le_of_ble_eq_true rfl)
  have N136 := Fr.snoc X134 N129 big2
  have O138 := own_oldWr O131 W134 big2
  have K139 : Keep h0 h134 [] := K132.wr W134 (Or.inr sz3)
  show own_Go p e below s _ _ _ (T134.setTop (mkF m 105 #[.val (.int p1), .val (.int p2), .unset, .unset, .unset, .unset] [(.ref b1)]))
  refine own_go (fun _ k => XS.dup X134.here hx rfl (hb hby at_105) rfl rfl k) ?_
  show own_Go p e below s _ _ _ (T134.setTop (mkF m 106 #[.val (.int p1), .val (.int p2), .unset, .unset, .unset, .unset] [(.ref b1), (.ref b1)]))
  refine own_go (fun _ k => XS.bipush X134.here hx rfl (hb hby at_106) k) ?_
  show own_Go p e below s _ _ _ (T134.setTop (mkF m 108 #[.val (.int p1), .val (.int p2), .unset, .unset, .unset, .unset] [(.int (19 : Int32)), (.ref b1), (.ref b1)]))
  refine own_go (fun _ k => XS.bipush X134.here hx rfl (hb hby at_108) k) ?_
  show own_Go p e below s _ _ _ (T134.setTop (mkF m 110 #[.val (.int p1), .val (.int p2), .unset, .unset, .unset, .unset] [(.int (-2 : Int32)), (.int (19 : Int32)), (.ref b1), (.ref b1)]))
  obtain ⟨cl140, Ar140, q140, S140, M140, P140, G140⟩ := f135
  have hin140 : ¬ ((19 : Int32) < 0 ∨ cl140.slots.size ≤ ((19 : Int32)).toNatClampNeg) := inb_of S140 ⟨by decide, by decide⟩
  obtain ⟨T141, h141, X141, e141, W141, st141⟩ := stI X134 hx hZ e134 Ar140 (j := (19 : Int32)) hin140 (g := (mkF m 110 #[.val (.int p1), .val (.int p2), .unset, .unset, .unset, .unset] [(.int (-2 : Int32)), (.int (19 : Int32)), (.ref b1), (.ref b1)])) rfl rfl (hb hby at_110)
  refine own_go st141 ?_
  have f142 : Arv Z h141 b1 k1 .int (32 : Int32) [(.int (1 : Int32)), (.int (12 : Int32)), (.int (-1 : Int32)), (.int (-15 : Int32)), (.int (-9 : Int32)), (.int (-16 : Int32)), (.int (-6 : Int32)), (.int (5 : Int32)), (.int (4 : Int32)), (.int (-5 : Int32)), (.int (3 : Int32)), (.int (2 : Int32)), (.int (7 : Int32)), (.int (6 : Int32)), (.int (8 : Int32)), (.int (0 : Int32)), (.int (9 : Int32)), (.int (10 : Int32)), (.int (11 : Int32)), (.int (-2 : Int32)), (.int (0 : Int32)), (.int (0 : Int32)), (.int (0 : Int32)), (.int (0 : Int32)), (.int (0 : Int32)), (.int (0 : Int32)), (.int (0 : Int32)), (.int (0 : Int32)), (.int (0 : Int32)), (.int (0 : Int32)), (.int (0 : Int32)), (.int (0 : Int32))] (.int (0 : Int32)) := Arv.set Ar140 q140 S140 M140 P140 G140 rfl W141 19 rfl (Nat.le_of_ble_eq_true rfl)
  have N143 := Fr.snoc X141 N136 big2
  have O145 := own_oldWr O138 W141 big2
  have K146 : Keep h0 h141 [] := K139.wr W141 (Or.inr sz3)
  show own_Go p e below s _ _ _ (T141.setTop (mkF m 111 #[.val (.int p1), .val (.int p2), .unset, .unset, .unset, .unset] [(.ref b1)]))
  refine own_go (fun _ k => XS.dup X141.here hx rfl (hb hby at_111) rfl rfl k) ?_
  show own_Go p e below s _ _ _ (T141.setTop (mkF m 112 #[.val (.int p1), .val (.int p2), .unset, .unset, .unset, .unset] [(.ref b1), (.ref b1)]))
  refine own_go (fun _ k => XS.bipush X141.here hx rfl (hb hby at_112) k) ?_
  show own_Go p e below s _ _ _ (T141.setTop (mkF m 114 #[.val (.int p1), .val (.int p2), .unset, .unset, .unset, .unset] [(.int (20 : Int32)), (.ref b1), (.ref b1)]))
  refine own_go (fun _ k => XS.bipush X141.here hx rfl (hb hby at_114) k) ?_
  show own_Go p e below s _ _ _ (T141.setTop (mkF m 116 #[.val (.int p1), .val (.int p2), .unset, .unset, .unset, .unset] [(.int (-3 : Int32)), (.int (20 : Int32)), (.ref b1), (.ref b1)]))
  obtain ⟨cl147, Ar147, q147, S147, M147, P147, G147⟩ := f142
  have hin147 : ¬ ((20 : Int32) < 0 ∨ cl147.slots.size ≤ ((20 : Int32)).toNatClampNeg) := inb_of S147 ⟨by decide, by decide⟩
  obtain ⟨T148, h148, X148, e148, W148, st148⟩ := stI X141 hx hZ e141 Ar147 (j := (20 : Int32)) hin147 (g := (mkF m 116 #[.val (.int p1), .val (.int p2), .unset, .unset, .unset, .unset] [(.int (-3 : Int32)), (.int (20 : Int32)), (.ref b1), (.ref b1)])) rfl rfl (hb hby at_116)
  refine own_go st148 ?_
  have f149 : Arv Z h148 b1 k1 .int (32 : Int32) [(.int (1 : Int32)), (.int (12 : Int32)), (.int (-1 : Int32)), (.int (-15 : Int32)), (.int (-9 : Int32)), (.int (-16 : Int32)), (.int (-6 : Int32)), (.int (5 : Int32)), (.int (4 : Int32)), (.int (-5 : Int32)), (.int (3 : Int32)), (.int (2 : Int32)), (.int (7 : Int32)), (.int (6 : Int32)), (.int (8 : Int32)), (.int (0 : Int32)), (.int (9 : Int32)), (.int (10 : Int32)), (.int (11 : Int32)), (.int (-2 : Int32)), (.int (-3 : Int32)), (.int (0 : Int32)), (.int (0 : Int32)), (.int (0 : Int32)), (.int (0 : Int32)), (.int (0 : Int32)), (.int (0 : Int32)), (.int (0 : Int32)), (.int (0 : Int32)), (.int (0 : Int32)), (.int (0 : Int32)), (.int (0 : Int32))] (.int (0 : Int32)) := Arv.set Ar147 q147 S147 M147 P147 G147 rfl W148 20 rfl (Nat.le_of_ble_eq_true rfl)
  have N150 := Fr.snoc X148 N143 big2
  have O152 := own_oldWr O145 W148 big2
  have K153 : Keep h0 h148 [] := K146.wr W148 (Or.inr sz3)
  show own_Go p e below s _ _ _ (T148.setTop (mkF m 117 #[.val (.int p1), .val (.int p2), .unset, .unset, .unset, .unset] [(.ref b1)]))
  refine own_go (fun _ k => XS.dup X148.here hx rfl (hb hby at_117) rfl rfl k) ?_
  show own_Go p e below s _ _ _ (T148.setTop (mkF m 118 #[.val (.int p1), .val (.int p2), .unset, .unset, .unset, .unset] [(.ref b1), (.ref b1)]))
  refine own_go (fun _ k => XS.bipush X148.here hx rfl (hb hby at_118) k) ?_
  show own_Go p e below s _ _ _ (T148.setTop (mkF m 120 #[.val (.int p1), .val (.int p2), .unset, .unset, .unset, .unset] [(.int (21 : Int32)), (.ref b1), (.ref b1)]))
  refine own_go (fun _ k => XS.bipush X148.here hx rfl (hb hby at_120) k) ?_
  show own_Go p e below s _ _ _ (T148.setTop (mkF m 122 #[.val (.int p1), .val (.int p2), .unset, .unset, .unset, .unset] [(.int (-4 : Int32)), (.int (21 : Int32)), (.ref b1), (.ref b1)]))
  obtain ⟨cl154, Ar154, q154, S154, M154, P154, G154⟩ := f149
  have hin154 : ¬ ((21 : Int32) < 0 ∨ cl154.slots.size ≤ ((21 : Int32)).toNatClampNeg) := inb_of S154 ⟨by decide, by decide⟩
  obtain ⟨T155, h155, X155, e155, W155, st155⟩ := stI X148 hx hZ e148 Ar154 (j := (21 : Int32)) hin154 (g := (mkF m 122 #[.val (.int p1), .val (.int p2), .unset, .unset, .unset, .unset] [(.int (-4 : Int32)), (.int (21 : Int32)), (.ref b1), (.ref b1)])) rfl rfl (hb hby at_122)
  refine own_go st155 ?_
  have f156 : Arv Z h155 b1 k1 .int (32 : Int32) [(.int (1 : Int32)), (.int (12 : Int32)), (.int (-1 : Int32)), (.int (-15 : Int32)), (.int (-9 : Int32)), (.int (-16 : Int32)), (.int (-6 : Int32)), (.int (5 : Int32)), (.int (4 : Int32)), (.int (-5 : Int32)), (.int (3 : Int32)), (.int (2 : Int32)), (.int (7 : Int32)), (.int (6 : Int32)), (.int (8 : Int32)), (.int (0 : Int32)), (.int (9 : Int32)), (.int (10 : Int32)), (.int (11 : Int32)), (.int (-2 : Int32)), (.int (-3 : Int32)), (.int (-4 : Int32)), (.int (0 : Int32)), (.int (0 : Int32)), (.int (0 : Int32)), (.int (0 : Int32)), (.int (0 : Int32)), (.int (0 : Int32)), (.int (0 : Int32)), (.int (0 : Int32)), (.int (0 : Int32)), (.int (0 : Int32))] (.int (0 : Int32)) := Arv.set Ar154 q154 S154 M154 P154 G154 rfl W155 21 rfl (Nat.le_of_ble_eq_true rfl)
  have N157 := Fr.snoc X155 N150 big2
  have O159 := own_oldWr O152 W155 big2
  have K160 : Keep h0 h155 [] := K153.wr W155 (Or.inr sz3)
  show own_Go p e below s _ _ _ (T155.setTop (mkF m 123 #[.val (.int p1), .val (.int p2), .unset, .unset, .unset, .unset] [(.ref b1)]))
  refine own_go (fun _ k => XS.dup X155.here hx rfl (hb hby at_123) rfl rfl k) ?_
  show own_Go p e below s _ _ _ (T155.setTop (mkF m 124 #[.val (.int p1), .val (.int p2), .unset, .unset, .unset, .unset] [(.ref b1), (.ref b1)]))
  refine own_go (fun _ k => XS.bipush X155.here hx rfl (hb hby at_124) k) ?_
  show own_Go p e below s _ _ _ (T155.setTop (mkF m 126 #[.val (.int p1), .val (.int p2), .unset, .unset, .unset, .unset] [(.int (22 : Int32)), (.ref b1), (.ref b1)]))
  refine own_go (fun _ k => XS.bipush X155.here hx rfl (hb hby at_126) k) ?_
  show own_Go p e below s _ _ _ (T155.setTop (mkF m 128 #[.val (.int p1), .val (.int p2), .unset, .unset, .unset, .unset] [(.int (-7 : Int32)), (.int (22 : Int32)), (.ref b1), (.ref b1)]))
  obtain ⟨cl161, Ar161, q161, S161, M161, P161, G161⟩ := f156
  have hin161 : ¬ ((22 : Int32) < 0 ∨ cl161.slots.size ≤ ((22 : Int32)).toNatClampNeg) := inb_of S161 ⟨by decide, by decide⟩
  obtain ⟨T162, h162, X162, e162, W162, st162⟩ := stI X155 hx hZ e155 Ar161 (j := (22 : Int32)) hin161 (g := (mkF m 128 #[.val (.int p1), .val (.int p2), .unset, .unset, .unset, .unset] [(.int (-7 : Int32)), (.int (22 : Int32)), (.ref b1), (.ref b1)])) rfl rfl (hb hby at_128)
  refine own_go st162 ?_
  have f163 : Arv Z h162 b1 k1 .int (32 : Int32) [(.int (1 : Int32)), (.int (12 : Int32)), (.int (-1 : Int32)), (.int (-15 : Int32)), (.int (-9 : Int32)), (.int (-16 : Int32)), (.int (-6 : Int32)), (.int (5 : Int32)), (.int (4 : Int32)), (.int (-5 : Int32)), (.int (3 : Int32)), (.int (2 : Int32)), (.int (7 : Int32)), (.int (6 : Int32)), (.int (8 : Int32)), (.int (0 : Int32)), (.int (9 : Int32)), (.int (10 : Int32)), (.int (11 : Int32)), (.int (-2 : Int32)), (.int (-3 : Int32)), (.int (-4 : Int32)), (.int (-7 : Int32)), (.int (0 : Int32)), (.int (0 : Int32)), (.int (0 : Int32)), (.int (0 : Int32)), (.int (0 : Int32)), (.int (0 : Int32)), (.int (0 : Int32)), (.int (0 : Int32)), (.int (0 : Int32))] (.int (0 : Int32)) := Arv.set Ar161 q161 S161 M161 P161 G161 rfl W162 22 rfl (Nat.le_of_ble_eq_true rfl)
  have N164 := Fr.snoc X162 N157 big2
  have O166 := own_oldWr O159 W162 big2
  have K167 : Keep h0 h162 [] := K160.wr W162 (Or.inr sz3)
  show own_Go p e below s _ _ _ (T162.setTop (mkF m 129 #[.val (.int p1), .val (.int p2), .unset, .unset, .unset, .unset] [(.ref b1)]))
  refine own_go (fun _ k => XS.dup X162.here hx rfl (hb hby at_129) rfl rfl k) ?_
  show own_Go p e below s _ _ _ (T162.setTop (mkF m 130 #[.val (.int p1), .val (.int p2), .unset, .unset, .unset, .unset] [(.ref b1), (.ref b1)]))
  refine own_go (fun _ k => XS.bipush X162.here hx rfl (hb hby at_130) k) ?_
  show own_Go p e below s _ _ _ (T162.setTop (mkF m 132 #[.val (.int p1), .val (.int p2), .unset, .unset, .unset, .unset] [(.int (23 : Int32)), (.ref b1), (.ref b1)]))
  refine own_go (fun _ k => XS.bipush X162.here hx rfl (hb hby at_132) k) ?_
  show own_Go p e below s _ _ _ (T162.setTop (mkF m 134 #[.val (.int p1), .val (.int p2), .unset, .unset, .unset, .unset] [(.int (-8 : Int32)), (.int (23 : Int32)), (.ref b1), (.ref b1)]))
  obtain ⟨cl168, Ar168, q168, S168, M168, P168, G168⟩ := f163
  have hin168 : ¬ ((23 : Int32) < 0 ∨ cl168.slots.size ≤ ((23 : Int32)).toNatClampNeg) := inb_of S168 ⟨by decide, by decide⟩
  obtain ⟨T169, h169, X169, e169, W169, st169⟩ := stI X162 hx hZ e162 Ar168 (j := (23 : Int32)) hin168 (g := (mkF m 134 #[.val (.int p1), .val (.int p2), .unset, .unset, .unset, .unset] [(.int (-8 : Int32)), (.int (23 : Int32)), (.ref b1), (.ref b1)])) rfl rfl (hb hby at_134)
  refine own_go st169 ?_
  have f170 : Arv Z h169 b1 k1 .int (32 : Int32) [(.int (1 : Int32)), (.int (12 : Int32)), (.int (-1 : Int32)), (.int (-15 : Int32)), (.int (-9 : Int32)), (.int (-16 : Int32)), (.int (-6 : Int32)), (.int (5 : Int32)), (.int (4 : Int32)), (.int (-5 : Int32)), (.int (3 : Int32)), (.int (2 : Int32)), (.int (7 : Int32)), (.int (6 : Int32)), (.int (8 : Int32)), (.int (0 : Int32)), (.int (9 : Int32)), (.int (10 : Int32)), (.int (11 : Int32)), (.int (-2 : Int32)), (.int (-3 : Int32)), (.int (-4 : Int32)), (.int (-7 : Int32)), (.int (-8 : Int32)), (.int (0 : Int32)), (.int (0 : Int32)), (.int (0 : Int32)), (.int (0 : Int32)), (.int (0 : Int32)), (.int (0 : Int32)), (.int (0 : Int32)), (.int (0 : Int32))] (.int (0 : Int32)) := Arv.set Ar168 q168 S168 M168 P168 G168 rfl W169 23 rfl (Nat.le_of_ble_eq_true rfl)
  have N171 := Fr.snoc X169 N164 big2
  have O173 := own_oldWr O166 W169 big2
  have K174 : Keep h0 h169 [] := K167.wr W169 (Or.inr sz3)
  show own_Go p e below s _ _ _ (T169.setTop (mkF m 135 #[.val (.int p1), .val (.int p2), .unset, .unset, .unset, .unset] [(.ref b1)]))
  refine own_go (fun _ k => XS.dup X169.here hx rfl (hb hby at_135) rfl rfl k) ?_
  show own_Go p e below s _ _ _ (T169.setTop (mkF m 136 #[.val (.int p1), .val (.int p2), .unset, .unset, .unset, .unset] [(.ref b1), (.ref b1)]))
  refine own_go (fun _ k => XS.bipush X169.here hx rfl (hb hby at_136) k) ?_
  show own_Go p e below s _ _ _ (T169.setTop (mkF m 138 #[.val (.int p1), .val (.int p2), .unset, .unset, .unset, .unset] [(.int (24 : Int32)), (.ref b1), (.ref b1)]))
  refine own_go (fun _ k => XS.bipush X169.here hx rfl (hb hby at_138) k) ?_
  show own_Go p e below s _ _ _ (T169.setTop (mkF m 140 #[.val (.int p1), .val (.int p2), .unset, .unset, .unset, .unset] [(.int (16 : Int32)), (.int (24 : Int32)), (.ref b1), (.ref b1)]))
  obtain ⟨cl175, Ar175, q175, S175, M175, P175, G175⟩ := f170
  have hin175 : ¬ ((24 : Int32) < 0 ∨ cl175.slots.size ≤ ((24 : Int32)).toNatClampNeg) := inb_of S175 ⟨by decide, by decide⟩
  obtain ⟨T176, h176, X176, e176, W176, st176⟩ := stI X169 hx hZ e169 Ar175 (j := (24 : Int32)) hin175 (g := (mkF m 140 #[.val (.int p1), .val (.int p2), .unset, .unset, .unset, .unset] [(.int (16 : Int32)), (.int (24 : Int32)), (.ref b1), (.ref b1)])) rfl rfl (hb hby at_140)
  refine own_go st176 ?_
  have f177 : Arv Z h176 b1 k1 .int (32 : Int32) [(.int (1 : Int32)), (.int (12 : Int32)), (.int (-1 : Int32)), (.int (-15 : Int32)), (.int (-9 : Int32)), (.int (-16 : Int32)), (.int (-6 : Int32)), (.int (5 : Int32)), (.int (4 : Int32)), (.int (-5 : Int32)), (.int (3 : Int32)), (.int (2 : Int32)), (.int (7 : Int32)), (.int (6 : Int32)), (.int (8 : Int32)), (.int (0 : Int32)), (.int (9 : Int32)), (.int (10 : Int32)), (.int (11 : Int32)), (.int (-2 : Int32)), (.int (-3 : Int32)), (.int (-4 : Int32)), (.int (-7 : Int32)), (.int (-8 : Int32)), (.int (16 : Int32)), (.int (0 : Int32)), (.int (0 : Int32)), (.int (0 : Int32)), (.int (0 : Int32)), (.int (0 : Int32)), (.int (0 : Int32)), (.int (0 : Int32))] (.int (0 : Int32)) := Arv.set Ar175 q175 S175 M175 P175 G175 rfl W176 24 rfl (Nat.le_of_ble_eq_true rfl)
  have N178 := Fr.snoc X176 N171 big2
  have O180 := own_oldWr O173 W176 big2
  have K181 : Keep h0 h176 [] := K174.wr W176 (Or.inr sz3)
  show own_Go p e below s _ _ _ (T176.setTop (mkF m 141 #[.val (.int p1), .val (.int p2), .unset, .unset, .unset, .unset] [(.ref b1)]))
  refine own_go (fun _ k => XS.dup X176.here hx rfl (hb hby at_141) rfl rfl k) ?_
  show own_Go p e below s _ _ _ (T176.setTop (mkF m 142 #[.val (.int p1), .val (.int p2), .unset, .unset, .unset, .unset] [(.ref b1), (.ref b1)]))
  refine own_go (fun _ k => XS.bipush X176.here hx rfl (hb hby at_142) k) ?_
  show own_Go p e below s _ _ _ (T176.setTop (mkF m 144 #[.val (.int p1), .val (.int p2), .unset, .unset, .unset, .unset] [(.int (25 : Int32)), (.ref b1), (.ref b1)]))
  refine own_go (fun _ k => XS.bipush X176.here hx rfl (hb hby at_144) k) ?_
  show own_Go p e below s _ _ _ (T176.setTop (mkF m 146 #[.val (.int p1), .val (.int p2), .unset, .unset, .unset, .unset] [(.int (91 : Int32)), (.int (25 : Int32)), (.ref b1), (.ref b1)]))
  obtain ⟨cl182, Ar182, q182, S182, M182, P182, G182⟩ := f177
  have hin182 : ¬ ((25 : Int32) < 0 ∨ cl182.slots.size ≤ ((25 : Int32)).toNatClampNeg) := inb_of S182 ⟨by decide, by decide⟩
  obtain ⟨T183, h183, X183, e183, W183, st183⟩ := stI X176 hx hZ e176 Ar182 (j := (25 : Int32)) hin182 (g := (mkF m 146 #[.val (.int p1), .val (.int p2), .unset, .unset, .unset, .unset] [(.int (91 : Int32)), (.int (25 : Int32)), (.ref b1), (.ref b1)])) rfl rfl (hb hby at_146)
  refine own_go st183 ?_
  have f184 : Arv Z h183 b1 k1 .int (32 : Int32) [(.int (1 : Int32)), (.int (12 : Int32)), (.int (-1 : Int32)), (.int (-15 : Int32)), (.int (-9 : Int32)), (.int (-16 : Int32)), (.int (-6 : Int32)), (.int (5 : Int32)), (.int (4 : Int32)), (.int (-5 : Int32)), (.int (3 : Int32)), (.int (2 : Int32)), (.int (7 : Int32)), (.int (6 : Int32)), (.int (8 : Int32)), (.int (0 : Int32)), (.int (9 : Int32)), (.int (10 : Int32)), (.int (11 : Int32)), (.int (-2 : Int32)), (.int (-3 : Int32)), (.int (-4 : Int32)), (.int (-7 : Int32)), (.int (-8 : Int32)), (.int (16 : Int32)), (.int (91 : Int32)), (.int (0 : Int32)), (.int (0 : Int32)), (.int (0 : Int32)), (.int (0 : Int32)), (.int (0 : Int32)), (.int (0 : Int32))] (.int (0 : Int32)) := Arv.set Ar182 q182 S182 M182 P182 G182 rfl W183 25 rfl (Nat.le_of_ble_eq_true rfl)
  have N185 := Fr.snoc X183 N178 big2
  have O187 := own_oldWr O180 W183 big2
  have K188 : Keep h0 h183 [] := K181.wr W183 (Or.inr sz3)
  show own_Go p e below s _ _ _ (T183.setTop (mkF m 147 #[.val (.int p1), .val (.int p2), .unset, .unset, .unset, .unset] [(.ref b1)]))
  refine own_go (fun _ k => XS.dup X183.here hx rfl (hb hby at_147) rfl rfl k) ?_
  show own_Go p e below s _ _ _ (T183.setTop (mkF m 148 #[.val (.int p1), .val (.int p2), .unset, .unset, .unset, .unset] [(.ref b1), (.ref b1)]))
  refine own_go (fun _ k => XS.bipush X183.here hx rfl (hb hby at_148) k) ?_
  show own_Go p e below s _ _ _ (T183.setTop (mkF m 150 #[.val (.int p1), .val (.int p2), .unset, .unset, .unset, .unset] [(.int (26 : Int32)), (.ref b1), (.ref b1)]))
  refine own_go (fun _ k => XS.bipush X183.here hx rfl (hb hby at_150) k) ?_
  show own_Go p e below s _ _ _ (T183.setTop (mkF m 152 #[.val (.int p1), .val (.int p2), .unset, .unset, .unset, .unset] [(.int (92 : Int32)), (.int (26 : Int32)), (.ref b1), (.ref b1)]))
  obtain ⟨cl189, Ar189, q189, S189, M189, P189, G189⟩ := f184
  have hin189 : ¬ ((26 : Int32) < 0 ∨ cl189.slots.size ≤ ((26 : Int32)).toNatClampNeg) := inb_of S189 ⟨by decide, by decide⟩
  obtain ⟨T190, h190, X190, e190, W190, st190⟩ := stI X183 hx hZ e183 Ar189 (j := (26 : Int32)) hin189 (g := (mkF m 152 #[.val (.int p1), .val (.int p2), .unset, .unset, .unset, .unset] [(.int (92 : Int32)), (.int (26 : Int32)), (.ref b1), (.ref b1)])) rfl rfl (hb hby at_152)
  refine own_go st190 ?_
  have f191 : Arv Z h190 b1 k1 .int (32 : Int32) [(.int (1 : Int32)), (.int (12 : Int32)), (.int (-1 : Int32)), (.int (-15 : Int32)), (.int (-9 : Int32)), (.int (-16 : Int32)), (.int (-6 : Int32)), (.int (5 : Int32)), (.int (4 : Int32)), (.int (-5 : Int32)), (.int (3 : Int32)), (.int (2 : Int32)), (.int (7 : Int32)), (.int (6 : Int32)), (.int (8 : Int32)), (.int (0 : Int32)), (.int (9 : Int32)), (.int (10 : Int32)), (.int (11 : Int32)), (.int (-2 : Int32)), (.int (-3 : Int32)), (.int (-4 : Int32)), (.int (-7 : Int32)), (.int (-8 : Int32)), (.int (16 : Int32)), (.int (91 : Int32)), (.int (92 : Int32)), (.int (0 : Int32)), (.int (0 : Int32)), (.int (0 : Int32)), (.int (0 : Int32)), (.int (0 : Int32))] (.int (0 : Int32)) := Arv.set Ar189 q189 S189 M189 P189 G189 rfl W190 26 rfl (Nat.le_of_ble_eq_true rfl)
  have N192 := Fr.snoc X190 N185 big2
  have O194 := own_oldWr O187 W190 big2
  have K195 : Keep h0 h190 [] := K188.wr W190 (Or.inr sz3)
  show own_Go p e below s _ _ _ (T190.setTop (mkF m 153 #[.val (.int p1), .val (.int p2), .unset, .unset, .unset, .unset] [(.ref b1)]))
  refine own_go (fun _ k => XS.dup X190.here hx rfl (hb hby at_153) rfl rfl k) ?_
  show own_Go p e below s _ _ _ (T190.setTop (mkF m 154 #[.val (.int p1), .val (.int p2), .unset, .unset, .unset, .unset] [(.ref b1), (.ref b1)]))
  refine own_go (fun _ k => XS.bipush X190.here hx rfl (hb hby at_154) k) ?_
  show own_Go p e below s _ _ _ (T190.setTop (mkF m 156 #[.val (.int p1), .val (.int p2), .unset, .unset, .unset, .unset] [(.int (27 : Int32)), (.ref b1), (.ref b1)]))
  refine own_go (fun _ k => XS.bipush X190.here hx rfl (hb hby at_156) k) ?_
  show own_Go p e below s _ _ _ (T190.setTop (mkF m 158 #[.val (.int p1), .val (.int p2), .unset, .unset, .unset, .unset] [(.int (93 : Int32)), (.int (27 : Int32)), (.ref b1), (.ref b1)]))
  obtain ⟨cl196, Ar196, q196, S196, M196, P196, G196⟩ := f191
  have hin196 : ¬ ((27 : Int32) < 0 ∨ cl196.slots.size ≤ ((27 : Int32)).toNatClampNeg) := inb_of S196 ⟨by decide, by decide⟩
  obtain ⟨T197, h197, X197, e197, W197, st197⟩ := stI X190 hx hZ e190 Ar196 (j := (27 : Int32)) hin196 (g := (mkF m 158 #[.val (.int p1), .val (.int p2), .unset, .unset, .unset, .unset] [(.int (93 : Int32)), (.int (27 : Int32)), (.ref b1), (.ref b1)])) rfl rfl (hb hby at_158)
  refine own_go st197 ?_
  have f198 : Arv Z h197 b1 k1 .int (32 : Int32) [(.int (1 : Int32)), (.int (12 : Int32)), (.int (-1 : Int32)), (.int (-15 : Int32)), (.int (-9 : Int32)), (.int (-16 : Int32)), (.int (-6 : Int32)), (.int (5 : Int32)), (.int (4 : Int32)), (.int (-5 : Int32)), (.int (3 : Int32)), (.int (2 : Int32)), (.int (7 : Int32)), (.int (6 : Int32)), (.int (8 : Int32)), (.int (0 : Int32)), (.int (9 : Int32)), (.int (10 : Int32)), (.int (11 : Int32)), (.int (-2 : Int32)), (.int (-3 : Int32)), (.int (-4 : Int32)), (.int (-7 : Int32)), (.int (-8 : Int32)), (.int (16 : Int32)), (.int (91 : Int32)), (.int (92 : Int32)), (.int (93 : Int32)), (.int (0 : Int32)), (.int (0 : Int32)), (.int (0 : Int32)), (.int (0 : Int32))] (.int (0 : Int32)) := Arv.set Ar196 q196 S196 M196 P196 G196 rfl W197 27 rfl (Nat.le_of_ble_eq_true rfl)
  have N199 := Fr.snoc X197 N192 big2
  have O201 := own_oldWr O194 W197 big2
  have K202 : Keep h0 h197 [] := K195.wr W197 (Or.inr sz3)
  show own_Go p e below s _ _ _ (T197.setTop (mkF m 159 #[.val (.int p1), .val (.int p2), .unset, .unset, .unset, .unset] [(.ref b1)]))
  refine own_go (fun _ k => XS.dup X197.here hx rfl (hb hby at_159) rfl rfl k) ?_
  show own_Go p e below s _ _ _ (T197.setTop (mkF m 160 #[.val (.int p1), .val (.int p2), .unset, .unset, .unset, .unset] [(.ref b1), (.ref b1)]))
  refine own_go (fun _ k => XS.bipush X197.here hx rfl (hb hby at_160) k) ?_
  show own_Go p e below s _ _ _ (T197.setTop (mkF m 162 #[.val (.int p1), .val (.int p2), .unset, .unset, .unset, .unset] [(.int (28 : Int32)), (.ref b1), (.ref b1)]))
  refine own_go (fun _ k => XS.sipush X197.here hx rfl (hb hby at_162) k) ?_
  show own_Go p e below s _ _ _ (T197.setTop (mkF m 165 #[.val (.int p1), .val (.int p2), .unset, .unset, .unset, .unset] [(.int (2004 : Int32)), (.int (28 : Int32)), (.ref b1), (.ref b1)]))
  obtain ⟨cl203, Ar203, q203, S203, M203, P203, G203⟩ := f198
  have hin203 : ¬ ((28 : Int32) < 0 ∨ cl203.slots.size ≤ ((28 : Int32)).toNatClampNeg) := inb_of S203 ⟨by decide, by decide⟩
  obtain ⟨T204, h204, X204, e204, W204, st204⟩ := stI X197 hx hZ e197 Ar203 (j := (28 : Int32)) hin203 (g := (mkF m 165 #[.val (.int p1), .val (.int p2), .unset, .unset, .unset, .unset] [(.int (2004 : Int32)), (.int (28 : Int32)), (.ref b1), (.ref b1)])) rfl rfl (hb hby at_165)
  refine own_go st204 ?_
  have f205 : Arv Z h204 b1 k1 .int (32 : Int32) [(.int (1 : Int32)), (.int (12 : Int32)), (.int (-1 : Int32)), (.int (-15 : Int32)), (.int (-9 : Int32)), (.int (-16 : Int32)), (.int (-6 : Int32)), (.int (5 : Int32)), (.int (4 : Int32)), (.int (-5 : Int32)), (.int (3 : Int32)), (.int (2 : Int32)), (.int (7 : Int32)), (.int (6 : Int32)), (.int (8 : Int32)), (.int (0 : Int32)), (.int (9 : Int32)), (.int (10 : Int32)), (.int (11 : Int32)), (.int (-2 : Int32)), (.int (-3 : Int32)), (.int (-4 : Int32)), (.int (-7 : Int32)), (.int (-8 : Int32)), (.int (16 : Int32)), (.int (91 : Int32)), (.int (92 : Int32)), (.int (93 : Int32)), (.int (2004 : Int32)), (.int (0 : Int32)), (.int (0 : Int32)), (.int (0 : Int32))] (.int (0 : Int32)) := Arv.set Ar203 q203 S203 M203 P203 G203 rfl W204 28 rfl (Nat.le_of_ble_eq_true rfl)
  have N206 := Fr.snoc X204 N199 big2
  have O208 := own_oldWr O201 W204 big2
  have K209 : Keep h0 h204 [] := K202.wr W204 (Or.inr sz3)
  show own_Go p e below s _ _ _ (T204.setTop (mkF m 166 #[.val (.int p1), .val (.int p2), .unset, .unset, .unset, .unset] [(.ref b1)]))
  refine own_go (fun _ k => XS.dup X204.here hx rfl (hb hby at_166) rfl rfl k) ?_
  show own_Go p e below s _ _ _ (T204.setTop (mkF m 167 #[.val (.int p1), .val (.int p2), .unset, .unset, .unset, .unset] [(.ref b1), (.ref b1)]))
  refine own_go (fun _ k => XS.bipush X204.here hx rfl (hb hby at_167) k) ?_
  show own_Go p e below s _ _ _ (T204.setTop (mkF m 169 #[.val (.int p1), .val (.int p2), .unset, .unset, .unset, .unset] [(.int (29 : Int32)), (.ref b1), (.ref b1)]))
  refine own_go (fun _ k => XS.sipush X204.here hx rfl (hb hby at_169) k) ?_
  show own_Go p e below s _ _ _ (T204.setTop (mkF m 172 #[.val (.int p1), .val (.int p2), .unset, .unset, .unset, .unset] [(.int (2005 : Int32)), (.int (29 : Int32)), (.ref b1), (.ref b1)]))
  obtain ⟨cl210, Ar210, q210, S210, M210, P210, G210⟩ := f205
  have hin210 : ¬ ((29 : Int32) < 0 ∨ cl210.slots.size ≤ ((29 : Int32)).toNatClampNeg) := inb_of S210 ⟨by decide, by decide⟩
  obtain ⟨T211, h211, X211, e211, W211, st211⟩ := stI X204 hx hZ e204 Ar210 (j := (29 : Int32)) hin210 (g := (mkF m 172 #[.val (.int p1), .val (.int p2), .unset, .unset, .unset, .unset] [(.int (2005 : Int32)), (.int (29 : Int32)), (.ref b1), (.ref b1)])) rfl rfl (hb hby at_172)
  refine own_go st211 ?_
  have f212 : Arv Z h211 b1 k1 .int (32 : Int32) [(.int (1 : Int32)), (.int (12 : Int32)), (.int (-1 : Int32)), (.int (-15 : Int32)), (.int (-9 : Int32)), (.int (-16 : Int32)), (.int (-6 : Int32)), (.int (5 : Int32)), (.int (4 : Int32)), (.int (-5 : Int32)), (.int (3 : Int32)), (.int (2 : Int32)), (.int (7 : Int32)), (.int (6 : Int32)), (.int (8 : Int32)), (.int (0 : Int32)), (.int (9 : Int32)), (.int (10 : Int32)), (.int (11 : Int32)), (.int (-2 : Int32)), (.int (-3 : Int32)), (.int (-4 : Int32)), (.int (-7 : Int32)), (.int (-8 : Int32)), (.int (16 : Int32)), (.int (91 : Int32)), (.int (92 : Int32)), (.int (93 : Int32)), (.int (2004 : Int32)), (.int (2005 : Int32)), (.int (0 : Int32)), (.int (0 : Int32))] (.int (0 : Int32)) := Arv.set Ar210 q210 S210 M210 P210 G210 rfl W211 29 rfl (Nat.le_of_ble_eq_true rfl)
  have N213 := Fr.snoc X211 N206 big2
  have O215 := own_oldWr O208 W211 big2
  have K216 : Keep h0 h211 [] := K209.wr W211 (Or.inr sz3)
  show own_Go p e below s _ _ _ (T211.setTop (mkF m 173 #[.val (.int p1), .val (.int p2), .unset, .unset, .unset, .unset] [(.ref b1)]))
  refine own_go (fun _ k => XS.dup X211.here hx rfl (hb hby at_173) rfl rfl k) ?_
  show own_Go p e below s _ _ _ (T211.setTop (mkF m 174 #[.val (.int p1), .val (.int p2), .unset, .unset, .unset, .unset] [(.ref b1), (.ref b1)]))
  refine own_go (fun _ k => XS.bipush X211.here hx rfl (hb hby at_174) k) ?_
  show own_Go p e below s _ _ _ (T211.setTop (mkF m 176 #[.val (.int p1), .val (.int p2), .unset, .unset, .unset, .unset] [(.int (30 : Int32)), (.ref b1), (.ref b1)]))
  refine own_go (X211.ldcInt hx hown (mvT hZ (hw _ (List.mem_of_getElem? (i := 1) rfl))) (g := (mkF m 176 #[.val (.int p1), .val (.int p2), .unset, .unset, .unset, .unset] [(.int (30 : Int32)), (.ref b1), (.ref b1)])) rfl (hb hby at_176)) ?_
  show own_Go p e below s _ _ _ (T211.setTop (mkF m 178 #[.val (.int p1), .val (.int p2), .unset, .unset, .unset, .unset] [(.int (-2147483648 : Int32)), (.int (30 : Int32)), (.ref b1), (.ref b1)]))
  obtain ⟨cl217, Ar217, q217, S217, M217, P217, G217⟩ := f212
  have hin217 : ¬ ((30 : Int32) < 0 ∨ cl217.slots.size ≤ ((30 : Int32)).toNatClampNeg) := inb_of S217 ⟨by decide, by decide⟩
  obtain ⟨T218, h218, X218, e218, W218, st218⟩ := stI X211 hx hZ e211 Ar217 (j := (30 : Int32)) hin217 (g := (mkF m 178 #[.val (.int p1), .val (.int p2), .unset, .unset, .unset, .unset] [(.int (-2147483648 : Int32)), (.int (30 : Int32)), (.ref b1), (.ref b1)])) rfl rfl (hb hby at_178)
  refine own_go st218 ?_
  have f219 : Arv Z h218 b1 k1 .int (32 : Int32) [(.int (1 : Int32)), (.int (12 : Int32)), (.int (-1 : Int32)), (.int (-15 : Int32)), (.int (-9 : Int32)), (.int (-16 : Int32)), (.int (-6 : Int32)), (.int (5 : Int32)), (.int (4 : Int32)), (.int (-5 : Int32)), (.int (3 : Int32)), (.int (2 : Int32)), (.int (7 : Int32)), (.int (6 : Int32)), (.int (8 : Int32)), (.int (0 : Int32)), (.int (9 : Int32)), (.int (10 : Int32)), (.int (11 : Int32)), (.int (-2 : Int32)), (.int (-3 : Int32)), (.int (-4 : Int32)), (.int (-7 : Int32)), (.int (-8 : Int32)), (.int (16 : Int32)), (.int (91 : Int32)), (.int (92 : Int32)), (.int (93 : Int32)), (.int (2004 : Int32)), (.int (2005 : Int32)), (.int (-2147483648 : Int32)), (.int (0 : Int32))] (.int (0 : Int32)) := Arv.set Ar217 q217 S217 M217 P217 G217 rfl W218 30 rfl (Nat.le_of_ble_eq_true rfl)
  have N220 := Fr.snoc X218 N213 big2
  have O222 := own_oldWr O215 W218 big2
  have K223 : Keep h0 h218 [] := K216.wr W218 (Or.inr sz3)
  show own_Go p e below s _ _ _ (T218.setTop (mkF m 179 #[.val (.int p1), .val (.int p2), .unset, .unset, .unset, .unset] [(.ref b1)]))
  refine own_go (fun _ k => XS.dup X218.here hx rfl (hb hby at_179) rfl rfl k) ?_
  show own_Go p e below s _ _ _ (T218.setTop (mkF m 180 #[.val (.int p1), .val (.int p2), .unset, .unset, .unset, .unset] [(.ref b1), (.ref b1)]))
  refine own_go (fun _ k => XS.bipush X218.here hx rfl (hb hby at_180) k) ?_
  show own_Go p e below s _ _ _ (T218.setTop (mkF m 182 #[.val (.int p1), .val (.int p2), .unset, .unset, .unset, .unset] [(.int (31 : Int32)), (.ref b1), (.ref b1)]))
  refine own_go (X218.ldcInt hx hown (mvT hZ (hw _ (List.mem_of_getElem? (i := 2) rfl))) (g := (mkF m 182 #[.val (.int p1), .val (.int p2), .unset, .unset, .unset, .unset] [(.int (31 : Int32)), (.ref b1), (.ref b1)])) rfl (hb hby at_182)) ?_
  show own_Go p e below s _ _ _ (T218.setTop (mkF m 184 #[.val (.int p1), .val (.int p2), .unset, .unset, .unset, .unset] [(.int (2147483647 : Int32)), (.int (31 : Int32)), (.ref b1), (.ref b1)]))
  obtain ⟨cl224, Ar224, q224, S224, M224, P224, G224⟩ := f219
  have hin224 : ¬ ((31 : Int32) < 0 ∨ cl224.slots.size ≤ ((31 : Int32)).toNatClampNeg) := inb_of S224 ⟨by decide, by decide⟩
  obtain ⟨T225, h225, X225, e225, W225, st225⟩ := stI X218 hx hZ e218 Ar224 (j := (31 : Int32)) hin224 (g := (mkF m 184 #[.val (.int p1), .val (.int p2), .unset, .unset, .unset, .unset] [(.int (2147483647 : Int32)), (.int (31 : Int32)), (.ref b1), (.ref b1)])) rfl rfl (hb hby at_184)
  refine own_go st225 ?_
  have f226 : Arv Z h225 b1 k1 .int (32 : Int32) [(.int (1 : Int32)), (.int (12 : Int32)), (.int (-1 : Int32)), (.int (-15 : Int32)), (.int (-9 : Int32)), (.int (-16 : Int32)), (.int (-6 : Int32)), (.int (5 : Int32)), (.int (4 : Int32)), (.int (-5 : Int32)), (.int (3 : Int32)), (.int (2 : Int32)), (.int (7 : Int32)), (.int (6 : Int32)), (.int (8 : Int32)), (.int (0 : Int32)), (.int (9 : Int32)), (.int (10 : Int32)), (.int (11 : Int32)), (.int (-2 : Int32)), (.int (-3 : Int32)), (.int (-4 : Int32)), (.int (-7 : Int32)), (.int (-8 : Int32)), (.int (16 : Int32)), (.int (91 : Int32)), (.int (92 : Int32)), (.int (93 : Int32)), (.int (2004 : Int32)), (.int (2005 : Int32)), (.int (-2147483648 : Int32)), (.int (2147483647 : Int32))] (.int (0 : Int32)) := Arv.set Ar224 q224 S224 M224 P224 G224 rfl W225 31 rfl (Nat.le_of_ble_eq_true rfl)
  have N227 := Fr.snoc X225 N220 big2
  have O229 := own_oldWr O222 W225 big2
  have K230 : Keep h0 h225 [] := K223.wr W225 (Or.inr sz3)
  show own_Go p e below s _ _ _ (T225.setTop (mkF m 185 #[.val (.int p1), .val (.int p2), .unset, .unset, .unset, .unset] [(.ref b1)]))
  refine own_go (fun _ k => XS.astoreN X225.here hx rfl (hb hby at_185) rfl rfl (l' := #[.val (.int p1), .val (.int p2), .val (.ref b1), .unset, .unset, .unset]) rfl k) ?_
  show own_Go p e below s _ _ _ (T225.setTop (mkF m 186 #[.val (.int p1), .val (.int p2), .val (.ref b1), .unset, .unset, .unset] []))
  refine own_go (fun _ k => XS.iloadN X225.here hx rfl (hb hby at_186) rfl k) ?_
  show own_Go p e below s _ _ _ (T225.setTop (mkF m 187 #[.val (.int p1), .val (.int p2), .val (.ref b1), .unset, .unset, .unset] [(.int p1)]))
  refine own_go (fun _ k => XS.iconst X225.here hx rfl (hb hby at_187) k) ?_
  show own_Go p e below s _ _ _ (T225.setTop (mkF m 188 #[.val (.int p1), .val (.int p2), .val (.ref b1), .unset, .unset, .unset] [(.int (1 : Int32)), (.int p1)]))
  refine own_go (fun _ k => XS.iand X225.here hx rfl (hb hby at_188) rfl k) ?_
  show own_Go p e below s _ _ _ (T225.setTop (mkF m 189 #[.val (.int p1), .val (.int p2), .val (.ref b1), .unset, .unset, .unset] [(.int (p1 &&& (1 : Int32)))]))
  by_cases hc231 : (p1 &&& (1 : Int32)) = (0 : Int32)
  · refine own_go (fun _ k => XS.ifYes X225.here hx rfl (pc0 := 189) (pc' := 196) rfl (hb hby at_189) rfl ((if0 _ _).trans (teq hc231).1) (by decide) (by decide) k) ?_
    show own_Go p e below s _ _ _ (T225.setTop (mkF m 196 #[.val (.int p1), .val (.int p2), .val (.ref b1), .unset, .unset, .unset] []))
    refine own_go (fun _ k => XS.aloadN X225.here hx rfl (hb hby at_196) rfl rfl k) ?_
    show own_Go p e below s _ _ _ (T225.setTop (mkF m 197 #[.val (.int p1), .val (.int p2), .val (.ref b1), .unset, .unset, .unset] [(.ref b1)]))
    refine own_go (fun _ k => XS.iloadN X225.here hx rfl (hb hby at_197) rfl k) ?_
    show own_Go p e below s _ _ _ (T225.setTop (mkF m 198 #[.val (.int p1), .val (.int p2), .val (.ref b1), .unset, .unset, .unset] [(.int p1), (.ref b1)]))
    refine own_go (fun _ k => XS.iconst X225.here hx rfl (hb hby at_198) k) ?_
    show own_Go p e below s _ _ _ (T225.setTop (mkF m 199 #[.val (.int p1), .val (.int p2), .val (.ref b1), .unset, .unset, .unset] [(.int (1 : Int32)), (.int p1), (.ref b1)]))
    refine own_go (fun _ k => XS.iushr X225.here hx rfl (hb hby at_199) rfl k) ?_
    show own_Go p e below s _ _ _ (T225.setTop (mkF m 200 #[.val (.int p1), .val (.int p2), .val (.ref b1), .unset, .unset, .unset] [(.int ((p1.toUInt32 >>> ((1 : Int32) &&& 31).toUInt32).toInt32)), (.ref b1)]))
    refine own_go (fun _ k => XS.bipush X225.here hx rfl (hb hby at_200) k) ?_
    show own_Go p e below s _ _ _ (T225.setTop (mkF m 202 #[.val (.int p1), .val (.int p2), .val (.ref b1), .unset, .unset, .unset] [(.int (31 : Int32)), (.int ((p1.toUInt32 >>> ((1 : Int32) &&& 31).toUInt32).toInt32)), (.ref b1)]))
    refine own_go (fun _ k => XS.iand X225.here hx rfl (hb hby at_202) rfl k) ?_
    show own_Go p e below s _ _ _ (T225.setTop (mkF m 203 #[.val (.int p1), .val (.int p2), .val (.ref b1), .unset, .unset, .unset] [(.int (((p1.toUInt32 >>> ((1 : Int32) &&& 31).toUInt32).toInt32) &&& (31 : Int32))), (.ref b1)]))
    obtain ⟨w232, hv233⟩ : ∃ w : Int32, ([(.int (1 : Int32)), (.int (12 : Int32)), (.int (-1 : Int32)), (.int (-15 : Int32)), (.int (-9 : Int32)), (.int (-16 : Int32)), (.int (-6 : Int32)), (.int (5 : Int32)), (.int (4 : Int32)), (.int (-5 : Int32)), (.int (3 : Int32)), (.int (2 : Int32)), (.int (7 : Int32)), (.int (6 : Int32)), (.int (8 : Int32)), (.int (0 : Int32)), (.int (9 : Int32)), (.int (10 : Int32)), (.int (11 : Int32)), (.int (-2 : Int32)), (.int (-3 : Int32)), (.int (-4 : Int32)), (.int (-7 : Int32)), (.int (-8 : Int32)), (.int (16 : Int32)), (.int (91 : Int32)), (.int (92 : Int32)), (.int (93 : Int32)), (.int (2004 : Int32)), (.int (2005 : Int32)), (.int (-2147483648 : Int32)), (.int (2147483647 : Int32))] : List Value).getD ((((p1.toUInt32 >>> ((1 : Int32) &&& 31).toUInt32).toInt32) &&& (31 : Int32))).toNatClampNeg (.int (0 : Int32)) = .int w := ⟨_, own_getI [(1 : Int32), (12 : Int32), (-1 : Int32), (-15 : Int32), (-9 : Int32), (-16 : Int32), (-6 : Int32), (5 : Int32), (4 : Int32), (-5 : Int32), (3 : Int32), (2 : Int32), (7 : Int32), (6 : Int32), (8 : Int32), (0 : Int32), (9 : Int32), (10 : Int32), (11 : Int32), (-2 : Int32), (-3 : Int32), (-4 : Int32), (-7 : Int32), (-8 : Int32), (16 : Int32), (91 : Int32), (92 : Int32), (93 : Int32), (2004 : Int32), (2005 : Int32), (-2147483648 : Int32), (2147483647 : Int32)] _⟩
    obtain ⟨cl233, Ar233, -, S233, -, P233, -⟩ := id f226
    have hin233 : ¬ ((((p1.toUInt32 >>> ((1 : Int32) &&& 31).toUInt32).toInt32) &&& (31 : Int32)) < 0 ∨ cl233.slots.size ≤ ((((p1.toUInt32 >>> ((1 : Int32) &&& 31).toUInt32).toInt32) &&& (31 : Int32))).toNatClampNeg) := inb_of S233 (own_and31 _)
    refine own_go (X225.iaload hx (j := (((p1.toUInt32 >>> ((1 : Int32) &&& 31).toUInt32).toInt32) &&& (31 : Int32))) (v := (.int w232)) (by rw [e225]; exact Ar233.1) (State.isArrayOf_alike hZ.alike Ar233.2.1) Ar233.2.2 hin233 (P233.at hin233 hv233) (g := (mkF m 203 #[.val (.int p1), .val (.int p2), .val (.ref b1), .unset, .unset, .unset] [(.int (((p1.toUInt32 >>> ((1 : Int32) &&& 31).toUInt32).toInt32) &&& (31 : Int32))), (.ref b1)])) rfl rfl (hb hby at_203)) ?_
    show own_Go p e below s _ _ _ (T225.setTop (mkF m 204 #[.val (.int p1), .val (.int p2), .val (.ref b1), .unset, .unset, .unset] [(.int w232)]))
    refine own_go (fun _ k => XS.istoreN X225.here hx rfl (hb hby at_204) rfl (l' := #[.val (.int p1), .val (.int p2), .val (.ref b1), .val (.int w232), .unset, .unset]) rfl k) ?_
    show own_Go p e below s _ _ _ (T225.setTop (mkF m 205 #[.val (.int p1), .val (.int p2), .val (.ref b1), .val (.int w232), .unset, .unset] []))
    refine own_go (fun _ k => XS.iloadN X225.here hx rfl (hb hby at_205) rfl k) ?_
    show own_Go p e below s _ _ _ (T225.setTop (mkF m 206 #[.val (.int p1), .val (.int p2), .val (.ref b1), .val (.int w232), .unset, .unset] [(.int w232)]))
    obtain ⟨v234, T234, L234, X234, hQ234, st234⟩ := own_callS (y := (⟨"com/example/ibex/ibex/model/ValueKind", "of", "(I)Ljava/util/Optional;"⟩ : MethodName)) X225 hx hZ hown (hw _ (List.mem_of_getElem? (i := 3) rfl)) (hw _ (List.mem_of_getElem? (i := 4) rfl)) (hw _ (List.mem_of_getElem? (i := 5) rfl)) (hw _ (List.mem_of_getElem? (i := 6) rfl)) (rm_vof l Z a0 hw oA oB oE1 oE2 oNe oM oE3 oF3 [] w232 h225 O229) 0 1 1 rfl rfl (by decide) (by decide) (by decide) (by show _ ≤ 16; omega) (by show _ ≤ 192; omega) e225 (g := (mkF m 206 #[.val (.int p1), .val (.int p2), .val (.ref b1), .val (.int w232), .unset, .unset] [(.int w232)])) rfl (by rw [hml]; rfl) [(.int w232)] [] (lenOf own_pd_4 rfl) rfl rfl (by show 2 * 0 + _ ≤ _; exact Nat.le_of_eq rfl) (hb hby at_206)
    rcases hQ234 with hQ234 | hQ234 | hQ234
    · obtain ⟨w235, rfl, Nc241, hp236, Kc240, hb237, f238, f239⟩ := hQ234
      refine own_go st234 ?_
      have N242 := Fr.app N227 Nc241
      have ne243 : b1 ≠ w235 := Nat.ne_of_lt (Nat.lt_of_lt_of_le f226.lt hb237)
      have big244 : Z.heap.size ≤ w235 := Nat.le_trans O229.1 hb237
      have sz245 : h0.size ≤ w235 := Nat.le_trans K230.1 hb237
      have f246 : Arv Z T234.heap b1 k1 .int (32 : Int32) [(.int (1 : Int32)), (.int (12 : Int32)), (.int (-1 : Int32)), (.int (-15 : Int32)), (.int (-9 : Int32)), (.int (-16 : Int32)), (.int (-6 : Int32)), (.int (5 : Int32)), (.int (4 : Int32)), (.int (-5 : Int32)), (.int (3 : Int32)), (.int (2 : Int32)), (.int (7 : Int32)), (.int (6 : Int32)), (.int (8 : Int32)), (.int (0 : Int32)), (.int (9 : Int32)), (.int (10 : Int32)), (.int (11 : Int32)), (.int (-2 : Int32)), (.int (-3 : Int32)), (.int (-4 : Int32)), (.int (-7 : Int32)), (.int (-8 : Int32)), (.int (16 : Int32)), (.int (91 : Int32)), (.int (92 : Int32)), (.int (93 : Int32)), (.int (2004 : Int32)), (.int (2005 : Int32)), (.int (-2147483648 : Int32)), (.int (2147483647 : Int32))] (.int (0 : Int32)) := f226.keep Kc240 nin0
      have O247 := own_oldKeep O229 Kc240 all0
      have K248 : Keep h0 T234.heap [] := K230.trans Kc240 all0
      show own_Go p e below s _ _ _ (T234.setTop (mkF m 209 #[.val (.int p1), .val (.int p2), .val (.ref b1), .val (.int w232), .unset, .unset] [(.ref w235)]))
      refine own_go (fun _ k => XS.aconstNull X234.here hx rfl (hb hby at_209) k) ?_
      show own_Go p e below s _ _ _ (T234.setTop (mkF m 210 #[.val (.int p1), .val (.int p2), .val (.ref b1), .val (.int w232), .unset, .unset] [.null, (.ref w235)]))
      obtain ⟨v249, T249, L249, X249, hQ249, st249⟩ := own_callV (y := (⟨"java/util/Optional", "orElse", "(Ljava/lang/Object;)Ljava/lang/Object;"⟩ : MethodName)) (z := (⟨"java/util/Optional", "orElse", "(Ljava/lang/Object;)Ljava/lang/Object;"⟩ : MethodName)) X234 hx hZ hown (hw _ (List.mem_of_getElem? (i := 28) rfl)) (hw _ (List.mem_of_getElem? (i := 29) rfl)) (notFace_of_selects (args := #[]) (mvT hZ (hw _ (List.mem_of_getElem? (i := 31) rfl)))) (hw _ (List.mem_of_getElem? (i := 31) rfl)) (hw _ (List.mem_of_getElem? (i := 30) rfl)) (hw _ (List.mem_of_getElem? (i := 11) rfl)) (hw _ (List.mem_of_getElem? (i := 32) rfl)) (rm_orElseR l Z a0 hw oA oB oE1 oE2 oNe oM oE3 oF3 [] w235 wx T234.heap O247 f239) 0 0 0 rfl rfl (by decide) (by decide) (by decide) (by show _ ≤ 16; omega) (by show _ ≤ 192; omega) (rfl : T234.heap = T234.heap) f238 (g := (mkF m 210 #[.val (.int p1), .val (.int p2), .val (.ref b1), .val (.int w232), .unset, .unset] [.null, (.ref w235)])) rfl (by rw [hml]; rfl) [.null] [] (lenOf own_pd_0 rfl) rfl rfl (by show 2 * 0 + _ ≤ _; exact Nat.le_of_eq rfl) (hb hby at_210)
      obtain ⟨rfl, Nc251, Kc250⟩ := hQ249
      refine own_go st249 ?_
      have N252 := Fr.app N242 Nc251
      show own_Go p e below s _ _ _ (T249.setTop (mkF m 213 #[.val (.int p1), .val (.int p2), .val (.ref b1), .val (.int w232), .unset, .unset] [(.ref wx)]))
      obtain ⟨T253, X253, e253, st253⟩ := castY X249 hx hZ hown (hw _ (List.mem_of_getElem? (i := 33) rfl)) Kc250 (Ins.self (oE1.ext O247)) (g := (mkF m 213 #[.val (.int p1), .val (.int p2), .val (.ref b1), .val (.int w232), .unset, .unset] [(.ref wx)])) rfl rfl (hb hby at_213)
      refine own_go st253 ?_
      show own_Go p e below s _ _ _ (T253.setTop (mkF m 216 #[.val (.int p1), .val (.int p2), .val (.ref b1), .val (.int w232), .unset, .unset] [(.ref wx)]))
      refine own_go (fun _ k => XS.astore X253.here hx rfl (hb hby at_216) rfl rfl (l' := #[.val (.int p1), .val (.int p2), .val (.ref b1), .val (.int w232), .val (.ref wx), .unset]) rfl k) ?_
      show own_Go p e below s _ _ _ (T253.setTop (mkF m 218 #[.val (.int p1), .val (.int p2), .val (.ref b1), .val (.int w232), .val (.ref wx), .unset] []))
      refine own_go (fun _ k => XS.aload X253.here hx rfl (hb hby at_218) rfl rfl k) ?_
      show own_Go p e below s _ _ _ (T253.setTop (mkF m 220 #[.val (.int p1), .val (.int p2), .val (.ref b1), .val (.int w232), .val (.ref wx), .unset] [(.ref wx)]))
      refine own_go (fun _ k => XS.ifnonnullYes X253.here hx rfl (pc0 := 220) (pc' := 227) rfl (hb hby at_220) rfl (by decide) (by decide) k) ?_
      show own_Go p e below s _ _ _ (T253.setTop (mkF m 227 #[.val (.int p1), .val (.int p2), .val (.ref b1), .val (.int w232), .val (.ref wx), .unset] []))
      refine own_go (fun _ k => XS.aload X253.here hx rfl (hb hby at_227) rfl rfl k) ?_
      show own_Go p e below s _ _ _ (T253.setTop (mkF m 229 #[.val (.int p1), .val (.int p2), .val (.ref b1), .val (.int w232), .val (.ref wx), .unset] [(.ref wx)]))
      obtain ⟨T254, X254, e254, st254⟩ := getS2 X253 hx hZ hown (host := "") (Or.inl (hw _ (List.mem_of_getElem? (i := 35) rfl))) Via.refl e253 (oA.ext O247) (g := (mkF m 229 #[.val (.int p1), .val (.int p2), .val (.ref b1), .val (.int w232), .val (.ref wx), .unset] [(.ref wx)])) rfl (hb hby at_229)
      refine own_go st254 ?_
      show own_Go p e below s _ _ _ (T254.setTop (mkF m 232 #[.val (.int p1), .val (.int p2), .val (.ref b1), .val (.int w232), .val (.ref wx), .unset] [(.ref wx), (.ref wx)]))
      refine own_go (fun _ k => Jvm.RoadKit.acmp (g := (mkF m 232 #[.val (.int p1), .val (.int p2), .val (.ref b1), .val (.int w232), .val (.ref wx), .unset] [(.ref wx), (.ref wx)])) X254 hx rfl rfl rfl (pc0 := 232) (pc' := 235) (same := true) rfl (hb hby at_232) rfl (decide_eq_true rfl) (by decide) (by decide) k) ?_
      show own_Go p e below s _ _ _ (T254.setTop (mkF m 235 #[.val (.int p1), .val (.int p2), .val (.ref b1), .val (.int w232), .val (.ref wx), .unset] []))
      refine own_go (fun _ k => XS.iconst X254.here hx rfl (hb hby at_235) k) ?_
      show own_Go p e below s _ _ _ (T254.setTop (mkF m 236 #[.val (.int p1), .val (.int p2), .val (.ref b1), .val (.int w232), .val (.ref wx), .unset] [(.int (1 : Int32))]))
      refine own_go (fun _ k => XS.goto X254.here hx rfl (pc0 := 236) (pc' := 252) rfl (hb hby at_236) (by decide) (by decide) k) ?_
      show own_Go p e below s _ _ _ (T254.setTop (mkF m 252 #[.val (.int p1), .val (.int p2), .val (.ref b1), .val (.int w232), .val (.ref wx), .unset] [(.int (1 : Int32))]))
      refine own_go (fun _ k => XS.istore X254.here hx rfl (hb hby at_252) rfl (l' := #[.val (.int p1), .val (.int p2), .val (.ref b1), .val (.int w232), .val (.ref wx), .val (.int (1 : Int32))]) rfl k) ?_
      show own_Go p e below s _ _ _ (T254.setTop (mkF m 254 #[.val (.int p1), .val (.int p2), .val (.ref b1), .val (.int w232), .val (.ref wx), .val (.int (1 : Int32))] []))
      refine own_go (fun _ k => XS.iload X254.here hx rfl (hb hby at_254) rfl k) ?_
      show own_Go p e below s _ _ _ (T254.setTop (mkF m 256 #[.val (.int p1), .val (.int p2), .val (.ref b1), .val (.int w232), .val (.ref wx), .val (.int (1 : Int32))] [(.int (1 : Int32))]))
      refine own_go (fun _ k => XS.iloadN X254.here hx rfl (hb hby at_256) rfl k) ?_
      show own_Go p e below s _ _ _ (T254.setTop (mkF m 257 #[.val (.int p1), .val (.int p2), .val (.ref b1), .val (.int w232), .val (.ref wx), .val (.int (1 : Int32))] [(.int w232), (.int (1 : Int32))]))
      obtain ⟨v255, T255, L255, X255, hQ255, st255⟩ := own_callS (y := (⟨"com/example/ibex/ibex/model/ValueKindOfPinLaw", "expected", "(I)I"⟩ : MethodName)) X254 hx hZ hown (hw _ (List.mem_of_getElem? (i := 36) rfl)) (hw _ (List.mem_of_getElem? (i := 37) rfl)) (hw _ (List.mem_of_getElem? (i := 38) rfl)) (hw _ (List.mem_of_getElem? (i := 39) rfl)) (rm_expected l Z a0 hw oA oB oE1 oE2 oNe oM oE3 oF3 [] w232 T234.heap O247) 1 0 0 rfl rfl (by decide) (by decide) (by decide) (by show _ ≤ 16; omega) (by show _ ≤ 192; omega) e254 (g := (mkF m 257 #[.val (.int p1), .val (.int p2), .val (.ref b1), .val (.int w232), .val (.ref wx), .val (.int (1 : Int32))] [(.int w232), (.int (1 : Int32))])) rfl (by rw [hml]; rfl) [(.int w232)] [(.int (1 : Int32))] (lenOf own_pd_5 rfl) rfl rfl (by show 2 * 0 + _ ≤ _; exact Nat.le_of_eq rfl) (hb hby at_257)
      rcases hQ255 with hQ255 | hQ255 | hQ255
      · obtain ⟨rfl, Nc258, hp256, Kc257⟩ := hQ255
        refine own_go st255 ?_
        have N259 := Fr.app N252 Nc258
        show own_Go p e below s _ _ _ (T255.setTop (mkF m 260 #[.val (.int p1), .val (.int p2), .val (.ref b1), .val (.int w232), .val (.ref wx), .val (.int (1 : Int32))] [(.int (1 : Int32)), (.int (1 : Int32))]))
        refine own_go (fun _ k => XS.icmpNo X255.here hx rfl (hb hby at_260) rfl (teq (by decide : (1 : Int32) = (1 : Int32))).2 k) ?_
        show own_Go p e below s _ _ _ (T255.setTop (mkF m 263 #[.val (.int p1), .val (.int p2), .val (.ref b1), .val (.int w232), .val (.ref wx), .val (.int (1 : Int32))] []))
        refine own_go (fun _ k => XS.iconst X255.here hx rfl (hb hby at_263) k) ?_
        show own_Go p e below s _ _ _ (T255.setTop (mkF m 264 #[.val (.int p1), .val (.int p2), .val (.ref b1), .val (.int w232), .val (.ref wx), .val (.int (1 : Int32))] [(.int (1 : Int32))]))
        refine own_go (fun _ k => XS.goto X255.here hx rfl (pc0 := 264) (pc' := 268) rfl (hb hby at_264) (by decide) (by decide) k) ?_
        show own_Go p e below s _ _ _ (T255.setTop (mkF m 268 #[.val (.int p1), .val (.int p2), .val (.ref b1), .val (.int w232), .val (.ref wx), .val (.int (1 : Int32))] [(.int (1 : Int32))]))
        refine own_retN X255 hx hlk Kc257 (t := .boolean) hret (by simp) (hb hby at_268) (by show _ ≤ 16; omega) (by show _ ≤ 192; omega) ?_
        exact ⟨rfl, N259, K248⟩
      · obtain ⟨rfl, Nc263, hp260, hp261, Kc262⟩ := hQ255
        refine own_go st255 ?_
        have N264 := Fr.app N252 Nc263
        exact absurd hp236 hp260
      · obtain ⟨rfl, Nc268, hp265, hp266, Kc267⟩ := hQ255
        refine own_go st255 ?_
        have N269 := Fr.app N252 Nc268
        exact absurd hp236 hp265
    · obtain ⟨w270, rfl, Nc277, hp271, hp272, Kc276, hb273, f274, f275⟩ := hQ234
      refine own_go st234 ?_
      have N278 := Fr.app N227 Nc277
      have ne279 : b1 ≠ w270 := Nat.ne_of_lt (Nat.lt_of_lt_of_le f226.lt hb273)
      have big280 : Z.heap.size ≤ w270 := Nat.le_trans O229.1 hb273
      have sz281 : h0.size ≤ w270 := Nat.le_trans K230.1 hb273
      have f282 : Arv Z T234.heap b1 k1 .int (32 : Int32) [(.int (1 : Int32)), (.int (12 : Int32)), (.int (-1 : Int32)), (.int (-15 : Int32)), (.int (-9 : Int32)), (.int (-16 : Int32)), (.int (-6 : Int32)), (.int (5 : Int32)), (.int (4 : Int32)), (.int (-5 : Int32)), (.int (3 : Int32)), (.int (2 : Int32)), (.int (7 : Int32)), (.int (6 : Int32)), (.int (8 : Int32)), (.int (0 : Int32)), (.int (9 : Int32)), (.int (10 : Int32)), (.int (11 : Int32)), (.int (-2 : Int32)), (.int (-3 : Int32)), (.int (-4 : Int32)), (.int (-7 : Int32)), (.int (-8 : Int32)), (.int (16 : Int32)), (.int (91 : Int32)), (.int (92 : Int32)), (.int (93 : Int32)), (.int (2004 : Int32)), (.int (2005 : Int32)), (.int (-2147483648 : Int32)), (.int (2147483647 : Int32))] (.int (0 : Int32)) := f226.keep Kc276 nin0
      have O283 := own_oldKeep O229 Kc276 all0
      have K284 : Keep h0 T234.heap [] := K230.trans Kc276 all0
      show own_Go p e below s _ _ _ (T234.setTop (mkF m 209 #[.val (.int p1), .val (.int p2), .val (.ref b1), .val (.int w232), .unset, .unset] [(.ref w270)]))
      refine own_go (fun _ k => XS.aconstNull X234.here hx rfl (hb hby at_209) k) ?_
      show own_Go p e below s _ _ _ (T234.setTop (mkF m 210 #[.val (.int p1), .val (.int p2), .val (.ref b1), .val (.int w232), .unset, .unset] [.null, (.ref w270)]))
      obtain ⟨v285, T285, L285, X285, hQ285, st285⟩ := own_callV (y := (⟨"java/util/Optional", "orElse", "(Ljava/lang/Object;)Ljava/lang/Object;"⟩ : MethodName)) (z := (⟨"java/util/Optional", "orElse", "(Ljava/lang/Object;)Ljava/lang/Object;"⟩ : MethodName)) X234 hx hZ hown (hw _ (List.mem_of_getElem? (i := 28) rfl)) (hw _ (List.mem_of_getElem? (i := 29) rfl)) (notFace_of_selects (args := #[]) (mvT hZ (hw _ (List.mem_of_getElem? (i := 31) rfl)))) (hw _ (List.mem_of_getElem? (i := 31) rfl)) (hw _ (List.mem_of_getElem? (i := 30) rfl)) (hw _ (List.mem_of_getElem? (i := 11) rfl)) (hw _ (List.mem_of_getElem? (i := 32) rfl)) (rm_orElseR l Z a0 hw oA oB oE1 oE2 oNe oM oE3 oF3 [] w270 wy T234.heap O283 f275) 0 0 0 rfl rfl (by decide) (by decide) (by decide) (by show _ ≤ 16; omega) (by show _ ≤ 192; omega) (rfl : T234.heap = T234.heap) f274 (g := (mkF m 210 #[.val (.int p1), .val (.int p2), .val (.ref b1), .val (.int w232), .unset, .unset] [.null, (.ref w270)])) rfl (by rw [hml]; rfl) [.null] [] (lenOf own_pd_0 rfl) rfl rfl (by show 2 * 0 + _ ≤ _; exact Nat.le_of_eq rfl) (hb hby at_210)
      obtain ⟨rfl, Nc287, Kc286⟩ := hQ285
      refine own_go st285 ?_
      have N288 := Fr.app N278 Nc287
      show own_Go p e below s _ _ _ (T285.setTop (mkF m 213 #[.val (.int p1), .val (.int p2), .val (.ref b1), .val (.int w232), .unset, .unset] [(.ref wy)]))
      obtain ⟨T289, X289, e289, st289⟩ := castY X285 hx hZ hown (hw _ (List.mem_of_getElem? (i := 33) rfl)) Kc286 (Ins.self (oE2.ext O283)) (g := (mkF m 213 #[.val (.int p1), .val (.int p2), .val (.ref b1), .val (.int w232), .unset, .unset] [(.ref wy)])) rfl rfl (hb hby at_213)
      refine own_go st289 ?_
      show own_Go p e below s _ _ _ (T289.setTop (mkF m 216 #[.val (.int p1), .val (.int p2), .val (.ref b1), .val (.int w232), .unset, .unset] [(.ref wy)]))
      refine own_go (fun _ k => XS.astore X289.here hx rfl (hb hby at_216) rfl rfl (l' := #[.val (.int p1), .val (.int p2), .val (.ref b1), .val (.int w232), .val (.ref wy), .unset]) rfl k) ?_
      show own_Go p e below s _ _ _ (T289.setTop (mkF m 218 #[.val (.int p1), .val (.int p2), .val (.ref b1), .val (.int w232), .val (.ref wy), .unset] []))
      refine own_go (fun _ k => XS.aload X289.here hx rfl (hb hby at_218) rfl rfl k) ?_
      show own_Go p e below s _ _ _ (T289.setTop (mkF m 220 #[.val (.int p1), .val (.int p2), .val (.ref b1), .val (.int w232), .val (.ref wy), .unset] [(.ref wy)]))
      refine own_go (fun _ k => XS.ifnonnullYes X289.here hx rfl (pc0 := 220) (pc' := 227) rfl (hb hby at_220) rfl (by decide) (by decide) k) ?_
      show own_Go p e below s _ _ _ (T289.setTop (mkF m 227 #[.val (.int p1), .val (.int p2), .val (.ref b1), .val (.int w232), .val (.ref wy), .unset] []))
      refine own_go (fun _ k => XS.aload X289.here hx rfl (hb hby at_227) rfl rfl k) ?_
      show own_Go p e below s _ _ _ (T289.setTop (mkF m 229 #[.val (.int p1), .val (.int p2), .val (.ref b1), .val (.int w232), .val (.ref wy), .unset] [(.ref wy)]))
      obtain ⟨T290, X290, e290, st290⟩ := getS2 X289 hx hZ hown (host := "") (Or.inl (hw _ (List.mem_of_getElem? (i := 35) rfl))) Via.refl e289 (oA.ext O283) (g := (mkF m 229 #[.val (.int p1), .val (.int p2), .val (.ref b1), .val (.int w232), .val (.ref wy), .unset] [(.ref wy)])) rfl (hb hby at_229)
      refine own_go st290 ?_
      show own_Go p e below s _ _ _ (T290.setTop (mkF m 232 #[.val (.int p1), .val (.int p2), .val (.ref b1), .val (.int w232), .val (.ref wy), .unset] [(.ref wx), (.ref wy)]))
      refine own_go (fun _ k => Jvm.RoadKit.acmp (g := (mkF m 232 #[.val (.int p1), .val (.int p2), .val (.ref b1), .val (.int w232), .val (.ref wy), .unset] [(.ref wx), (.ref wy)])) X290 hx rfl rfl rfl (pc0 := 232) (pc' := 239) (same := false) rfl (hb hby at_232) rfl (decide_eq_false fun q => (Ne.symm oNe) (Value.ref.inj q)) (by decide) (by decide) k) ?_
      show own_Go p e below s _ _ _ (T290.setTop (mkF m 239 #[.val (.int p1), .val (.int p2), .val (.ref b1), .val (.int w232), .val (.ref wy), .unset] []))
      refine own_go (fun _ k => XS.aload X290.here hx rfl (hb hby at_239) rfl rfl k) ?_
      show own_Go p e below s _ _ _ (T290.setTop (mkF m 241 #[.val (.int p1), .val (.int p2), .val (.ref b1), .val (.int w232), .val (.ref wy), .unset] [(.ref wy)]))
      obtain ⟨T291, X291, e291, st291⟩ := getS2 X290 hx hZ hown (host := "") (Or.inl (hw _ (List.mem_of_getElem? (i := 42) rfl))) Via.refl e290 (oB.ext O283) (g := (mkF m 241 #[.val (.int p1), .val (.int p2), .val (.ref b1), .val (.int w232), .val (.ref wy), .unset] [(.ref wy)])) rfl (hb hby at_241)
      refine own_go st291 ?_
      show own_Go p e below s _ _ _ (T291.setTop (mkF m 244 #[.val (.int p1), .val (.int p2), .val (.ref b1), .val (.int w232), .val (.ref wy), .unset] [(.ref wy), (.ref wy)]))
      refine own_go (fun _ k => Jvm.RoadKit.acmp (g := (mkF m 244 #[.val (.int p1), .val (.int p2), .val (.ref b1), .val (.int w232), .val (.ref wy), .unset] [(.ref wy), (.ref wy)])) X291 hx rfl rfl rfl (pc0 := 244) (pc' := 247) (same := true) rfl (hb hby at_244) rfl (decide_eq_true rfl) (by decide) (by decide) k) ?_
      show own_Go p e below s _ _ _ (T291.setTop (mkF m 247 #[.val (.int p1), .val (.int p2), .val (.ref b1), .val (.int w232), .val (.ref wy), .unset] []))
      refine own_go (fun _ k => XS.iconst X291.here hx rfl (hb hby at_247) k) ?_
      show own_Go p e below s _ _ _ (T291.setTop (mkF m 248 #[.val (.int p1), .val (.int p2), .val (.ref b1), .val (.int w232), .val (.ref wy), .unset] [(.int (2 : Int32))]))
      refine own_go (fun _ k => XS.goto X291.here hx rfl (pc0 := 248) (pc' := 252) rfl (hb hby at_248) (by decide) (by decide) k) ?_
      show own_Go p e below s _ _ _ (T291.setTop (mkF m 252 #[.val (.int p1), .val (.int p2), .val (.ref b1), .val (.int w232), .val (.ref wy), .unset] [(.int (2 : Int32))]))
      refine own_go (fun _ k => XS.istore X291.here hx rfl (hb hby at_252) rfl (l' := #[.val (.int p1), .val (.int p2), .val (.ref b1), .val (.int w232), .val (.ref wy), .val (.int (2 : Int32))]) rfl k) ?_
      show own_Go p e below s _ _ _ (T291.setTop (mkF m 254 #[.val (.int p1), .val (.int p2), .val (.ref b1), .val (.int w232), .val (.ref wy), .val (.int (2 : Int32))] []))
      refine own_go (fun _ k => XS.iload X291.here hx rfl (hb hby at_254) rfl k) ?_
      show own_Go p e below s _ _ _ (T291.setTop (mkF m 256 #[.val (.int p1), .val (.int p2), .val (.ref b1), .val (.int w232), .val (.ref wy), .val (.int (2 : Int32))] [(.int (2 : Int32))]))
      refine own_go (fun _ k => XS.iloadN X291.here hx rfl (hb hby at_256) rfl k) ?_
      show own_Go p e below s _ _ _ (T291.setTop (mkF m 257 #[.val (.int p1), .val (.int p2), .val (.ref b1), .val (.int w232), .val (.ref wy), .val (.int (2 : Int32))] [(.int w232), (.int (2 : Int32))]))
      obtain ⟨v292, T292, L292, X292, hQ292, st292⟩ := own_callS (y := (⟨"com/example/ibex/ibex/model/ValueKindOfPinLaw", "expected", "(I)I"⟩ : MethodName)) X291 hx hZ hown (hw _ (List.mem_of_getElem? (i := 36) rfl)) (hw _ (List.mem_of_getElem? (i := 37) rfl)) (hw _ (List.mem_of_getElem? (i := 38) rfl)) (hw _ (List.mem_of_getElem? (i := 39) rfl)) (rm_expected l Z a0 hw oA oB oE1 oE2 oNe oM oE3 oF3 [] w232 T234.heap O283) 1 0 0 rfl rfl (by decide) (by decide) (by decide) (by show _ ≤ 16; omega) (by show _ ≤ 192; omega) e291 (g := (mkF m 257 #[.val (.int p1), .val (.int p2), .val (.ref b1), .val (.int w232), .val (.ref wy), .val (.int (2 : Int32))] [(.int w232), (.int (2 : Int32))])) rfl (by rw [hml]; rfl) [(.int w232)] [(.int (2 : Int32))] (lenOf own_pd_5 rfl) rfl rfl (by show 2 * 0 + _ ≤ _; exact Nat.le_of_eq rfl) (hb hby at_257)
      rcases hQ292 with hQ292 | hQ292 | hQ292
      · obtain ⟨rfl, Nc295, hp293, Kc294⟩ := hQ292
        refine own_go st292 ?_
        have N296 := Fr.app N288 Nc295
        exact absurd hp293 hp271
      · obtain ⟨rfl, Nc300, hp297, hp298, Kc299⟩ := hQ292
        refine own_go st292 ?_
        have N301 := Fr.app N288 Nc300
        show own_Go p e below s _ _ _ (T292.setTop (mkF m 260 #[.val (.int p1), .val (.int p2), .val (.ref b1), .val (.int w232), .val (.ref wy), .val (.int (2 : Int32))] [(.int (2 : Int32)), (.int (2 : Int32))]))
        refine own_go (fun _ k => XS.icmpNo X292.here hx rfl (hb hby at_260) rfl (teq (by decide : (2 : Int32) = (2 : Int32))).2 k) ?_
        show own_Go p e below s _ _ _ (T292.setTop (mkF m 263 #[.val (.int p1), .val (.int p2), .val (.ref b1), .val (.int w232), .val (.ref wy), .val (.int (2 : Int32))] []))
        refine own_go (fun _ k => XS.iconst X292.here hx rfl (hb hby at_263) k) ?_
        show own_Go p e below s _ _ _ (T292.setTop (mkF m 264 #[.val (.int p1), .val (.int p2), .val (.ref b1), .val (.int w232), .val (.ref wy), .val (.int (2 : Int32))] [(.int (1 : Int32))]))
        refine own_go (fun _ k => XS.goto X292.here hx rfl (pc0 := 264) (pc' := 268) rfl (hb hby at_264) (by decide) (by decide) k) ?_
        show own_Go p e below s _ _ _ (T292.setTop (mkF m 268 #[.val (.int p1), .val (.int p2), .val (.ref b1), .val (.int w232), .val (.ref wy), .val (.int (2 : Int32))] [(.int (1 : Int32))]))
        refine own_retN X292 hx hlk Kc299 (t := .boolean) hret (by simp) (hb hby at_268) (by show _ ≤ 16; omega) (by show _ ≤ 192; omega) ?_
        exact ⟨rfl, N301, K284⟩
      · obtain ⟨rfl, Nc305, hp302, hp303, Kc304⟩ := hQ292
        refine own_go st292 ?_
        have N306 := Fr.app N288 Nc305
        exact absurd hp272 hp303
    · obtain ⟨rfl, Nc310, hp307, hp308, Kc309⟩ := hQ234
      refine own_go st234 ?_
      have N311 := Fr.app N227 Nc310
      have f312 : Arv Z T234.heap b1 k1 .int (32 : Int32) [(.int (1 : Int32)), (.int (12 : Int32)), (.int (-1 : Int32)), (.int (-15 : Int32)), (.int (-9 : Int32)), (.int (-16 : Int32)), (.int (-6 : Int32)), (.int (5 : Int32)), (.int (4 : Int32)), (.int (-5 : Int32)), (.int (3 : Int32)), (.int (2 : Int32)), (.int (7 : Int32)), (.int (6 : Int32)), (.int (8 : Int32)), (.int (0 : Int32)), (.int (9 : Int32)), (.int (10 : Int32)), (.int (11 : Int32)), (.int (-2 : Int32)), (.int (-3 : Int32)), (.int (-4 : Int32)), (.int (-7 : Int32)), (.int (-8 : Int32)), (.int (16 : Int32)), (.int (91 : Int32)), (.int (92 : Int32)), (.int (93 : Int32)), (.int (2004 : Int32)), (.int (2005 : Int32)), (.int (-2147483648 : Int32)), (.int (2147483647 : Int32))] (.int (0 : Int32)) := f226.keep Kc309 nin0
      have O313 := own_oldKeep O229 Kc309 all0
      have K314 : Keep h0 T234.heap [] := K230.trans Kc309 all0
      show own_Go p e below s _ _ _ (T234.setTop (mkF m 209 #[.val (.int p1), .val (.int p2), .val (.ref b1), .val (.int w232), .unset, .unset] [(.ref wz)]))
      refine own_go (fun _ k => XS.aconstNull X234.here hx rfl (hb hby at_209) k) ?_
      show own_Go p e below s _ _ _ (T234.setTop (mkF m 210 #[.val (.int p1), .val (.int p2), .val (.ref b1), .val (.int w232), .unset, .unset] [.null, (.ref wz)]))
      obtain ⟨v315, T315, L315, X315, hQ315, st315⟩ := own_callV (y := (⟨"java/util/Optional", "orElse", "(Ljava/lang/Object;)Ljava/lang/Object;"⟩ : MethodName)) (z := (⟨"java/util/Optional", "orElse", "(Ljava/lang/Object;)Ljava/lang/Object;"⟩ : MethodName)) X234 hx hZ hown (hw _ (List.mem_of_getElem? (i := 28) rfl)) (hw _ (List.mem_of_getElem? (i := 29) rfl)) (notFace_of_selects (args := #[]) (mvT hZ (hw _ (List.mem_of_getElem? (i := 31) rfl)))) (hw _ (List.mem_of_getElem? (i := 31) rfl)) (hw _ (List.mem_of_getElem? (i := 30) rfl)) (hw _ (List.mem_of_getElem? (i := 11) rfl)) (hw _ (List.mem_of_getElem? (i := 32) rfl)) (rm_orElseN l Z a0 hw oA oB oE1 oE2 oNe oM oE3 oF3 [] wz T234.heap O313 (oF3.ext O313)) 0 0 0 rfl rfl (by decide) (by decide) (by decide) (by show _ ≤ 16; omega) (by show _ ≤ 192; omega) (rfl : T234.heap = T234.heap) (oE3.ext O313) (g := (mkF m 210 #[.val (.int p1), .val (.int p2), .val (.ref b1), .val (.int w232), .unset, .unset] [.null, (.ref wz)])) rfl (by rw [hml]; rfl) [.null] [] (lenOf own_pd_0 rfl) rfl rfl (by show 2 * 0 + _ ≤ _; exact Nat.le_of_eq rfl) (hb hby at_210)
      obtain ⟨rfl, Nc317, Kc316⟩ := hQ315
      refine own_go st315 ?_
      have N318 := Fr.app N311 Nc317
      show own_Go p e below s _ _ _ (T315.setTop (mkF m 213 #[.val (.int p1), .val (.int p2), .val (.ref b1), .val (.int w232), .unset, .unset] [.null]))
      refine own_go (X315.checkcastNull hx (g := (mkF m 213 #[.val (.int p1), .val (.int p2), .val (.ref b1), .val (.int w232), .unset, .unset] [.null])) rfl rfl (hb hby at_213)) ?_
      show own_Go p e below s _ _ _ (T315.setTop (mkF m 216 #[.val (.int p1), .val (.int p2), .val (.ref b1), .val (.int w232), .unset, .unset] [.null]))
      refine own_go (fun _ k => XS.astore X315.here hx rfl (hb hby at_216) rfl rfl (l' := #[.val (.int p1), .val (.int p2), .val (.ref b1), .val (.int w232), .val .null, .unset]) rfl k) ?_
      show own_Go p e below s _ _ _ (T315.setTop (mkF m 218 #[.val (.int p1), .val (.int p2), .val (.ref b1), .val (.int w232), .val .null, .unset] []))
      refine own_go (fun _ k => XS.aload X315.here hx rfl (hb hby at_218) rfl rfl k) ?_
      show own_Go p e below s _ _ _ (T315.setTop (mkF m 220 #[.val (.int p1), .val (.int p2), .val (.ref b1), .val (.int w232), .val .null, .unset] [.null]))
      refine own_go (fun _ k => XS.ifnonnullNo X315.here hx rfl (hb hby at_220) rfl k) ?_
      show own_Go p e below s _ _ _ (T315.setTop (mkF m 223 #[.val (.int p1), .val (.int p2), .val (.ref b1), .val (.int w232), .val .null, .unset] []))
      refine own_go (fun _ k => XS.iconst X315.here hx rfl (hb hby at_223) k) ?_
      show own_Go p e below s _ _ _ (T315.setTop (mkF m 224 #[.val (.int p1), .val (.int p2), .val (.ref b1), .val (.int w232), .val .null, .unset] [(.int (0 : Int32))]))
      refine own_go (fun _ k => XS.goto X315.here hx rfl (pc0 := 224) (pc' := 252) rfl (hb hby at_224) (by decide) (by decide) k) ?_
      show own_Go p e below s _ _ _ (T315.setTop (mkF m 252 #[.val (.int p1), .val (.int p2), .val (.ref b1), .val (.int w232), .val .null, .unset] [(.int (0 : Int32))]))
      refine own_go (fun _ k => XS.istore X315.here hx rfl (hb hby at_252) rfl (l' := #[.val (.int p1), .val (.int p2), .val (.ref b1), .val (.int w232), .val .null, .val (.int (0 : Int32))]) rfl k) ?_
      show own_Go p e below s _ _ _ (T315.setTop (mkF m 254 #[.val (.int p1), .val (.int p2), .val (.ref b1), .val (.int w232), .val .null, .val (.int (0 : Int32))] []))
      refine own_go (fun _ k => XS.iload X315.here hx rfl (hb hby at_254) rfl k) ?_
      show own_Go p e below s _ _ _ (T315.setTop (mkF m 256 #[.val (.int p1), .val (.int p2), .val (.ref b1), .val (.int w232), .val .null, .val (.int (0 : Int32))] [(.int (0 : Int32))]))
      refine own_go (fun _ k => XS.iloadN X315.here hx rfl (hb hby at_256) rfl k) ?_
      show own_Go p e below s _ _ _ (T315.setTop (mkF m 257 #[.val (.int p1), .val (.int p2), .val (.ref b1), .val (.int w232), .val .null, .val (.int (0 : Int32))] [(.int w232), (.int (0 : Int32))]))
      obtain ⟨v319, T319, L319, X319, hQ319, st319⟩ := own_callS (y := (⟨"com/example/ibex/ibex/model/ValueKindOfPinLaw", "expected", "(I)I"⟩ : MethodName)) X315 hx hZ hown (hw _ (List.mem_of_getElem? (i := 36) rfl)) (hw _ (List.mem_of_getElem? (i := 37) rfl)) (hw _ (List.mem_of_getElem? (i := 38) rfl)) (hw _ (List.mem_of_getElem? (i := 39) rfl)) (rm_expected l Z a0 hw oA oB oE1 oE2 oNe oM oE3 oF3 [] w232 T234.heap O313) 1 0 0 rfl rfl (by decide) (by decide) (by decide) (by show _ ≤ 16; omega) (by show _ ≤ 192; omega) Kc316 (g := (mkF m 257 #[.val (.int p1), .val (.int p2), .val (.ref b1), .val (.int w232), .val .null, .val (.int (0 : Int32))] [(.int w232), (.int (0 : Int32))])) rfl (by rw [hml]; rfl) [(.int w232)] [(.int (0 : Int32))] (lenOf own_pd_5 rfl) rfl rfl (by show 2 * 0 + _ ≤ _; exact Nat.le_of_eq rfl) (hb hby at_257)
      rcases hQ319 with hQ319 | hQ319 | hQ319
      · obtain ⟨rfl, Nc322, hp320, Kc321⟩ := hQ319
        refine own_go st319 ?_
        have N323 := Fr.app N318 Nc322
        exact absurd hp320 hp307
      · obtain ⟨rfl, Nc327, hp324, hp325, Kc326⟩ := hQ319
        refine own_go st319 ?_
        have N328 := Fr.app N318 Nc327
        exact absurd hp325 hp308
      · obtain ⟨rfl, Nc332, hp329, hp330, Kc331⟩ := hQ319
        refine own_go st319 ?_
        have N333 := Fr.app N318 Nc332
        show own_Go p e below s _ _ _ (T319.setTop (mkF m 260 #[.val (.int p1), .val (.int p2), .val (.ref b1), .val (.int w232), .val .null, .val (.int (0 : Int32))] [(.int (0 : Int32)), (.int (0 : Int32))]))
        refine own_go (fun _ k => XS.icmpNo X319.here hx rfl (hb hby at_260) rfl (teq (by decide : (0 : Int32) = (0 : Int32))).2 k) ?_
        show own_Go p e below s _ _ _ (T319.setTop (mkF m 263 #[.val (.int p1), .val (.int p2), .val (.ref b1), .val (.int w232), .val .null, .val (.int (0 : Int32))] []))
        refine own_go (fun _ k => XS.iconst X319.here hx rfl (hb hby at_263) k) ?_
        show own_Go p e below s _ _ _ (T319.setTop (mkF m 264 #[.val (.int p1), .val (.int p2), .val (.ref b1), .val (.int w232), .val .null, .val (.int (0 : Int32))] [(.int (1 : Int32))]))
        refine own_go (fun _ k => XS.goto X319.here hx rfl (pc0 := 264) (pc' := 268) rfl (hb hby at_264) (by decide) (by decide) k) ?_
        show own_Go p e below s _ _ _ (T319.setTop (mkF m 268 #[.val (.int p1), .val (.int p2), .val (.ref b1), .val (.int w232), .val .null, .val (.int (0 : Int32))] [(.int (1 : Int32))]))
        refine own_retN X319 hx hlk Kc331 (t := .boolean) hret (by simp) (hb hby at_268) (by show _ ≤ 16; omega) (by show _ ≤ 192; omega) ?_
        exact ⟨rfl, N333, K314⟩
  · refine own_go (fun _ k => XS.ifNo X225.here hx rfl (hb hby at_189) rfl ((if0 _ _).trans (feq hc231).1) k) ?_
    show own_Go p e below s _ _ _ (T225.setTop (mkF m 192 #[.val (.int p1), .val (.int p2), .val (.ref b1), .unset, .unset, .unset] []))
    refine own_go (fun _ k => XS.iloadN X225.here hx rfl (hb hby at_192) rfl k) ?_
    show own_Go p e below s _ _ _ (T225.setTop (mkF m 193 #[.val (.int p1), .val (.int p2), .val (.ref b1), .unset, .unset, .unset] [(.int p2)]))
    refine own_go (fun _ k => XS.goto X225.here hx rfl (pc0 := 193) (pc' := 204) rfl (hb hby at_193) (by decide) (by decide) k) ?_
    show own_Go p e below s _ _ _ (T225.setTop (mkF m 204 #[.val (.int p1), .val (.int p2), .val (.ref b1), .unset, .unset, .unset] [(.int p2)]))
    refine own_go (fun _ k => XS.istoreN X225.here hx rfl (hb hby at_204) rfl (l' := #[.val (.int p1), .val (.int p2), .val (.ref b1), .val (.int p2), .unset, .unset]) rfl k) ?_
    show own_Go p e below s _ _ _ (T225.setTop (mkF m 205 #[.val (.int p1), .val (.int p2), .val (.ref b1), .val (.int p2), .unset, .unset] []))
    refine own_go (fun _ k => XS.iloadN X225.here hx rfl (hb hby at_205) rfl k) ?_
    show own_Go p e below s _ _ _ (T225.setTop (mkF m 206 #[.val (.int p1), .val (.int p2), .val (.ref b1), .val (.int p2), .unset, .unset] [(.int p2)]))
    obtain ⟨v334, T334, L334, X334, hQ334, st334⟩ := own_callS (y := (⟨"com/example/ibex/ibex/model/ValueKind", "of", "(I)Ljava/util/Optional;"⟩ : MethodName)) X225 hx hZ hown (hw _ (List.mem_of_getElem? (i := 3) rfl)) (hw _ (List.mem_of_getElem? (i := 4) rfl)) (hw _ (List.mem_of_getElem? (i := 5) rfl)) (hw _ (List.mem_of_getElem? (i := 6) rfl)) (rm_vof l Z a0 hw oA oB oE1 oE2 oNe oM oE3 oF3 [] p2 h225 O229) 0 1 1 rfl rfl (by decide) (by decide) (by decide) (by show _ ≤ 16; omega) (by show _ ≤ 192; omega) e225 (g := (mkF m 206 #[.val (.int p1), .val (.int p2), .val (.ref b1), .val (.int p2), .unset, .unset] [(.int p2)])) rfl (by rw [hml]; rfl) [(.int p2)] [] (lenOf own_pd_4 rfl) rfl rfl (by show 2 * 0 + _ ≤ _; exact Nat.le_of_eq rfl) (hb hby at_206)
    rcases hQ334 with hQ334 | hQ334 | hQ334
    · obtain ⟨w335, rfl, Nc341, hp336, Kc340, hb337, f338, f339⟩ := hQ334
      refine own_go st334 ?_
      have N342 := Fr.app N227 Nc341
      have ne343 : b1 ≠ w335 := Nat.ne_of_lt (Nat.lt_of_lt_of_le f226.lt hb337)
      have big344 : Z.heap.size ≤ w335 := Nat.le_trans O229.1 hb337
      have sz345 : h0.size ≤ w335 := Nat.le_trans K230.1 hb337
      have f346 : Arv Z T334.heap b1 k1 .int (32 : Int32) [(.int (1 : Int32)), (.int (12 : Int32)), (.int (-1 : Int32)), (.int (-15 : Int32)), (.int (-9 : Int32)), (.int (-16 : Int32)), (.int (-6 : Int32)), (.int (5 : Int32)), (.int (4 : Int32)), (.int (-5 : Int32)), (.int (3 : Int32)), (.int (2 : Int32)), (.int (7 : Int32)), (.int (6 : Int32)), (.int (8 : Int32)), (.int (0 : Int32)), (.int (9 : Int32)), (.int (10 : Int32)), (.int (11 : Int32)), (.int (-2 : Int32)), (.int (-3 : Int32)), (.int (-4 : Int32)), (.int (-7 : Int32)), (.int (-8 : Int32)), (.int (16 : Int32)), (.int (91 : Int32)), (.int (92 : Int32)), (.int (93 : Int32)), (.int (2004 : Int32)), (.int (2005 : Int32)), (.int (-2147483648 : Int32)), (.int (2147483647 : Int32))] (.int (0 : Int32)) := f226.keep Kc340 nin0
      have O347 := own_oldKeep O229 Kc340 all0
      have K348 : Keep h0 T334.heap [] := K230.trans Kc340 all0
      show own_Go p e below s _ _ _ (T334.setTop (mkF m 209 #[.val (.int p1), .val (.int p2), .val (.ref b1), .val (.int p2), .unset, .unset] [(.ref w335)]))
      refine own_go (fun _ k => XS.aconstNull X334.here hx rfl (hb hby at_209) k) ?_
      show own_Go p e below s _ _ _ (T334.setTop (mkF m 210 #[.val (.int p1), .val (.int p2), .val (.ref b1), .val (.int p2), .unset, .unset] [.null, (.ref w335)]))
      obtain ⟨v349, T349, L349, X349, hQ349, st349⟩ := own_callV (y := (⟨"java/util/Optional", "orElse", "(Ljava/lang/Object;)Ljava/lang/Object;"⟩ : MethodName)) (z := (⟨"java/util/Optional", "orElse", "(Ljava/lang/Object;)Ljava/lang/Object;"⟩ : MethodName)) X334 hx hZ hown (hw _ (List.mem_of_getElem? (i := 28) rfl)) (hw _ (List.mem_of_getElem? (i := 29) rfl)) (notFace_of_selects (args := #[]) (mvT hZ (hw _ (List.mem_of_getElem? (i := 31) rfl)))) (hw _ (List.mem_of_getElem? (i := 31) rfl)) (hw _ (List.mem_of_getElem? (i := 30) rfl)) (hw _ (List.mem_of_getElem? (i := 11) rfl)) (hw _ (List.mem_of_getElem? (i := 32) rfl)) (rm_orElseR l Z a0 hw oA oB oE1 oE2 oNe oM oE3 oF3 [] w335 wx T334.heap O347 f339) 0 0 0 rfl rfl (by decide) (by decide) (by decide) (by show _ ≤ 16; omega) (by show _ ≤ 192; omega) (rfl : T334.heap = T334.heap) f338 (g := (mkF m 210 #[.val (.int p1), .val (.int p2), .val (.ref b1), .val (.int p2), .unset, .unset] [.null, (.ref w335)])) rfl (by rw [hml]; rfl) [.null] [] (lenOf own_pd_0 rfl) rfl rfl (by show 2 * 0 + _ ≤ _; exact Nat.le_of_eq rfl) (hb hby at_210)
      obtain ⟨rfl, Nc351, Kc350⟩ := hQ349
      refine own_go st349 ?_
      have N352 := Fr.app N342 Nc351
      show own_Go p e below s _ _ _ (T349.setTop (mkF m 213 #[.val (.int p1), .val (.int p2), .val (.ref b1), .val (.int p2), .unset, .unset] [(.ref wx)]))
      obtain ⟨T353, X353, e353, st353⟩ := castY X349 hx hZ hown (hw _ (List.mem_of_getElem? (i := 33) rfl)) Kc350 (Ins.self (oE1.ext O347)) (g := (mkF m 213 #[.val (.int p1), .val (.int p2), .val (.ref b1), .val (.int p2), .unset, .unset] [(.ref wx)])) rfl rfl (hb hby at_213)
      refine own_go st353 ?_
      show own_Go p e below s _ _ _ (T353.setTop (mkF m 216 #[.val (.int p1), .val (.int p2), .val (.ref b1), .val (.int p2), .unset, .unset] [(.ref wx)]))
      refine own_go (fun _ k => XS.astore X353.here hx rfl (hb hby at_216) rfl rfl (l' := #[.val (.int p1), .val (.int p2), .val (.ref b1), .val (.int p2), .val (.ref wx), .unset]) rfl k) ?_
      show own_Go p e below s _ _ _ (T353.setTop (mkF m 218 #[.val (.int p1), .val (.int p2), .val (.ref b1), .val (.int p2), .val (.ref wx), .unset] []))
      refine own_go (fun _ k => XS.aload X353.here hx rfl (hb hby at_218) rfl rfl k) ?_
      show own_Go p e below s _ _ _ (T353.setTop (mkF m 220 #[.val (.int p1), .val (.int p2), .val (.ref b1), .val (.int p2), .val (.ref wx), .unset] [(.ref wx)]))
      refine own_go (fun _ k => XS.ifnonnullYes X353.here hx rfl (pc0 := 220) (pc' := 227) rfl (hb hby at_220) rfl (by decide) (by decide) k) ?_
      show own_Go p e below s _ _ _ (T353.setTop (mkF m 227 #[.val (.int p1), .val (.int p2), .val (.ref b1), .val (.int p2), .val (.ref wx), .unset] []))
      refine own_go (fun _ k => XS.aload X353.here hx rfl (hb hby at_227) rfl rfl k) ?_
      show own_Go p e below s _ _ _ (T353.setTop (mkF m 229 #[.val (.int p1), .val (.int p2), .val (.ref b1), .val (.int p2), .val (.ref wx), .unset] [(.ref wx)]))
      obtain ⟨T354, X354, e354, st354⟩ := getS2 X353 hx hZ hown (host := "") (Or.inl (hw _ (List.mem_of_getElem? (i := 35) rfl))) Via.refl e353 (oA.ext O347) (g := (mkF m 229 #[.val (.int p1), .val (.int p2), .val (.ref b1), .val (.int p2), .val (.ref wx), .unset] [(.ref wx)])) rfl (hb hby at_229)
      refine own_go st354 ?_
      show own_Go p e below s _ _ _ (T354.setTop (mkF m 232 #[.val (.int p1), .val (.int p2), .val (.ref b1), .val (.int p2), .val (.ref wx), .unset] [(.ref wx), (.ref wx)]))
      refine own_go (fun _ k => Jvm.RoadKit.acmp (g := (mkF m 232 #[.val (.int p1), .val (.int p2), .val (.ref b1), .val (.int p2), .val (.ref wx), .unset] [(.ref wx), (.ref wx)])) X354 hx rfl rfl rfl (pc0 := 232) (pc' := 235) (same := true) rfl (hb hby at_232) rfl (decide_eq_true rfl) (by decide) (by decide) k) ?_
      show own_Go p e below s _ _ _ (T354.setTop (mkF m 235 #[.val (.int p1), .val (.int p2), .val (.ref b1), .val (.int p2), .val (.ref wx), .unset] []))
      refine own_go (fun _ k => XS.iconst X354.here hx rfl (hb hby at_235) k) ?_
      show own_Go p e below s _ _ _ (T354.setTop (mkF m 236 #[.val (.int p1), .val (.int p2), .val (.ref b1), .val (.int p2), .val (.ref wx), .unset] [(.int (1 : Int32))]))
      refine own_go (fun _ k => XS.goto X354.here hx rfl (pc0 := 236) (pc' := 252) rfl (hb hby at_236) (by decide) (by decide) k) ?_
      show own_Go p e below s _ _ _ (T354.setTop (mkF m 252 #[.val (.int p1), .val (.int p2), .val (.ref b1), .val (.int p2), .val (.ref wx), .unset] [(.int (1 : Int32))]))
      refine own_go (fun _ k => XS.istore X354.here hx rfl (hb hby at_252) rfl (l' := #[.val (.int p1), .val (.int p2), .val (.ref b1), .val (.int p2), .val (.ref wx), .val (.int (1 : Int32))]) rfl k) ?_
      show own_Go p e below s _ _ _ (T354.setTop (mkF m 254 #[.val (.int p1), .val (.int p2), .val (.ref b1), .val (.int p2), .val (.ref wx), .val (.int (1 : Int32))] []))
      refine own_go (fun _ k => XS.iload X354.here hx rfl (hb hby at_254) rfl k) ?_
      show own_Go p e below s _ _ _ (T354.setTop (mkF m 256 #[.val (.int p1), .val (.int p2), .val (.ref b1), .val (.int p2), .val (.ref wx), .val (.int (1 : Int32))] [(.int (1 : Int32))]))
      refine own_go (fun _ k => XS.iloadN X354.here hx rfl (hb hby at_256) rfl k) ?_
      show own_Go p e below s _ _ _ (T354.setTop (mkF m 257 #[.val (.int p1), .val (.int p2), .val (.ref b1), .val (.int p2), .val (.ref wx), .val (.int (1 : Int32))] [(.int p2), (.int (1 : Int32))]))
      obtain ⟨v355, T355, L355, X355, hQ355, st355⟩ := own_callS (y := (⟨"com/example/ibex/ibex/model/ValueKindOfPinLaw", "expected", "(I)I"⟩ : MethodName)) X354 hx hZ hown (hw _ (List.mem_of_getElem? (i := 36) rfl)) (hw _ (List.mem_of_getElem? (i := 37) rfl)) (hw _ (List.mem_of_getElem? (i := 38) rfl)) (hw _ (List.mem_of_getElem? (i := 39) rfl)) (rm_expected l Z a0 hw oA oB oE1 oE2 oNe oM oE3 oF3 [] p2 T334.heap O347) 1 0 0 rfl rfl (by decide) (by decide) (by decide) (by show _ ≤ 16; omega) (by show _ ≤ 192; omega) e354 (g := (mkF m 257 #[.val (.int p1), .val (.int p2), .val (.ref b1), .val (.int p2), .val (.ref wx), .val (.int (1 : Int32))] [(.int p2), (.int (1 : Int32))])) rfl (by rw [hml]; rfl) [(.int p2)] [(.int (1 : Int32))] (lenOf own_pd_5 rfl) rfl rfl (by show 2 * 0 + _ ≤ _; exact Nat.le_of_eq rfl) (hb hby at_257)
      rcases hQ355 with hQ355 | hQ355 | hQ355
      · obtain ⟨rfl, Nc358, hp356, Kc357⟩ := hQ355
        refine own_go st355 ?_
        have N359 := Fr.app N352 Nc358
        show own_Go p e below s _ _ _ (T355.setTop (mkF m 260 #[.val (.int p1), .val (.int p2), .val (.ref b1), .val (.int p2), .val (.ref wx), .val (.int (1 : Int32))] [(.int (1 : Int32)), (.int (1 : Int32))]))
        refine own_go (fun _ k => XS.icmpNo X355.here hx rfl (hb hby at_260) rfl (teq (by decide : (1 : Int32) = (1 : Int32))).2 k) ?_
        show own_Go p e below s _ _ _ (T355.setTop (mkF m 263 #[.val (.int p1), .val (.int p2), .val (.ref b1), .val (.int p2), .val (.ref wx), .val (.int (1 : Int32))] []))
        refine own_go (fun _ k => XS.iconst X355.here hx rfl (hb hby at_263) k) ?_
        show own_Go p e below s _ _ _ (T355.setTop (mkF m 264 #[.val (.int p1), .val (.int p2), .val (.ref b1), .val (.int p2), .val (.ref wx), .val (.int (1 : Int32))] [(.int (1 : Int32))]))
        refine own_go (fun _ k => XS.goto X355.here hx rfl (pc0 := 264) (pc' := 268) rfl (hb hby at_264) (by decide) (by decide) k) ?_
        show own_Go p e below s _ _ _ (T355.setTop (mkF m 268 #[.val (.int p1), .val (.int p2), .val (.ref b1), .val (.int p2), .val (.ref wx), .val (.int (1 : Int32))] [(.int (1 : Int32))]))
        refine own_retN X355 hx hlk Kc357 (t := .boolean) hret (by simp) (hb hby at_268) (by show _ ≤ 16; omega) (by show _ ≤ 192; omega) ?_
        exact ⟨rfl, N359, K348⟩
      · obtain ⟨rfl, Nc363, hp360, hp361, Kc362⟩ := hQ355
        refine own_go st355 ?_
        have N364 := Fr.app N352 Nc363
        exact absurd hp336 hp360
      · obtain ⟨rfl, Nc368, hp365, hp366, Kc367⟩ := hQ355
        refine own_go st355 ?_
        have N369 := Fr.app N352 Nc368
        exact absurd hp336 hp365
    · obtain ⟨w370, rfl, Nc377, hp371, hp372, Kc376, hb373, f374, f375⟩ := hQ334
      refine own_go st334 ?_
      have N378 := Fr.app N227 Nc377
      have ne379 : b1 ≠ w370 := Nat.ne_of_lt (Nat.lt_of_lt_of_le f226.lt hb373)
      have big380 : Z.heap.size ≤ w370 := Nat.le_trans O229.1 hb373
      have sz381 : h0.size ≤ w370 := Nat.le_trans K230.1 hb373
      have f382 : Arv Z T334.heap b1 k1 .int (32 : Int32) [(.int (1 : Int32)), (.int (12 : Int32)), (.int (-1 : Int32)), (.int (-15 : Int32)), (.int (-9 : Int32)), (.int (-16 : Int32)), (.int (-6 : Int32)), (.int (5 : Int32)), (.int (4 : Int32)), (.int (-5 : Int32)), (.int (3 : Int32)), (.int (2 : Int32)), (.int (7 : Int32)), (.int (6 : Int32)), (.int (8 : Int32)), (.int (0 : Int32)), (.int (9 : Int32)), (.int (10 : Int32)), (.int (11 : Int32)), (.int (-2 : Int32)), (.int (-3 : Int32)), (.int (-4 : Int32)), (.int (-7 : Int32)), (.int (-8 : Int32)), (.int (16 : Int32)), (.int (91 : Int32)), (.int (92 : Int32)), (.int (93 : Int32)), (.int (2004 : Int32)), (.int (2005 : Int32)), (.int (-2147483648 : Int32)), (.int (2147483647 : Int32))] (.int (0 : Int32)) := f226.keep Kc376 nin0
      have O383 := own_oldKeep O229 Kc376 all0
      have K384 : Keep h0 T334.heap [] := K230.trans Kc376 all0
      show own_Go p e below s _ _ _ (T334.setTop (mkF m 209 #[.val (.int p1), .val (.int p2), .val (.ref b1), .val (.int p2), .unset, .unset] [(.ref w370)]))
      refine own_go (fun _ k => XS.aconstNull X334.here hx rfl (hb hby at_209) k) ?_
      show own_Go p e below s _ _ _ (T334.setTop (mkF m 210 #[.val (.int p1), .val (.int p2), .val (.ref b1), .val (.int p2), .unset, .unset] [.null, (.ref w370)]))
      obtain ⟨v385, T385, L385, X385, hQ385, st385⟩ := own_callV (y := (⟨"java/util/Optional", "orElse", "(Ljava/lang/Object;)Ljava/lang/Object;"⟩ : MethodName)) (z := (⟨"java/util/Optional", "orElse", "(Ljava/lang/Object;)Ljava/lang/Object;"⟩ : MethodName)) X334 hx hZ hown (hw _ (List.mem_of_getElem? (i := 28) rfl)) (hw _ (List.mem_of_getElem? (i := 29) rfl)) (notFace_of_selects (args := #[]) (mvT hZ (hw _ (List.mem_of_getElem? (i := 31) rfl)))) (hw _ (List.mem_of_getElem? (i := 31) rfl)) (hw _ (List.mem_of_getElem? (i := 30) rfl)) (hw _ (List.mem_of_getElem? (i := 11) rfl)) (hw _ (List.mem_of_getElem? (i := 32) rfl)) (rm_orElseR l Z a0 hw oA oB oE1 oE2 oNe oM oE3 oF3 [] w370 wy T334.heap O383 f375) 0 0 0 rfl rfl (by decide) (by decide) (by decide) (by show _ ≤ 16; omega) (by show _ ≤ 192; omega) (rfl : T334.heap = T334.heap) f374 (g := (mkF m 210 #[.val (.int p1), .val (.int p2), .val (.ref b1), .val (.int p2), .unset, .unset] [.null, (.ref w370)])) rfl (by rw [hml]; rfl) [.null] [] (lenOf own_pd_0 rfl) rfl rfl (by show 2 * 0 + _ ≤ _; exact Nat.le_of_eq rfl) (hb hby at_210)
      obtain ⟨rfl, Nc387, Kc386⟩ := hQ385
      refine own_go st385 ?_
      have N388 := Fr.app N378 Nc387
      show own_Go p e below s _ _ _ (T385.setTop (mkF m 213 #[.val (.int p1), .val (.int p2), .val (.ref b1), .val (.int p2), .unset, .unset] [(.ref wy)]))
      obtain ⟨T389, X389, e389, st389⟩ := castY X385 hx hZ hown (hw _ (List.mem_of_getElem? (i := 33) rfl)) Kc386 (Ins.self (oE2.ext O383)) (g := (mkF m 213 #[.val (.int p1), .val (.int p2), .val (.ref b1), .val (.int p2), .unset, .unset] [(.ref wy)])) rfl rfl (hb hby at_213)
      refine own_go st389 ?_
      show own_Go p e below s _ _ _ (T389.setTop (mkF m 216 #[.val (.int p1), .val (.int p2), .val (.ref b1), .val (.int p2), .unset, .unset] [(.ref wy)]))
      refine own_go (fun _ k => XS.astore X389.here hx rfl (hb hby at_216) rfl rfl (l' := #[.val (.int p1), .val (.int p2), .val (.ref b1), .val (.int p2), .val (.ref wy), .unset]) rfl k) ?_
      show own_Go p e below s _ _ _ (T389.setTop (mkF m 218 #[.val (.int p1), .val (.int p2), .val (.ref b1), .val (.int p2), .val (.ref wy), .unset] []))
      refine own_go (fun _ k => XS.aload X389.here hx rfl (hb hby at_218) rfl rfl k) ?_
      show own_Go p e below s _ _ _ (T389.setTop (mkF m 220 #[.val (.int p1), .val (.int p2), .val (.ref b1), .val (.int p2), .val (.ref wy), .unset] [(.ref wy)]))
      refine own_go (fun _ k => XS.ifnonnullYes X389.here hx rfl (pc0 := 220) (pc' := 227) rfl (hb hby at_220) rfl (by decide) (by decide) k) ?_
      show own_Go p e below s _ _ _ (T389.setTop (mkF m 227 #[.val (.int p1), .val (.int p2), .val (.ref b1), .val (.int p2), .val (.ref wy), .unset] []))
      refine own_go (fun _ k => XS.aload X389.here hx rfl (hb hby at_227) rfl rfl k) ?_
      show own_Go p e below s _ _ _ (T389.setTop (mkF m 229 #[.val (.int p1), .val (.int p2), .val (.ref b1), .val (.int p2), .val (.ref wy), .unset] [(.ref wy)]))
      obtain ⟨T390, X390, e390, st390⟩ := getS2 X389 hx hZ hown (host := "") (Or.inl (hw _ (List.mem_of_getElem? (i := 35) rfl))) Via.refl e389 (oA.ext O383) (g := (mkF m 229 #[.val (.int p1), .val (.int p2), .val (.ref b1), .val (.int p2), .val (.ref wy), .unset] [(.ref wy)])) rfl (hb hby at_229)
      refine own_go st390 ?_
      show own_Go p e below s _ _ _ (T390.setTop (mkF m 232 #[.val (.int p1), .val (.int p2), .val (.ref b1), .val (.int p2), .val (.ref wy), .unset] [(.ref wx), (.ref wy)]))
      refine own_go (fun _ k => Jvm.RoadKit.acmp (g := (mkF m 232 #[.val (.int p1), .val (.int p2), .val (.ref b1), .val (.int p2), .val (.ref wy), .unset] [(.ref wx), (.ref wy)])) X390 hx rfl rfl rfl (pc0 := 232) (pc' := 239) (same := false) rfl (hb hby at_232) rfl (decide_eq_false fun q => (Ne.symm oNe) (Value.ref.inj q)) (by decide) (by decide) k) ?_
      show own_Go p e below s _ _ _ (T390.setTop (mkF m 239 #[.val (.int p1), .val (.int p2), .val (.ref b1), .val (.int p2), .val (.ref wy), .unset] []))
      refine own_go (fun _ k => XS.aload X390.here hx rfl (hb hby at_239) rfl rfl k) ?_
      show own_Go p e below s _ _ _ (T390.setTop (mkF m 241 #[.val (.int p1), .val (.int p2), .val (.ref b1), .val (.int p2), .val (.ref wy), .unset] [(.ref wy)]))
      obtain ⟨T391, X391, e391, st391⟩ := getS2 X390 hx hZ hown (host := "") (Or.inl (hw _ (List.mem_of_getElem? (i := 42) rfl))) Via.refl e390 (oB.ext O383) (g := (mkF m 241 #[.val (.int p1), .val (.int p2), .val (.ref b1), .val (.int p2), .val (.ref wy), .unset] [(.ref wy)])) rfl (hb hby at_241)
      refine own_go st391 ?_
      show own_Go p e below s _ _ _ (T391.setTop (mkF m 244 #[.val (.int p1), .val (.int p2), .val (.ref b1), .val (.int p2), .val (.ref wy), .unset] [(.ref wy), (.ref wy)]))
      refine own_go (fun _ k => Jvm.RoadKit.acmp (g := (mkF m 244 #[.val (.int p1), .val (.int p2), .val (.ref b1), .val (.int p2), .val (.ref wy), .unset] [(.ref wy), (.ref wy)])) X391 hx rfl rfl rfl (pc0 := 244) (pc' := 247) (same := true) rfl (hb hby at_244) rfl (decide_eq_true rfl) (by decide) (by decide) k) ?_
      show own_Go p e below s _ _ _ (T391.setTop (mkF m 247 #[.val (.int p1), .val (.int p2), .val (.ref b1), .val (.int p2), .val (.ref wy), .unset] []))
      refine own_go (fun _ k => XS.iconst X391.here hx rfl (hb hby at_247) k) ?_
      show own_Go p e below s _ _ _ (T391.setTop (mkF m 248 #[.val (.int p1), .val (.int p2), .val (.ref b1), .val (.int p2), .val (.ref wy), .unset] [(.int (2 : Int32))]))
      refine own_go (fun _ k => XS.goto X391.here hx rfl (pc0 := 248) (pc' := 252) rfl (hb hby at_248) (by decide) (by decide) k) ?_
      show own_Go p e below s _ _ _ (T391.setTop (mkF m 252 #[.val (.int p1), .val (.int p2), .val (.ref b1), .val (.int p2), .val (.ref wy), .unset] [(.int (2 : Int32))]))
      refine own_go (fun _ k => XS.istore X391.here hx rfl (hb hby at_252) rfl (l' := #[.val (.int p1), .val (.int p2), .val (.ref b1), .val (.int p2), .val (.ref wy), .val (.int (2 : Int32))]) rfl k) ?_
      show own_Go p e below s _ _ _ (T391.setTop (mkF m 254 #[.val (.int p1), .val (.int p2), .val (.ref b1), .val (.int p2), .val (.ref wy), .val (.int (2 : Int32))] []))
      refine own_go (fun _ k => XS.iload X391.here hx rfl (hb hby at_254) rfl k) ?_
      show own_Go p e below s _ _ _ (T391.setTop (mkF m 256 #[.val (.int p1), .val (.int p2), .val (.ref b1), .val (.int p2), .val (.ref wy), .val (.int (2 : Int32))] [(.int (2 : Int32))]))
      refine own_go (fun _ k => XS.iloadN X391.here hx rfl (hb hby at_256) rfl k) ?_
      show own_Go p e below s _ _ _ (T391.setTop (mkF m 257 #[.val (.int p1), .val (.int p2), .val (.ref b1), .val (.int p2), .val (.ref wy), .val (.int (2 : Int32))] [(.int p2), (.int (2 : Int32))]))
      obtain ⟨v392, T392, L392, X392, hQ392, st392⟩ := own_callS (y := (⟨"com/example/ibex/ibex/model/ValueKindOfPinLaw", "expected", "(I)I"⟩ : MethodName)) X391 hx hZ hown (hw _ (List.mem_of_getElem? (i := 36) rfl)) (hw _ (List.mem_of_getElem? (i := 37) rfl)) (hw _ (List.mem_of_getElem? (i := 38) rfl)) (hw _ (List.mem_of_getElem? (i := 39) rfl)) (rm_expected l Z a0 hw oA oB oE1 oE2 oNe oM oE3 oF3 [] p2 T334.heap O383) 1 0 0 rfl rfl (by decide) (by decide) (by decide) (by show _ ≤ 16; omega) (by show _ ≤ 192; omega) e391 (g := (mkF m 257 #[.val (.int p1), .val (.int p2), .val (.ref b1), .val (.int p2), .val (.ref wy), .val (.int (2 : Int32))] [(.int p2), (.int (2 : Int32))])) rfl (by rw [hml]; rfl) [(.int p2)] [(.int (2 : Int32))] (lenOf own_pd_5 rfl) rfl rfl (by show 2 * 0 + _ ≤ _; exact Nat.le_of_eq rfl) (hb hby at_257)
      rcases hQ392 with hQ392 | hQ392 | hQ392
      · obtain ⟨rfl, Nc395, hp393, Kc394⟩ := hQ392
        refine own_go st392 ?_
        have N396 := Fr.app N388 Nc395
        exact absurd hp393 hp371
      · obtain ⟨rfl, Nc400, hp397, hp398, Kc399⟩ := hQ392
        refine own_go st392 ?_
        have N401 := Fr.app N388 Nc400
        show own_Go p e below s _ _ _ (T392.setTop (mkF m 260 #[.val (.int p1), .val (.int p2), .val (.ref b1), .val (.int p2), .val (.ref wy), .val (.int (2 : Int32))] [(.int (2 : Int32)), (.int (2 : Int32))]))
        refine own_go (fun _ k => XS.icmpNo X392.here hx rfl (hb hby at_260) rfl (teq (by decide : (2 : Int32) = (2 : Int32))).2 k) ?_
        show own_Go p e below s _ _ _ (T392.setTop (mkF m 263 #[.val (.int p1), .val (.int p2), .val (.ref b1), .val (.int p2), .val (.ref wy), .val (.int (2 : Int32))] []))
        refine own_go (fun _ k => XS.iconst X392.here hx rfl (hb hby at_263) k) ?_
        show own_Go p e below s _ _ _ (T392.setTop (mkF m 264 #[.val (.int p1), .val (.int p2), .val (.ref b1), .val (.int p2), .val (.ref wy), .val (.int (2 : Int32))] [(.int (1 : Int32))]))
        refine own_go (fun _ k => XS.goto X392.here hx rfl (pc0 := 264) (pc' := 268) rfl (hb hby at_264) (by decide) (by decide) k) ?_
        show own_Go p e below s _ _ _ (T392.setTop (mkF m 268 #[.val (.int p1), .val (.int p2), .val (.ref b1), .val (.int p2), .val (.ref wy), .val (.int (2 : Int32))] [(.int (1 : Int32))]))
        refine own_retN X392 hx hlk Kc399 (t := .boolean) hret (by simp) (hb hby at_268) (by show _ ≤ 16; omega) (by show _ ≤ 192; omega) ?_
        exact ⟨rfl, N401, K384⟩
      · obtain ⟨rfl, Nc405, hp402, hp403, Kc404⟩ := hQ392
        refine own_go st392 ?_
        have N406 := Fr.app N388 Nc405
        exact absurd hp372 hp403
    · obtain ⟨rfl, Nc410, hp407, hp408, Kc409⟩ := hQ334
      refine own_go st334 ?_
      have N411 := Fr.app N227 Nc410
      have f412 : Arv Z T334.heap b1 k1 .int (32 : Int32) [(.int (1 : Int32)), (.int (12 : Int32)), (.int (-1 : Int32)), (.int (-15 : Int32)), (.int (-9 : Int32)), (.int (-16 : Int32)), (.int (-6 : Int32)), (.int (5 : Int32)), (.int (4 : Int32)), (.int (-5 : Int32)), (.int (3 : Int32)), (.int (2 : Int32)), (.int (7 : Int32)), (.int (6 : Int32)), (.int (8 : Int32)), (.int (0 : Int32)), (.int (9 : Int32)), (.int (10 : Int32)), (.int (11 : Int32)), (.int (-2 : Int32)), (.int (-3 : Int32)), (.int (-4 : Int32)), (.int (-7 : Int32)), (.int (-8 : Int32)), (.int (16 : Int32)), (.int (91 : Int32)), (.int (92 : Int32)), (.int (93 : Int32)), (.int (2004 : Int32)), (.int (2005 : Int32)), (.int (-2147483648 : Int32)), (.int (2147483647 : Int32))] (.int (0 : Int32)) := f226.keep Kc409 nin0
      have O413 := own_oldKeep O229 Kc409 all0
      have K414 : Keep h0 T334.heap [] := K230.trans Kc409 all0
      show own_Go p e below s _ _ _ (T334.setTop (mkF m 209 #[.val (.int p1), .val (.int p2), .val (.ref b1), .val (.int p2), .unset, .unset] [(.ref wz)]))
      refine own_go (fun _ k => XS.aconstNull X334.here hx rfl (hb hby at_209) k) ?_
      show own_Go p e below s _ _ _ (T334.setTop (mkF m 210 #[.val (.int p1), .val (.int p2), .val (.ref b1), .val (.int p2), .unset, .unset] [.null, (.ref wz)]))
      obtain ⟨v415, T415, L415, X415, hQ415, st415⟩ := own_callV (y := (⟨"java/util/Optional", "orElse", "(Ljava/lang/Object;)Ljava/lang/Object;"⟩ : MethodName)) (z := (⟨"java/util/Optional", "orElse", "(Ljava/lang/Object;)Ljava/lang/Object;"⟩ : MethodName)) X334 hx hZ hown (hw _ (List.mem_of_getElem? (i := 28) rfl)) (hw _ (List.mem_of_getElem? (i := 29) rfl)) (notFace_of_selects (args := #[]) (mvT hZ (hw _ (List.mem_of_getElem? (i := 31) rfl)))) (hw _ (List.mem_of_getElem? (i := 31) rfl)) (hw _ (List.mem_of_getElem? (i := 30) rfl)) (hw _ (List.mem_of_getElem? (i := 11) rfl)) (hw _ (List.mem_of_getElem? (i := 32) rfl)) (rm_orElseN l Z a0 hw oA oB oE1 oE2 oNe oM oE3 oF3 [] wz T334.heap O413 (oF3.ext O413)) 0 0 0 rfl rfl (by decide) (by decide) (by decide) (by show _ ≤ 16; omega) (by show _ ≤ 192; omega) (rfl : T334.heap = T334.heap) (oE3.ext O413) (g := (mkF m 210 #[.val (.int p1), .val (.int p2), .val (.ref b1), .val (.int p2), .unset, .unset] [.null, (.ref wz)])) rfl (by rw [hml]; rfl) [.null] [] (lenOf own_pd_0 rfl) rfl rfl (by show 2 * 0 + _ ≤ _; exact Nat.le_of_eq rfl) (hb hby at_210)
      obtain ⟨rfl, Nc417, Kc416⟩ := hQ415
      refine own_go st415 ?_
      have N418 := Fr.app N411 Nc417
      show own_Go p e below s _ _ _ (T415.setTop (mkF m 213 #[.val (.int p1), .val (.int p2), .val (.ref b1), .val (.int p2), .unset, .unset] [.null]))
      refine own_go (X415.checkcastNull hx (g := (mkF m 213 #[.val (.int p1), .val (.int p2), .val (.ref b1), .val (.int p2), .unset, .unset] [.null])) rfl rfl (hb hby at_213)) ?_
      show own_Go p e below s _ _ _ (T415.setTop (mkF m 216 #[.val (.int p1), .val (.int p2), .val (.ref b1), .val (.int p2), .unset, .unset] [.null]))
      refine own_go (fun _ k => XS.astore X415.here hx rfl (hb hby at_216) rfl rfl (l' := #[.val (.int p1), .val (.int p2), .val (.ref b1), .val (.int p2), .val .null, .unset]) rfl k) ?_
      show own_Go p e below s _ _ _ (T415.setTop (mkF m 218 #[.val (.int p1), .val (.int p2), .val (.ref b1), .val (.int p2), .val .null, .unset] []))
      refine own_go (fun _ k => XS.aload X415.here hx rfl (hb hby at_218) rfl rfl k) ?_
      show own_Go p e below s _ _ _ (T415.setTop (mkF m 220 #[.val (.int p1), .val (.int p2), .val (.ref b1), .val (.int p2), .val .null, .unset] [.null]))
      refine own_go (fun _ k => XS.ifnonnullNo X415.here hx rfl (hb hby at_220) rfl k) ?_
      show own_Go p e below s _ _ _ (T415.setTop (mkF m 223 #[.val (.int p1), .val (.int p2), .val (.ref b1), .val (.int p2), .val .null, .unset] []))
      refine own_go (fun _ k => XS.iconst X415.here hx rfl (hb hby at_223) k) ?_
      show own_Go p e below s _ _ _ (T415.setTop (mkF m 224 #[.val (.int p1), .val (.int p2), .val (.ref b1), .val (.int p2), .val .null, .unset] [(.int (0 : Int32))]))
      refine own_go (fun _ k => XS.goto X415.here hx rfl (pc0 := 224) (pc' := 252) rfl (hb hby at_224) (by decide) (by decide) k) ?_
      show own_Go p e below s _ _ _ (T415.setTop (mkF m 252 #[.val (.int p1), .val (.int p2), .val (.ref b1), .val (.int p2), .val .null, .unset] [(.int (0 : Int32))]))
      refine own_go (fun _ k => XS.istore X415.here hx rfl (hb hby at_252) rfl (l' := #[.val (.int p1), .val (.int p2), .val (.ref b1), .val (.int p2), .val .null, .val (.int (0 : Int32))]) rfl k) ?_
      show own_Go p e below s _ _ _ (T415.setTop (mkF m 254 #[.val (.int p1), .val (.int p2), .val (.ref b1), .val (.int p2), .val .null, .val (.int (0 : Int32))] []))
      refine own_go (fun _ k => XS.iload X415.here hx rfl (hb hby at_254) rfl k) ?_
      show own_Go p e below s _ _ _ (T415.setTop (mkF m 256 #[.val (.int p1), .val (.int p2), .val (.ref b1), .val (.int p2), .val .null, .val (.int (0 : Int32))] [(.int (0 : Int32))]))
      refine own_go (fun _ k => XS.iloadN X415.here hx rfl (hb hby at_256) rfl k) ?_
      show own_Go p e below s _ _ _ (T415.setTop (mkF m 257 #[.val (.int p1), .val (.int p2), .val (.ref b1), .val (.int p2), .val .null, .val (.int (0 : Int32))] [(.int p2), (.int (0 : Int32))]))
      obtain ⟨v419, T419, L419, X419, hQ419, st419⟩ := own_callS (y := (⟨"com/example/ibex/ibex/model/ValueKindOfPinLaw", "expected", "(I)I"⟩ : MethodName)) X415 hx hZ hown (hw _ (List.mem_of_getElem? (i := 36) rfl)) (hw _ (List.mem_of_getElem? (i := 37) rfl)) (hw _ (List.mem_of_getElem? (i := 38) rfl)) (hw _ (List.mem_of_getElem? (i := 39) rfl)) (rm_expected l Z a0 hw oA oB oE1 oE2 oNe oM oE3 oF3 [] p2 T334.heap O413) 1 0 0 rfl rfl (by decide) (by decide) (by decide) (by show _ ≤ 16; omega) (by show _ ≤ 192; omega) Kc416 (g := (mkF m 257 #[.val (.int p1), .val (.int p2), .val (.ref b1), .val (.int p2), .val .null, .val (.int (0 : Int32))] [(.int p2), (.int (0 : Int32))])) rfl (by rw [hml]; rfl) [(.int p2)] [(.int (0 : Int32))] (lenOf own_pd_5 rfl) rfl rfl (by show 2 * 0 + _ ≤ _; exact Nat.le_of_eq rfl) (hb hby at_257)
      rcases hQ419 with hQ419 | hQ419 | hQ419
      · obtain ⟨rfl, Nc422, hp420, Kc421⟩ := hQ419
        refine own_go st419 ?_
        have N423 := Fr.app N418 Nc422
        exact absurd hp420 hp407
      · obtain ⟨rfl, Nc427, hp424, hp425, Kc426⟩ := hQ419
        refine own_go st419 ?_
        have N428 := Fr.app N418 Nc427
        exact absurd hp425 hp408
      · obtain ⟨rfl, Nc432, hp429, hp430, Kc431⟩ := hQ419
        refine own_go st419 ?_
        have N433 := Fr.app N418 Nc432
        show own_Go p e below s _ _ _ (T419.setTop (mkF m 260 #[.val (.int p1), .val (.int p2), .val (.ref b1), .val (.int p2), .val .null, .val (.int (0 : Int32))] [(.int (0 : Int32)), (.int (0 : Int32))]))
        refine own_go (fun _ k => XS.icmpNo X419.here hx rfl (hb hby at_260) rfl (teq (by decide : (0 : Int32) = (0 : Int32))).2 k) ?_
        show own_Go p e below s _ _ _ (T419.setTop (mkF m 263 #[.val (.int p1), .val (.int p2), .val (.ref b1), .val (.int p2), .val .null, .val (.int (0 : Int32))] []))
        refine own_go (fun _ k => XS.iconst X419.here hx rfl (hb hby at_263) k) ?_
        show own_Go p e below s _ _ _ (T419.setTop (mkF m 264 #[.val (.int p1), .val (.int p2), .val (.ref b1), .val (.int p2), .val .null, .val (.int (0 : Int32))] [(.int (1 : Int32))]))
        refine own_go (fun _ k => XS.goto X419.here hx rfl (pc0 := 264) (pc' := 268) rfl (hb hby at_264) (by decide) (by decide) k) ?_
        show own_Go p e below s _ _ _ (T419.setTop (mkF m 268 #[.val (.int p1), .val (.int p2), .val (.ref b1), .val (.int p2), .val .null, .val (.int (0 : Int32))] [(.int (1 : Int32))]))
        refine own_retN X419 hx hlk Kc431 (t := .boolean) hret (by simp) (hb hby at_268) (by show _ ≤ 16; omega) (by show _ ≤ 192; omega) ?_
        exact ⟨rfl, N433, K414⟩
set_option maxRecDepth 65536 in
set_option maxHeartbeats 40000000 in
theorem comes_1 {Post : Tables → Env → Array Value → State → Outcome → State → Prop} (hpost : ∀ tb e args s v u, (limb_1_1.after args s (.returned v) u = true ∧ limb_1_2.after args s (.returned v) u = true ∧ True) → FrameEnd s (.returned v) u (Jvm.fieldLocs frame_1_writes args s ++ Jvm.arrayLocs frame_1_arrays args s ++ Jvm.staticLocs frame_1_statics s) 16 192 → Post tb e args s (.returned v) u) :
    ArmFor flags0 classFile x code maxLocals ret World_1 tables_1 room_1 Calls_1 rest_1 Pre_1 Post := by
  intro l hfl _ _ p e ha hc hk s m args below hf hA hF happ hP
  obtain ⟨hcalls, hrest, hpre⟩ := hP
  obtain ⟨-, -, -, hnamed, -, -, -, hat⟩ := (Spec.applies_iff hf).mp happ
  obtain ⟨hg, hn⟩ := and_e (Cond.before_iff.mp (show (Jvm.Cond.and given_1 narrow_1).before args s = true from hpre))
  obtain ⟨gA0, gB0⟩ := and_e hg
  obtain ⟨gA1, gB1⟩ := and_e gB0
  obtain ⟨w0, w1, rfl⟩ : ∃ w0 w1 : Value, args = #[w0, w1] := by
    have hs : args.size = 2 := by simpa [Cond.value, given_1] using gA0
    obtain ⟨L⟩ := args
    match L, hs with
    | [w0, w1], _ => exact ⟨w0, w1, rfl⟩
  have hw := fun d (hd : d ∈ tables_1) => atoms_spec (ws := Jvm.Cond.code x code maxLocals ret :: tables_1) hat d (List.mem_cons_of_mem _ hd)
  have hfit : Fit s := fun {y c} hc i hi => by
    obtain ⟨ha, rfl⟩ := Array.getElem?_eq_some_iff.mp hc
    have q := List.all_eq_true.mp ((Array.all_eq_true_iff_forall_mem.mp hF) _ (Array.getElem_mem ha)) i (List.mem_range.mpr hi)
    simpa [Array.getElem?_eq_getElem hi] using q
  obtain ⟨hsets, hown0⟩ := atoms_of _ (rest_1_c_eq ▸ (show rest_1_c.before _ s = true from hrest))
  have hr0 := Cond.before_iff.mp hown0
  obtain ⟨i0, ei0⟩ := is_v gA1
  obtain rfl : w0 = (.int i0) := Option.some.inj ei0
  obtain ⟨i1, ei1⟩ := is_v gB1
  obtain rfl : w1 = (.int i1) := Option.some.inj ei1
  obtain ⟨n1, hn2⟩ := and_e hn
  obtain ⟨n2, hn3⟩ := and_e hn2
  obtain ⟨n4, n3⟩ := and_e hn3
  obtain ⟨wx, e1⟩ := exa_v n1
  obtain ⟨wy, e2⟩ := exa_v n2
  have oE1 := Exa.start e1 n1
  have oE2 := Exa.start e2 n2
  have oA := Sta.start e1 (Or.inr ⟨(hw _ (List.mem_of_getElem? (i := 5) rfl)), (hw _ (List.mem_of_getElem? (i := 8) rfl))⟩)
  have oB := Sta.start e2 (Or.inr ⟨(hw _ (List.mem_of_getElem? (i := 5) rfl)), (hw _ (List.mem_of_getElem? (i := 41) rfl))⟩)
  have oNe : wx ≠ wy := own_neOrd n3 n4 e1 e2
  have s2 := Cond.before_iff.mp (hsets _ (List.mem_of_getElem? (i := 2) rfl))
  have s3 := Cond.before_iff.mp (hsets _ (List.mem_of_getElem? (i := 3) rfl))
  obtain ⟨wz, e3⟩ := exa_v s2
  have oE3 := Exa.start e3 s2
  have oM := Sta.start e3 (Or.inl (hsets _ (List.mem_of_getElem? (i := 1) rfl)))
  have oF3 := Fld.start ((fld_at e3).symm.trans (null_v s3))
  obtain ⟨n, o, h1, h2, h3, _, L, rfl, ⟨rfl, N, -⟩, hq⟩ := rm_law l s _ hw oA oB oE1 oE2 oNe oM oE3 oF3 tables_1 i0 i1  s.heap ⟨Nat.le_refl _, fun _ _ q => q⟩  p e ha hc hk s m _ below hf ((Spec.applies_iff_loose hf).mp happ).1 ⟨rfl, State.Warmed39.refl s, rfl⟩ trivial
  refine ⟨n, _, h1, h2, h3, hpost _ _ _ _ _ _ ⟨Cond.after_iff.mpr rfl, Cond.after_iff.mpr (eq_i res_at (Term.int_eval (1)) rfl), trivial⟩ ⟨hq.1, hq.2.1, (hq.2.2.sift fun y hy => Or.inr (N y hy)).mono (by decide) (by decide)⟩⟩
theorem main_1_1 : Claimed_1_1 := comes_1 fun _ _ _ _ _ _ h hF => ⟨h.1, hF⟩
theorem main_1_2 : Claimed_1_2 := comes_1 fun _ _ _ _ _ _ h hF => ⟨h.2.1, hF⟩
end Jvm.Pilot.@@N@@
namespace Jvm.Pilot.@@N@@
open Jvm Jvm.ClassFile Sem Op Lib Jvm.Free Jvm.Stand Jvm.Pilot.@@N@@.Jvm.D
/-! MADE BY PROGRAM (witnessworld.py) out of the Statement's table words and the real class files: 14 classes; the members and pool entries that the words name. The judged class is class 1, her method 1. -/
namespace start1
open Jvm.ClassFile
def u (s : String) : CpInfo := .utf8 (stringToUtf16 s)
/-- a pool by its gaps: so many unusable entries, then the entry; so many at the end -/
def gap : Nat → List CpInfo → List CpInfo
  | 0, r => r
  | n + 1, r => .unusable :: gap n r
def poolList (es : List (Nat × CpInfo)) (last : Nat) : List CpInfo := es.foldr (fun e r => gap e.1 (e.2 :: r)) (gap last [])
def pool (es : List (Nat × CpInfo)) (last : Nat) : Array CpInfo := ⟨poolList es last⟩
def fileOf (pool : Array CpInfo) (this : Nat) (attrs : Array Attribute := #[]) (ms : Array MethodInfo := #[]) (fl : Nat := 33) (sup : Nat := 0) (ifs : Array Nat := #[]) (fds : Array FieldInfo := #[]) : ClassFile where
  minorVersion := 0
  majorVersion := 65
  constantPool := pool
  accessFlags := fl
  thisClass := this
  superClass := sup
  interfaces := ifs
  fields := fds
  methods := ms
  attributes := attrs
def plain (name : String) (sup : Option ClassId) : Class where
  name := name
  kind := .ordinary
  loader := none
  accessFlags := 33
  super := sup
  interfaces := #[]
  cf := none
  fields := #[]
  methods := #[]
  instanceTypes := #[]
  staticTypes := #[]
  resolved := #[]
  callSites := []
  init := .initialized
  statics := none
  mirror := none

def pool0 : Array CpInfo := pool [(5, u "<init>"), (0, u "()V"), (1, .class_ 10), (1, u "java/lang/Object")] 113

def k0c0 : Code := { maxStack := 0, maxLocals := 1, code := object_method_1_code, exceptionTable := #[], attributes := #[] }
def k0m0 : Method := { name := "<init>", desc := "()V", sig := { parameters := [], returnType := none }, accessFlags := 1, code := some k0c0 }
/-- java/lang/Object -/
def k0 : Class := { plain "java/lang/Object" none with
  accessFlags := 33
  interfaces := #[]
  cf := some (fileOf pool0 8 #[] #[{ accessFlags := 1, nameIndex := 5, descriptorIndex := 6, attributes := #[] }] 33 0 #[] #[])
  fields := #[]
  methods := #[k0m0]
  instanceTypes := #[]
  staticTypes := #[]
  resolved := Array.replicate 124 none
  statics := none }

def pool1 : Array CpInfo := pool [(2, .class_ 4), (1, u "java/lang/Object"), (0, u "<init>"), (0, u "()V"), (0, .integer 2147483648), (0, .integer 2147483647), (0, .methodref 10 11), (0, .class_ 12), (0, .nameAndType 13 14), (0, u "com/example/ibex/ibex/model/ValueKind"), (0, u "of"), (0, u "(I)Ljava/util/Optional;"), (0, .methodref 16 17), (0, .class_ 18), (0, .nameAndType 19 20), (0, u "java/util/Optional"), (0, u "orElse"), (0, u "(Ljava/lang/Object;)Ljava/lang/Object;"), (0, .fieldref 10 22), (0, .nameAndType 23 24), (0, u "STRING"), (0, u "Lcom/example/ibex/ibex/model/ValueKind;"), (0, .fieldref 10 26), (0, .nameAndType 27 24), (0, u "NUMBER"), (0, .methodref 29 30), (0, .class_ 31), (0, .nameAndType 32 33), (0, u "com/example/ibex/ibex/model/ValueKindOfPinLaw"), (0, u "expected"), (0, u "(I)I"), (2, u "law"), (0, u "(II)Z")] 5

def k1m0 : Method := { name := "<init>", desc := "()V", sig := { parameters := [], returnType := none }, accessFlags := 1, code := none }
def k1c1 : Code := { maxStack := 4, maxLocals := 6, code := code, exceptionTable := #[], attributes := #[] }
def k1m1 : Method := { name := "law", desc := "(II)Z", sig := { parameters := [.int, .int], returnType := some .boolean }, accessFlags := 9, code := some k1c1 }
def k1c2 : Code := { maxStack := 2, maxLocals := 1, code := method_3_code, exceptionTable := #[], attributes := #[] }
def k1m2 : Method := { name := "expected", desc := "(I)I", sig := { parameters := [.int], returnType := some .int }, accessFlags := 10, code := some k1c2 }
/-- com/example/ibex/ibex/model/ValueKindOfPinLaw -/
def k1 : Class := { plain "com/example/ibex/ibex/model/ValueKindOfPinLaw" (some 0) with
  accessFlags := 49
  interfaces := #[]
  cf := some (fileOf pool1 29 #[] #[{ accessFlags := 1, nameIndex := 5, descriptorIndex := 6, attributes := #[] }, { accessFlags := 9, nameIndex := 36, descriptorIndex := 37, attributes := #[] }, { accessFlags := 10, nameIndex := 32, descriptorIndex := 33, attributes := #[] }] 49 2 #[] #[])
  fields := #[]
  methods := #[k1m0, k1m1, k1m2]
  instanceTypes := #[]
  staticTypes := #[]
  resolved := Array.replicate 43 none
  statics := none }

def pool2 : Array CpInfo := pool [(1, .class_ 2), (0, u "java/lang/constant/Constable"), (0, .class_ 4), (0, u "java/lang/Object")] 6

/-- java/lang/constant/Constable -/
def k2 : Class := { plain "java/lang/constant/Constable" (some 0) with
  accessFlags := 1537
  interfaces := #[]
  cf := some (fileOf pool2 1 #[] #[] 1537 3 #[] #[])
  fields := #[]
  methods := #[]
  instanceTypes := #[]
  staticTypes := #[]
  resolved := Array.replicate 11 none
  statics := none }

def pool3 : Array CpInfo := pool [(1, .class_ 2), (0, u "java/lang/Comparable"), (0, .class_ 4), (0, u "java/lang/Object")] 7

/-- java/lang/Comparable -/
def k3 : Class := { plain "java/lang/Comparable" (some 0) with
  accessFlags := 1537
  interfaces := #[]
  cf := some (fileOf pool3 1 #[] #[] 1537 3 #[] #[])
  fields := #[]
  methods := #[]
  instanceTypes := #[]
  staticTypes := #[]
  resolved := Array.replicate 12 none
  statics := none }

def pool4 : Array CpInfo := pool [(1, .class_ 2), (0, u "java/io/Serializable"), (0, .class_ 4), (0, u "java/lang/Object")] 2

/-- java/io/Serializable -/
def k4 : Class := { plain "java/io/Serializable" (some 0) with
  accessFlags := 1537
  interfaces := #[]
  cf := some (fileOf pool4 1 #[] #[] 1537 3 #[] #[])
  fields := #[]
  methods := #[]
  instanceTypes := #[]
  staticTypes := #[]
  resolved := Array.replicate 7 none
  statics := none }

def pool5 : Array CpInfo := pool [(2, .class_ 4), (1, u "java/lang/Enum"), (0, u "name"), (0, u "Ljava/lang/String;"), (2, u "ordinal"), (0, u "I"), (1, .class_ 14), (1, u "java/lang/Object"), (4, u "hash"), (86, .class_ 108), (1, u "java/lang/Enum$EnumDesc"), (2, .class_ 112), (0, u "java/lang/constant/Constable"), (0, .class_ 114), (0, u "java/lang/Comparable"), (0, .class_ 116), (0, u "java/io/Serializable")] 87

/-- java/lang/Enum -/
def k5 : Class := { plain "java/lang/Enum" (some 0) with
  accessFlags := 1057
  interfaces := #[2, 3, 4]
  cf := some (fileOf pool5 2 #[.nestMembers #[106]] #[] 1057 12 #[111, 113, 115] #[{ accessFlags := 18, nameIndex := 5, descriptorIndex := 6, attributes := #[] }, { accessFlags := 18, nameIndex := 9, descriptorIndex := 10, attributes := #[] }, { accessFlags := 2, nameIndex := 19, descriptorIndex := 10, attributes := #[] }])
  fields := #[{ name := "name", type := (.object "java/lang/String"), accessFlags := 18, slot := 0, constantValue := 0 }, { name := "ordinal", type := .int, accessFlags := 18, slot := 1, constantValue := 0 }, { name := "hash", type := .int, accessFlags := 2, slot := 2, constantValue := 0 }]
  methods := #[]
  instanceTypes := #[(.object "java/lang/String"), .int, .int]
  staticTypes := #[]
  resolved := Array.replicate 204 none
  statics := none }

def pool6 : Array CpInfo := pool [(1, .class_ 2), (0, u "com/example/ibex/ibex/model/ValueKind"), (0, .fieldref 1 4), (0, .nameAndType 5 6), (0, u "STRING"), (0, u "Lcom/example/ibex/ibex/model/ValueKind;"), (0, .fieldref 1 8), (0, .nameAndType 9 6), (0, u "NUMBER"), (2, u "$VALUES"), (0, u "[Lcom/example/ibex/ibex/model/ValueKind;"), (6, .class_ 22), (1, u "java/lang/Enum"), (6, .methodref 30 31), (0, .class_ 32), (0, .nameAndType 33 34), (0, u "java/util/Optional"), (0, u "of"), (0, u "(Ljava/lang/Object;)Ljava/util/Optional;"), (0, .methodref 30 36), (0, .nameAndType 37 38), (0, u "empty"), (0, u "()Ljava/util/Optional;"), (14, u "(I)Ljava/util/Optional;")] 6

def k6c0 : Code := { maxStack := 1, maxLocals := 1, code := prog_103_method_4_code, exceptionTable := #[], attributes := #[] }
def k6m0 : Method := { name := "of", desc := "(I)Ljava/util/Optional;", sig := { parameters := [.int], returnType := some (.object "java/util/Optional") }, accessFlags := 9, code := some k6c0 }
/-- com/example/ibex/ibex/model/ValueKind -/
def k6 : Class := { plain "com/example/ibex/ibex/model/ValueKind" (some 5) with
  accessFlags := 16433
  interfaces := #[]
  cf := some (fileOf pool6 1 #[] #[{ accessFlags := 9, nameIndex := 33, descriptorIndex := 53, attributes := #[] }] 16433 20 #[] #[{ accessFlags := 16409, nameIndex := 5, descriptorIndex := 6, attributes := #[] }, { accessFlags := 16409, nameIndex := 9, descriptorIndex := 6, attributes := #[] }, { accessFlags := 4122, nameIndex := 12, descriptorIndex := 13, attributes := #[] }])
  fields := #[{ name := "STRING", type := (.object "com/example/ibex/ibex/model/ValueKind"), accessFlags := 16409, slot := 0, constantValue := 0 }, { name := "NUMBER", type := (.object "com/example/ibex/ibex/model/ValueKind"), accessFlags := 16409, slot := 1, constantValue := 0 }, { name := "$VALUES", type := (.array (.object "com/example/ibex/ibex/model/ValueKind")), accessFlags := 4122, slot := 2, constantValue := 0 }]
  methods := #[k6m0]
  instanceTypes := #[(.object "java/lang/String"), .int, .int]
  staticTypes := #[(.object "com/example/ibex/ibex/model/ValueKind"), (.object "com/example/ibex/ibex/model/ValueKind"), (.array (.object "com/example/ibex/ibex/model/ValueKind"))]
  resolved := Array.replicate 60 none
  statics := some 0 }

def pool7 : Array CpInfo := pool [(1, .fieldref 2 3), (0, .class_ 4), (0, .nameAndType 5 6), (0, u "java/util/Optional"), (0, u "EMPTY"), (0, u "Ljava/util/Optional;"), (0, .methodref 8 9), (0, .class_ 10), (0, .nameAndType 11 12), (0, u "java/lang/Object"), (0, u "<init>"), (0, u "()V"), (0, .fieldref 2 14), (0, .nameAndType 15 16), (0, u "value"), (0, u "Ljava/lang/Object;"), (0, .methodref 18 19), (0, .class_ 20), (0, .nameAndType 21 22), (0, u "java/util/Objects"), (0, u "requireNonNull"), (0, u "(Ljava/lang/Object;)Ljava/lang/Object;"), (0, .methodref 2 24), (0, .nameAndType 11 25), (0, u "(Ljava/lang/Object;)V"), (29, u "empty"), (0, u "()Ljava/util/Optional;"), (8, u "(Ljava/lang/Object;)Ljava/util/Optional;"), (16, u "of"), (82, u "orElse")] 21

def k7c0 : Code := { maxStack := 1, maxLocals := 1, code := jdk_32_method_1_code, exceptionTable := #[], attributes := #[] }
def k7m0 : Method := { name := "empty", desc := "()Ljava/util/Optional;", sig := { parameters := [], returnType := some (.object "java/util/Optional") }, accessFlags := 9, code := some k7c0 }
def k7c1 : Code := { maxStack := 2, maxLocals := 2, code := jdk_32_method_2_code, exceptionTable := #[], attributes := #[] }
def k7m1 : Method := { name := "<init>", desc := "(Ljava/lang/Object;)V", sig := { parameters := [(.object "java/lang/Object")], returnType := none }, accessFlags := 2, code := some k7c1 }
def k7c2 : Code := { maxStack := 3, maxLocals := 1, code := jdk_32_method_3_code, exceptionTable := #[], attributes := #[] }
def k7m2 : Method := { name := "of", desc := "(Ljava/lang/Object;)Ljava/util/Optional;", sig := { parameters := [(.object "java/lang/Object")], returnType := some (.object "java/util/Optional") }, accessFlags := 9, code := some k7c2 }
def k7c3 : Code := { maxStack := 1, maxLocals := 2, code := jdk_32_method_15_code, exceptionTable := #[], attributes := #[] }
def k7m3 : Method := { name := "orElse", desc := "(Ljava/lang/Object;)Ljava/lang/Object;", sig := { parameters := [(.object "java/lang/Object")], returnType := some (.object "java/lang/Object") }, accessFlags := 1, code := some k7c3 }
/-- java/util/Optional -/
def k7 : Class := { plain "java/util/Optional" (some 0) with
  accessFlags := 49
  interfaces := #[]
  cf := some (fileOf pool7 2 #[] #[{ accessFlags := 9, nameIndex := 55, descriptorIndex := 56, attributes := #[] }, { accessFlags := 2, nameIndex := 11, descriptorIndex := 25, attributes := #[] }, { accessFlags := 9, nameIndex := 82, descriptorIndex := 65, attributes := #[] }, { accessFlags := 1, nameIndex := 165, descriptorIndex := 22, attributes := #[] }] 49 8 #[] #[{ accessFlags := 26, nameIndex := 5, descriptorIndex := 6, attributes := #[] }, { accessFlags := 18, nameIndex := 15, descriptorIndex := 16, attributes := #[] }])
  fields := #[{ name := "EMPTY", type := (.object "java/util/Optional"), accessFlags := 26, slot := 0, constantValue := 0 }, { name := "value", type := (.object "java/lang/Object"), accessFlags := 18, slot := 0, constantValue := 0 }]
  methods := #[k7m0, k7m1, k7m2, k7m3]
  instanceTypes := #[(.object "java/lang/Object")]
  staticTypes := #[(.object "java/util/Optional")]
  resolved := Array.replicate 187 none
  statics := some 1 }

def pool8 : Array CpInfo := pool [(2, .class_ 4), (1, u "java/lang/Object"), (0, u "<init>"), (0, u "()V"), (35, .class_ 44), (1, u "java/util/Objects"), (0, u "requireNonNull"), (0, u "(Ljava/lang/Object;)Ljava/lang/Object;")] 137

def k8m0 : Method := { name := "<init>", desc := "()V", sig := { parameters := [], returnType := none }, accessFlags := 2, code := none }
def k8c1 : Code := { maxStack := 2, maxLocals := 1, code := jdk_31_method_10_code, exceptionTable := #[], attributes := #[] }
def k8m1 : Method := { name := "requireNonNull", desc := "(Ljava/lang/Object;)Ljava/lang/Object;", sig := { parameters := [(.object "java/lang/Object")], returnType := some (.object "java/lang/Object") }, accessFlags := 9, code := some k8c1 }
/-- java/util/Objects -/
def k8 : Class := { plain "java/util/Objects" (some 0) with
  accessFlags := 49
  interfaces := #[]
  cf := some (fileOf pool8 42 #[] #[{ accessFlags := 2, nameIndex := 5, descriptorIndex := 6, attributes := #[] }, { accessFlags := 9, nameIndex := 45, descriptorIndex := 46, attributes := #[] }] 49 2 #[] #[])
  fields := #[]
  methods := #[k8m0, k8m1]
  instanceTypes := #[]
  staticTypes := #[]
  resolved := Array.replicate 184 none
  statics := none }

def pool9 : Array CpInfo := pool [(1, u "java/lang/Cloneable"), (0, .class_ 1), (0, u "java/lang/Object"), (0, .class_ 3)] 3

/-- java/lang/Cloneable -/
def k9 : Class := { plain "java/lang/Cloneable" (some 0) with
  accessFlags := 1537
  interfaces := #[]
  cf := some (fileOf pool9 2 #[] #[] 1537 4 #[] #[])
  fields := #[]
  methods := #[]
  instanceTypes := #[]
  staticTypes := #[]
  resolved := Array.replicate 8 none
  statics := none }

/-- the primitive byte -/
def k10 : Class := { plain "byte" none with kind := .primitive 'B', accessFlags := 0x411 }
/-- [B -/
def k11 : Class := { plain "[B" (some 0) with kind := .array 10 .byte, interfaces := #[9, 4], accessFlags := 1041 }

/-- the primitive int -/
def k12 : Class := { plain "int" none with kind := .primitive 'I', accessFlags := 0x411 }
/-- [I -/
def k13 : Class := { plain "[I" (some 0) with kind := .array 12 .int, interfaces := #[9, 4], accessFlags := 1041 }

def heap : Heap := #[{ cls := 6, slots := #[.ref 2, .ref 3, .null], vm := .statics 6 },
  { cls := 7, slots := #[.ref 4], vm := .statics 7 },
  { cls := 6, slots := #[.null, .int 0, .int 0], vm := .none },
  { cls := 6, slots := #[.null, .int 1, .int 0], vm := .none },
  { cls := 7, slots := #[.null], vm := .none }]
def classes : Array Class := #[k0, k1, k2, k3, k4, k5, k6, k7, k8, k9, k10, k11, k12, k13]
def interned : List (Array UInt16 × Addr) := []
def slotsUsed : Nat := 11
def theMethod : MethodId := ⟨1, 1⟩
def args0 : Array Value := #[.int 5, .int 2]
def aboutOver (below : List Frame) : State where
  vm := { classes := classes, interned := interned.toArray }
  heap := heap
  slotsUsed := slotsUsed
  threads := #[{ frames := .invoking theMethod args0 :: below }]
def below0 : List Frame := [.native { method := ⟨0, 0⟩, args := #[] }]
def about1 : State := aboutOver below0
def p0 : Program := .bare "" "" ""
def e0 : Env := launch0.env 0 0 0
theorem w_frames : about1.frames = Frame.invoking theMethod args0 :: below0 := rfl
set_option maxRecDepth 65536 in
theorem w_args : argsFit about1.vm theMethod args0 = true := by decide +kernel
set_option maxRecDepth 65536 in
theorem w_heap : heapFits about1 = true := by decide +kernel
set_option maxRecDepth 65536 in
theorem w_runnable : about1.curStatus? = some .runnable := by decide +kernel
set_option maxRecDepth 65536 in
theorem w_alone : about1.alone = true := by decide +kernel
set_option maxRecDepth 65536 in
theorem w_named : about1.methodNamed? x = some theMethod := by decide +kernel
set_option maxRecDepth 65536 in
theorem w_hears : about1.hears theMethod below0 = true := by decide +kernel
set_option maxRecDepth 65536 in
theorem w_ripe : about1.ripe theMethod args0 below0 = true := by decide +kernel
theorem w_running : about1.status = .running := rfl
set_option maxRecDepth 65536 in
theorem w_room : about1.hasRoom e0.platform room_1 = true :=
  launch0.hasRoom_least _ room_1 (by decide +kernel) (by decide +kernel) (by decide +kernel) (by decide +kernel) (by decide +kernel) (by decide +kernel)
theorem allAtoms_all (ts : List Jvm.Cond) (a : Array Jvm.Value) (st : Jvm.State) : (allAtoms ts).before a st = ts.all (fun c => c.before a st) := by
  induction ts with
  | nil => rfl
  | cons c t ih =>
    show (Jvm.Cond.and c (allAtoms t)).before a st = _
    rw [Jvm.Cond.before_and, ih, List.all_cons]
def words1 : List Jvm.Cond := Jvm.Cond.code x code maxLocals ret :: tables_1
/-- a 'code' word, met by the world's own term for the bytes: nothing is compared byte by byte -/
theorem code_word {y : MethodName} {bytes : ByteArray} {mx : Nat} {rt : Option FieldType} {a : Array Value} {s : State} {m : MethodId} {meth : Method} {c : Code} (h1 : s.methodNamed? y = some m) (h2 : s.vm.method? m = some meth) (h3 : meth.code = some c) (h4 : c.code = bytes)
    (h5 : (c.maxLocals == mx && c.exceptionTable.isEmpty && decide (c.maxStack ≤ mostOperands) && decide (meth.sig.returnType = rt) && !meth.locks && decide (parseMethodDescriptor y.desc = some meth.sig)) = true) : (Jvm.Cond.code y bytes mx rt).before a s = true := by
  simp only [Bool.and_eq_true, beq_iff_eq, Bool.not_eq_true', decide_eq_true_eq] at h5
  obtain ⟨⟨⟨⟨⟨g1, g2⟩, g3⟩, g4⟩, g5⟩, g6⟩ := h5
  simp [Cond.before, Cond.holds, Cond.value, h1, h2, h3, h4, g1, g2, g3, g4, g5, g6]
def isCode : Jvm.Cond → Bool
  | .code _ _ _ _ => true
  | _ => false
theorem all_split {L : List Jvm.Cond} {P : Jvm.Cond → Bool} (h1 : L.all (fun c => isCode c || P c) = true) (h2 : ∀ c ∈ L.filter isCode, P c = true) : L.all P = true := by
  refine List.all_eq_true.mpr fun c hc => ?_
  have h := List.all_eq_true.mp h1 c hc
  rcases Bool.eq_false_or_eq_true (isCode c) with hi | hi
  · exact h2 c (List.mem_filter.mpr ⟨hc, hi⟩)
  · simpa [hi] using h
set_option maxRecDepth 65536 in
theorem w_c0 : (Jvm.Cond.code x code maxLocals ret).before args0 about1 = true := code_word (m := ⟨1, 1⟩) (meth := k1m1) (c := k1c1) (by decide +kernel) rfl rfl rfl (by decide +kernel)
set_option maxRecDepth 65536 in
theorem w_c1 : (Jvm.Cond.code ({ cls := "com/example/ibex/ibex/model/ValueKind", name := "of", desc := "(I)Ljava/util/Optional;" } : Jvm.MethodName) prog_103_method_4_code (1 : Nat) (Option.some (Jvm.ClassFile.FieldType.object "java/util/Optional"))).before args0 about1 = true := code_word (m := ⟨6, 0⟩) (meth := k6m0) (c := k6c0) (by decide +kernel) rfl rfl rfl (by decide +kernel)
set_option maxRecDepth 65536 in
theorem w_c2 : (Jvm.Cond.code ({ cls := "java/util/Optional", name := "of", desc := "(Ljava/lang/Object;)Ljava/util/Optional;" } : Jvm.MethodName) jdk_32_method_3_code (1 : Nat) (Option.some (Jvm.ClassFile.FieldType.object "java/util/Optional"))).before args0 about1 = true := code_word (m := ⟨7, 2⟩) (meth := k7m2) (c := k7c2) (by decide +kernel) rfl rfl rfl (by decide +kernel)
set_option maxRecDepth 65536 in
theorem w_c3 : (Jvm.Cond.code ({ cls := "java/util/Objects", name := "requireNonNull", desc := "(Ljava/lang/Object;)Ljava/lang/Object;" } : Jvm.MethodName) jdk_31_method_10_code (1 : Nat) (Option.some (Jvm.ClassFile.FieldType.object "java/lang/Object"))).before args0 about1 = true := code_word (m := ⟨8, 1⟩) (meth := k8m1) (c := k8c1) (by decide +kernel) rfl rfl rfl (by decide +kernel)
set_option maxRecDepth 65536 in
theorem w_c4 : (Jvm.Cond.code ({ cls := "java/util/Optional", name := "<init>", desc := "(Ljava/lang/Object;)V" } : Jvm.MethodName) jdk_32_method_2_code (2 : Nat) (Option.none : Option Jvm.ClassFile.FieldType)).before args0 about1 = true := code_word (m := ⟨7, 1⟩) (meth := k7m1) (c := k7c1) (by decide +kernel) rfl rfl rfl (by decide +kernel)
set_option maxRecDepth 65536 in
theorem w_c5 : (Jvm.Cond.code ({ cls := "java/lang/Object", name := "<init>", desc := "()V" } : Jvm.MethodName) object_method_1_code (1 : Nat) (Option.none : Option Jvm.ClassFile.FieldType)).before args0 about1 = true := code_word (m := ⟨0, 0⟩) (meth := k0m0) (c := k0c0) (by decide +kernel) rfl rfl rfl (by decide +kernel)
set_option maxRecDepth 65536 in
theorem w_c6 : (Jvm.Cond.code ({ cls := "java/util/Optional", name := "orElse", desc := "(Ljava/lang/Object;)Ljava/lang/Object;" } : Jvm.MethodName) jdk_32_method_15_code (2 : Nat) (Option.some (Jvm.ClassFile.FieldType.object "java/lang/Object"))).before args0 about1 = true := code_word (m := ⟨7, 3⟩) (meth := k7m3) (c := k7c3) (by decide +kernel) rfl rfl rfl (by decide +kernel)
set_option maxRecDepth 65536 in
theorem w_c7 : (Jvm.Cond.code ({ cls := "com/example/ibex/ibex/model/ValueKindOfPinLaw", name := "expected", desc := "(I)I" } : Jvm.MethodName) method_3_code (1 : Nat) (Option.some Jvm.ClassFile.FieldType.int)).before args0 about1 = true := code_word (m := ⟨1, 2⟩) (meth := k1m2) (c := k1c2) (by decide +kernel) rfl rfl rfl (by decide +kernel)
set_option maxRecDepth 65536 in
theorem w_c8 : (Jvm.Cond.code ({ cls := "java/util/Optional", name := "empty", desc := "()Ljava/util/Optional;" } : Jvm.MethodName) jdk_32_method_1_code (1 : Nat) (Option.some (Jvm.ClassFile.FieldType.object "java/util/Optional"))).before args0 about1 = true := code_word (m := ⟨7, 0⟩) (meth := k7m0) (c := k7c0) (by decide +kernel) rfl rfl rfl (by decide +kernel)
def codes1 : List Jvm.Cond := [Jvm.Cond.code x code maxLocals ret, Jvm.Cond.code ({ cls := "com/example/ibex/ibex/model/ValueKind", name := "of", desc := "(I)Ljava/util/Optional;" } : Jvm.MethodName) prog_103_method_4_code (1 : Nat) (Option.some (Jvm.ClassFile.FieldType.object "java/util/Optional")), Jvm.Cond.code ({ cls := "java/util/Optional", name := "of", desc := "(Ljava/lang/Object;)Ljava/util/Optional;" } : Jvm.MethodName) jdk_32_method_3_code (1 : Nat) (Option.some (Jvm.ClassFile.FieldType.object "java/util/Optional")), Jvm.Cond.code ({ cls := "java/util/Objects", name := "requireNonNull", desc := "(Ljava/lang/Object;)Ljava/lang/Object;" } : Jvm.MethodName) jdk_31_method_10_code (1 : Nat) (Option.some (Jvm.ClassFile.FieldType.object "java/lang/Object")), Jvm.Cond.code ({ cls := "java/util/Optional", name := "<init>", desc := "(Ljava/lang/Object;)V" } : Jvm.MethodName) jdk_32_method_2_code (2 : Nat) (Option.none : Option Jvm.ClassFile.FieldType), Jvm.Cond.code ({ cls := "java/lang/Object", name := "<init>", desc := "()V" } : Jvm.MethodName) object_method_1_code (1 : Nat) (Option.none : Option Jvm.ClassFile.FieldType), Jvm.Cond.code ({ cls := "java/util/Optional", name := "orElse", desc := "(Ljava/lang/Object;)Ljava/lang/Object;" } : Jvm.MethodName) jdk_32_method_15_code (2 : Nat) (Option.some (Jvm.ClassFile.FieldType.object "java/lang/Object")), Jvm.Cond.code ({ cls := "com/example/ibex/ibex/model/ValueKindOfPinLaw", name := "expected", desc := "(I)I" } : Jvm.MethodName) method_3_code (1 : Nat) (Option.some Jvm.ClassFile.FieldType.int), Jvm.Cond.code ({ cls := "java/util/Optional", name := "empty", desc := "()Ljava/util/Optional;" } : Jvm.MethodName) jdk_32_method_1_code (1 : Nat) (Option.some (Jvm.ClassFile.FieldType.object "java/util/Optional"))]
set_option maxRecDepth 65536 in
theorem codes_eq : words1.filter isCode = codes1 := rfl
theorem w_codes : ∀ c ∈ words1.filter isCode, c.before args0 about1 = true := by
  rw [codes_eq]
  intro c hc
  simp only [codes1, List.mem_cons, List.not_mem_nil, or_false] at hc
  rcases hc with rfl | rfl | rfl | rfl | rfl | rfl | rfl | rfl | rfl
  · exact w_c0
  · exact w_c1
  · exact w_c2
  · exact w_c3
  · exact w_c4
  · exact w_c5
  · exact w_c6
  · exact w_c7
  · exact w_c8
set_option maxRecDepth 65536 in
theorem w_t1 : (words1.take 24).all (fun c => isCode c || c.before args0 about1) = true := by decide +kernel
set_option maxRecDepth 65536 in
theorem w_t2 : (words1.drop 24).all (fun c => isCode c || c.before args0 about1) = true := by decide +kernel
theorem w_tables : (allAtoms (Jvm.Cond.code x code maxLocals ret :: tables_1)).before args0 about1 = true := by
  rw [allAtoms_all]
  show words1.all (fun c => c.before args0 about1) = true
  refine all_split ?_ w_codes
  rw [← List.take_append_drop 24 words1, List.all_append, w_t1, w_t2]
  rfl
set_option maxRecDepth 65536 in
theorem w_rest : rest_1_c.before args0 about1 = true := by decide +kernel
set_option maxRecDepth 65536 in
theorem w_case : (Jvm.Cond.and given_1 narrow_1).before args0 about1 = true := by decide +kernel
theorem w_applies : (headSpec (Jvm.Cond.code x code maxLocals ret :: tables_1) room_1).applies x e0.platform about1 = true :=
  (Spec.applies_iff w_frames).mpr ⟨w_running, w_runnable, w_alone, w_named, w_hears, w_ripe, w_room, w_tables⟩
theorem atStart : AtStart classFile x code maxLocals ret World_1 tables_1 room_1 Calls_1 rest_1 Pre_1 launch0 p0 e0 about1 theMethod args0 below0 :=
  ⟨lists_1, trivial, launch0.admits_env _ _ _, launch0.least_env, fairChoices_fair.cas, fairChoices_fair.clock, w_frames, w_args, w_heap, w_applies, trivial, w_rest, w_case⟩
end start1
theorem witness_1 : WitnessClaimed_1 := ⟨start1.p0, start1.e0, start1.about1, start1.theMethod, start1.args0, start1.below0, start1.atStart⟩
end Jvm.Pilot.@@N@@
