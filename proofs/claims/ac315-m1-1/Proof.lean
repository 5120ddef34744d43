import JvmDerived
import JvmDerived.Pilot.@@N@@Statement
import JvmDerived.Pilot.@@N@@Code
set_option linter.unusedVariables false
set_option linter.unusedSimpArgs false
namespace Jvm.Pilot.@@N@@
open Jvm Jvm.ClassFile Sem Op Lib Jvm.Free Jvm.Stand Jvm.LawKit Jvm.RoadKit Bundle Jvm.Pilot.@@N@@.Jvm.D
/-- the run from U comes to a return whose value, heap and written places Q takes; it has made at most kc cells of ks slots -/
def own_Go (p : Program) (e : Env) (below : List Frame) (s : State) (Q : Option Value → Heap → List Loc → Prop) (kc ks : Nat) (U : State) : Prop :=
  ∃ t o, Steps p.tables e below U t ∧ t.status = .running ∧ Ended t below o ∧ ∃ v L, o = .returned v ∧ Q v t.heap L ∧ FrameEnd s o t L kc ks
section OwnKit
variable {p : Program} {l : Launch} {e : Env} {R : Room} {s : State} {m : MethodId} {args : Array Value} {below : List Frame} {meth : Method} {c : Code} {T : State} {locs : List Loc} {cells slots kc ks : Nat} {Z : State} {a0 : Array Value} {h : Heap} {Q : Option Value → Heap → List Loc → Prop}
theorem own_go {U U' : State} (f : ∀ t, Steps p.tables e below U' t → Steps p.tables e below U t) (g : own_Go p e below s Q kc ks U') : own_Go p e below s Q kc ks U := by
  obtain ⟨t, o, a, r⟩ := g
  exact ⟨t, o, f t a, r⟩
theorem own_end (X : Stand p l e R s m args below meth c T locs cells slots) (hlk : meth.locks = false) (eT : T.heap = h) {v : Option Value} (hv : meth.sig.returnType = none → v = none) (hc : cells ≤ kc) (hs : slots ≤ ks) (hq : Q v h locs) {U : State}
    (hst : ∀ fs, (∀ (f : JFrame) (acts : List Action), f.method = m → f.locked = none → f.entered = [] → (doReturn e (T.setTop f) acts v).1 = T.setFrames fs) → Steps p.tables e below U (T.setFrames fs)) : own_Go p e below s Q kc ks U := by
  obtain ⟨fs, hr, hrun, hended, hW, hsame⟩ := X.leave (v := v) hv hlk
  refine ⟨_, _, hst fs hr, hrun, hended, v, locs, rfl, ?_, ⟨v, rfl⟩, hW, hsame.mono hc hs⟩
  show Q v T.heap locs
  rw [eT]; exact hq
theorem own_retN (X : Stand p l e R s m args below meth c T locs cells slots) (hx : p.tables.exec = Jvm.exec) (hlk : meth.locks = false) (eT : T.heap = h) {pc : Nat} {Ls : Array Slot} {z : Int32} {t : FieldType} {rest : List Value} (hret : meth.sig.returnType = some t) (ht : t = .boolean ∨ t = .byte ∨ t = .char ∨ t = .short)
    (hd : decode c.code pc = .ok (.ireturn, 1)) (hc : cells ≤ kc) (hs : slots ≤ ks) (hq : Q (some (.int (nar t z))) h locs) : own_Go p e below s Q kc ks (T.setTop (mkF m pc Ls (.int z :: rest))) :=
  own_end X hlk eT (fun q => by rw [hret] at q; cases q) hc hs hq fun fs hr => retN X hx hret ht hd hr
theorem own_retI (X : Stand p l e R s m args below meth c T locs cells slots) (hx : p.tables.exec = Jvm.exec) (hlk : meth.locks = false) (eT : T.heap = h) {pc : Nat} {Ls : Array Slot} {z : Int32} {rest : List Value} (hret : meth.sig.returnType = some .int)
    (hd : decode c.code pc = .ok (.ireturn, 1)) (hc : cells ≤ kc) (hs : slots ≤ ks) (hq : Q (some (.int z)) h locs) : own_Go p e below s Q kc ks (T.setTop (mkF m pc Ls (.int z :: rest))) :=
  own_end X hlk eT (fun q => by rw [hret] at q; cases q) hc hs hq fun fs hr => retOut X hx hret rfl (Or.inl ⟨rfl, Or.inl rfl, z, rfl⟩) hd hr
theorem own_retJ (X : Stand p l e R s m args below meth c T locs cells slots) (hx : p.tables.exec = Jvm.exec) (hlk : meth.locks = false) (eT : T.heap = h) {pc : Nat} {Ls : Array Slot} {z : Int64} {rest : List Value} (hret : meth.sig.returnType = some .long)
    (hd : decode c.code pc = .ok (.lreturn, 1)) (hc : cells ≤ kc) (hs : slots ≤ ks) (hq : Q (some (.long z)) h locs) : own_Go p e below s Q kc ks (T.setTop (mkF m pc Ls (.long z :: rest))) :=
  own_end X hlk eT (fun q => by rw [hret] at q; cases q) hc hs hq fun fs hr => retOut X hx hret rfl (Or.inr (Or.inl ⟨rfl, rfl, z, rfl⟩)) hd hr
theorem own_retA (X : Stand p l e R s m args below meth c T locs cells slots) (hx : p.tables.exec = Jvm.exec) (hlk : meth.locks = false) (eT : T.heap = h) {pc : Nat} {Ls : Array Slot} {v : Value} {t : FieldType} {rest : List Value} (hret : meth.sig.returnType = some t) (ht : t.isReference = true) (hv : v.isRef = true)
    (hd : decode c.code pc = .ok (.areturn, 1)) (hc : cells ≤ kc) (hs : slots ≤ ks) (hq : Q (some v) h locs) : own_Go p e below s Q kc ks (T.setTop (mkF m pc Ls (v :: rest))) :=
  own_end X hlk eT (fun q => by rw [hret] at q; cases q) hc hs hq fun fs hr => retOut X hx hret (by cases t <;> first | (cases ht; done) | (rcases ref_cases hv with rfl | ⟨_, rfl⟩ <;> rfl)) (Or.inr (Or.inr (Or.inr (Or.inr ⟨rfl, ht, hv⟩)))) hd hr
theorem own_retV (X : Stand p l e R s m args below meth c T locs cells slots) (hx : p.tables.exec = Jvm.exec) (hlk : meth.locks = false) (eT : T.heap = h) {pc : Nat} {Ls : Array Slot} (hret : meth.sig.returnType = none)
    (hd : decode c.code pc = .ok (.return_, 1)) (hc : cells ≤ kc) (hs : slots ≤ ks) (hq : Q none h locs) : own_Go p e below s Q kc ks (T.setTop (mkF m pc Ls [])) :=
  own_end X hlk eT (fun _ => rfl) hc hs hq fun fs hr => X.returnOut hx hret hd hr
/-- a body's contract out of its walk -/
theorem own_met {y : MethodName} {bytes : ByteArray} {maxL : Nat} {ret : Option FieldType} {ws : List Jvm.Cond} {rm : Room} {as' : Array Value} (kc ks : Nat) (hpl : plainFor y = true)
    (body : ∀ (p : Program) (e : Env) (s : State) (m : MethodId) (below : List Frame) (meth : Method) (c : Code) (T : State), Stand p l e rm s m as' below meth c T [] 0 0 → p.tables.exec = Jvm.exec → c.code = bytes → c.maxLocals = maxL → meth.sig.returnType = ret → meth.locks = false → Z.Warmed39 s.vm → s.vm.findClass y.cls = some m.cls → meth.name = y.name → T.heap = h →
      own_Go p e below s Q kc ks (T.setTop (entryFrame m as' maxL))) :
    MetFree l y (head1 (Jvm.Cond.code y bytes maxL ret :: ws) rm) (fun a U => a = as' ∧ Z.Warmed39 U.vm ∧ U.heap = h) (fun _ _ _ _ _ => True) (fun _ U o U' => ∃ v L, o = .returned v ∧ Q v U'.heap L ∧ FrameEnd U o U' L kc ks) := by
  refine MetFree.of_bodySF hpl hisR ?_
  intro p e s m args below meth c s₁ Bd hml hP hK
  obtain ⟨rfl, hZ, hh⟩ := hP
  obtain ⟨t, o, h1, h2, h3, h4⟩ := body p e s m below meth c s₁ (Stand.of_body Bd) Bd.exec Bd.bytes hml Bd.returns Bd.notSynchronized hZ (findClass_of_methodNamed Bd.named) (name_of_methodNamed Bd.named Bd.method).1 (by rw [← hh, Bd.state]; rfl)
  exact ⟨t, o, h1, h2, h3, h4⟩
abbrev own_Met (l : Launch) (Z : State) (h : Heap) (y : MethodName) (bytes : ByteArray) (maxL : Nat) (ret : Option FieldType) (rm : Room) (as' : Array Value) (Q : Option Value → Heap → List Loc → Prop) : Prop :=
  MetFree l y (head1 [Jvm.Cond.code y bytes maxL ret] rm) (fun a U => a = as' ∧ Z.Warmed39 U.vm ∧ U.heap = h) (fun _ _ _ _ _ => True) (fun _ U o U' => ∃ v L, o = .returned v ∧ Q v U'.heap L ∧ FrameEnd U o U' L rm.cells rm.slots)
theorem own_callS {y : MethodName} {bytes : ByteArray} {maxL : Nat} {ret : Option FieldType} {rm : Room} {as' : Array Value} {own : String} {index : Nat} (X : Stand p l e R s m args below meth c T locs cells slots) (hx : p.tables.exec = Jvm.exec) (hZ : Z.Warmed39 s.vm) (hown : s.vm.findClass own = some m.cls)
    (w1 : (Jvm.Cond.methodLink own index y).before a0 Z = true) (w2 : (Jvm.Cond.static y).before a0 Z = true) (w3 : (Jvm.Cond.initialized y.cls).before a0 Z = true) (w4 : (Jvm.Cond.code y bytes maxL ret).before a0 Z = true) (hM : own_Met l Z h y bytes maxL ret rm as' Q) (W : Nat) (nc ns : Nat) (hnc : rm.cells = nc) (hns : rm.slots = ns)
    (hy : y.cls ≠ "java/lang/invoke/MethodHandle" ∧ y.cls ≠ "java/lang/invoke/VarHandle") (hf : rm.frames + 1 ≤ R.frames) (hl : W + (maxL + 11) + rm.locals ≤ R.locals) (hc : cells + nc ≤ R.cells) (hs : slots + ns ≤ R.slots) (eT : T.heap = h) {g : JFrame} (hg : g.method = m) (hsize : g.locals.size = c.maxLocals)
    (argsL rest : List Value) (hlen : ∀ sig, parseMethodDescriptor y.desc = some sig → argsL.length = sig.parameters.length) (hstack : g.stack = argsL.reverse ++ rest) (has : argsL.toArray = as') (hW : 2 * g.monitorRoom + (rest.map fun v => v.category).sum ≤ W) (hdg : decode c.code g.pc = .ok (.invokestatic index, 3)) :
    ∃ v T' L, Stand p l e R s m args below meth c T' (locs ++ L) (cells + nc) (slots + ns) ∧ Q v T'.heap L ∧ ∀ target, Steps p.tables e below (T'.setTop { g with pc := g.pc + 3, stack := v.toList ++ rest }) target → Steps p.tables e below (T.setTop g) target := by
  subst hnc hns
  obtain ⟨v, _, ⟨T', L', k', n'⟩, -, X', ⟨L, hQ, h1, h2, h3⟩, st⟩ := Jvm.LawKit.callS X hx hown (mvT hZ w1) (mvT hZ w2) (mvT hZ w3) (mvT hZ w4) hy (backOf (W := W) hM hZ w4 w3 hf hl) hg hsize hlen hstack hW hdg (fun _ _ => ⟨has, eT, hc, hs⟩)
  dsimp only [Pt.U, Pt.locs, Pt.cells, Pt.slots] at X' hQ h1 h2 h3 st
  subst h1 h2 h3
  exact ⟨v, T', L, X', hQ, st⟩
theorem own_callI {y : MethodName} {bytes : ByteArray} {maxL : Nat} {rm : Room} {as' : Array Value} {own : String} {index : Nat} (X : Stand p l e R s m args below meth c T locs cells slots) (hx : p.tables.exec = Jvm.exec) (hZ : Z.Warmed39 s.vm) (hown : s.vm.findClass own = some m.cls)
    (w1 : (Jvm.Cond.methodLink own index y).before a0 Z = true) (w2 : (Jvm.Cond.instanceMethod y).before a0 Z = true) (w3 : (Jvm.Cond.initialized y.cls).before a0 Z = true) (w4 : (Jvm.Cond.code y bytes maxL none).before a0 Z = true) (hM : own_Met l Z h y bytes maxL none rm as' Q) (W : Nat) (nc ns : Nat) (hnc : rm.cells = nc) (hns : rm.slots = ns) (hy1 : y.name = "<init>")
    (hy : y.cls ≠ "java/lang/invoke/MethodHandle" ∧ y.cls ≠ "java/lang/invoke/VarHandle") (hf : rm.frames + 1 ≤ R.frames) (hl : W + (maxL + 11) + rm.locals ≤ R.locals) (hc : cells + nc ≤ R.cells) (hs : slots + ns ≤ R.slots) (eT : T.heap = h) {g : JFrame} (hg : g.method = m) (hsize : g.locals.size = c.maxLocals)
    (a : Addr) (argsL rest : List Value) (hlen : ∀ sig, parseMethodDescriptor y.desc = some sig → argsL.length = sig.parameters.length) (hstack : g.stack = argsL.reverse ++ .ref a :: rest) (has : (Value.ref a :: argsL).toArray = as') (hW : 2 * g.monitorRoom + (rest.map fun v => v.category).sum ≤ W) (hdg : decode c.code g.pc = .ok (.invokespecial index, 3)) :
    ∃ v T' L, Stand p l e R s m args below meth c T' (locs ++ L) (cells + nc) (slots + ns) ∧ Q v T'.heap L ∧ ∀ target, Steps p.tables e below (T'.setTop { g with pc := g.pc + 3, stack := v.toList ++ rest }) target → Steps p.tables e below (T.setTop g) target := by
  subst hnc hns
  obtain ⟨v, _, ⟨T', L', k', n'⟩, -, X', ⟨L, hQ, h1, h2, h3⟩, st⟩ := X.specialBack hx hy1 hown (mvT hZ w1) (mvT hZ w2) (mvT hZ w4) hy (backOf (W := W) hM hZ w4 w3 hf hl) hg hsize (Steps.refl _) (a := a) (argsL := argsL) (rest := rest) hlen hstack hW hdg (fun _ _ => ⟨has, eT, hc, hs⟩)
  dsimp only [Pt.U, Pt.locs, Pt.cells, Pt.slots] at X' hQ h1 h2 h3 st
  subst h1 h2 h3
  exact ⟨v, T', L, X', hQ, fun _ k => st.trans k⟩
theorem own_callV {y z : MethodName} {bytes : ByteArray} {maxL : Nat} {ret : Option FieldType} {rm : Room} {as' : Array Value} {own C : String} {index : Nat} (X : Stand p l e R s m args below meth c T locs cells slots) (hx : p.tables.exec = Jvm.exec) (hZ : Z.Warmed39 s.vm) (hown : s.vm.findClass own = some m.cls)
    (w1 : (Jvm.Cond.methodLink own index y).before a0 Z = true) (wd : (Jvm.Cond.declares y).before a0 Z = true) (nf : NotFace s y) (wsel : (Jvm.Cond.selects C y z).before a0 Z = true) (w2 : (Jvm.Cond.instanceMethod z).before a0 Z = true) (w3 : (Jvm.Cond.initialized z.cls).before a0 Z = true) (w4 : (Jvm.Cond.code z bytes maxL ret).before a0 Z = true) (hM : own_Met l Z h z bytes maxL ret rm as' Q) (W : Nat) (nc ns : Nat) (hnc : rm.cells = nc) (hns : rm.slots = ns)
    (hy : y.cls ≠ "java/lang/invoke/MethodHandle" ∧ y.cls ≠ "java/lang/invoke/VarHandle") (hf : rm.frames + 1 ≤ R.frames) (hl : W + (maxL + 11) + rm.locals ≤ R.locals) (hc : cells + nc ≤ R.cells) (hs : slots + ns ≤ R.slots) (eT : T.heap = h) {a : Addr} (E : Exa Z h a C) {g : JFrame} (hg : g.method = m) (hsize : g.locals.size = c.maxLocals)
    (argsL rest : List Value) (hlen : ∀ sig, parseMethodDescriptor y.desc = some sig → argsL.length = sig.parameters.length) (hstack : g.stack = argsL.reverse ++ .ref a :: rest) (has : (Value.ref a :: argsL).toArray = as') (hW : 2 * g.monitorRoom + (rest.map fun v => v.category).sum ≤ W) (hdg : decode c.code g.pc = .ok (.invokevirtual index, 3)) :
    ∃ v T' L, Stand p l e R s m args below meth c T' (locs ++ L) (cells + nc) (slots + ns) ∧ Q v T'.heap L ∧ ∀ target, Steps p.tables e below (T'.setTop { g with pc := g.pc + 3, stack := v.toList ++ rest }) target → Steps p.tables e below (T.setTop g) target := by
  subst hnc hns
  obtain ⟨cq, kq, qa, qb, qc⟩ := isOf hZ eT E
  obtain ⟨v, _, ⟨T', L', k', n'⟩, -, X', ⟨L, hQ, h1, h2, h3⟩, st⟩ := X.virtualBack hx hown (mvT hZ w1) (mvT hZ wd) nf (mvT hZ wsel) (mvT hZ w2) hy (backOf (W := W) hM hZ w4 w3 hf hl) qa qc hg hsize (Steps.refl _) (argsL := argsL) (rest := rest) hlen hstack hW hdg (fun _ _ => ⟨has, eT, hc, hs⟩)
  dsimp only [Pt.U, Pt.locs, Pt.cells, Pt.slots] at X' hQ h1 h2 h3 st
  subst h1 h2 h3
  exact ⟨v, T', L, X', hQ, fun _ k => st.trans k⟩
theorem own_callP {y : MethodName} {bytes : ByteArray} {maxL : Nat} {ret : Option FieldType} {rm : Room} {as' : Array Value} {own C : String} {index : Nat} (X : Stand p l e R s m args below meth c T locs cells slots) (hx : p.tables.exec = Jvm.exec) (hZ : Z.Warmed39 s.vm) (hown : s.vm.findClass own = some m.cls)
    (w1 : (Jvm.Cond.methodLink own index y).before a0 Z = true) (w2 : (Jvm.Cond.instanceMethod y).before a0 Z = true) (wsel : (Jvm.Cond.selects y.cls y y).before a0 Z = true) (wp : (Jvm.Cond.privateMethod y).before a0 Z = true) (w3 : (Jvm.Cond.initialized y.cls).before a0 Z = true) (w4 : (Jvm.Cond.code y bytes maxL ret).before a0 Z = true) (hM : own_Met l Z h y bytes maxL ret rm as' Q) (W : Nat) (nc ns : Nat) (hnc : rm.cells = nc) (hns : rm.slots = ns)
    (hy : y.cls ≠ "java/lang/invoke/MethodHandle" ∧ y.cls ≠ "java/lang/invoke/VarHandle") (hf : rm.frames + 1 ≤ R.frames) (hl : W + (maxL + 11) + rm.locals ≤ R.locals) (hc : cells + nc ≤ R.cells) (hs : slots + ns ≤ R.slots) (eT : T.heap = h) {a : Addr} (E : Exa Z h a C) {g : JFrame} (hg : g.method = m) (hsize : g.locals.size = c.maxLocals)
    (argsL rest : List Value) (hlen : ∀ sig, parseMethodDescriptor y.desc = some sig → argsL.length = sig.parameters.length) (hstack : g.stack = argsL.reverse ++ .ref a :: rest) (has : (Value.ref a :: argsL).toArray = as') (hW : 2 * g.monitorRoom + (rest.map fun v => v.category).sum ≤ W) (hdg : decode c.code g.pc = .ok (.invokevirtual index, 3)) :
    ∃ v T' L, Stand p l e R s m args below meth c T' (locs ++ L) (cells + nc) (slots + ns) ∧ Q v T'.heap L ∧ ∀ target, Steps p.tables e below (T'.setTop { g with pc := g.pc + 3, stack := v.toList ++ rest }) target → Steps p.tables e below (T.setTop g) target := by
  subst hnc hns
  obtain ⟨cq, q1, q2⟩ := E.cell
  obtain ⟨v, _, ⟨T', L', k', n'⟩, -, X', ⟨L, hQ, h1, h2, h3⟩, st⟩ := X.privateBack hx hown (mvT hZ w1) (mvT hZ w2) (mvT hZ wsel) (Cond.privateMethod_at (mvP hZ wp (args := #[]))) (mvT hZ w4) hy (backOf (W := W) hM hZ w4 w3 hf hl) hg hsize (Steps.refl _) (a := a) (by rw [eT]; exact q1) q2 (argsL := argsL) (rest := rest) hlen hstack hW hdg (fun _ _ => ⟨has, eT, hc, hs⟩)
  dsimp only [Pt.U, Pt.locs, Pt.cells, Pt.slots] at X' hQ h1 h2 h3 st
  subst h1 h2 h3
  exact ⟨v, T', L, X', hQ, fun _ k => st.trans k⟩
theorem own_callF {xi y : MethodName} {bytes : ByteArray} {maxL : Nat} {ret : Option FieldType} {rm : Room} {as' : Array Value} {own C : String} {index count : Nat} (X : Stand p l e R s m args below meth c T locs cells slots) (hx : p.tables.exec = Jvm.exec) (hZ : Z.Warmed39 s.vm) (hown : s.vm.findClass own = some m.cls)
    (w1 : (Jvm.Cond.methodLink own index xi).before a0 Z = true) (wd : (Jvm.Cond.declares xi).before a0 Z = true) (wfa : (Jvm.Cond.interfaceMethod xi.cls xi.cls xi.name xi.desc).before a0 Z = true) (wsel : (Jvm.Cond.selects C xi y).before a0 Z = true) (w2 : (Jvm.Cond.instanceMethod y).before a0 Z = true) (wp : (Jvm.Cond.publicMethod y).before a0 Z = true) (wu : (Jvm.Cond.unhidden C xi.name xi.desc).before a0 Z = true) (wk : (Jvm.Cond.castable C xi.cls).before a0 Z = true) (w3 : (Jvm.Cond.initialized y.cls).before a0 Z = true) (w4 : (Jvm.Cond.code y bytes maxL ret).before a0 Z = true) (hfk : ((Jvm.Cond.interfaceMethod xi.cls xi.cls xi.name xi.desc).onTables && (Jvm.Cond.interfaceMethod xi.cls xi.cls xi.name xi.desc).keepsFace) = true) (hM : own_Met l Z h y bytes maxL ret rm as' Q) (W : Nat) (nc ns : Nat) (hnc : rm.cells = nc) (hns : rm.slots = ns)
    (hy : xi.cls ≠ "java/lang/invoke/MethodHandle" ∧ xi.cls ≠ "java/lang/invoke/VarHandle") (hf : rm.frames + 1 ≤ R.frames) (hl : W + (maxL + 11) + rm.locals ≤ R.locals) (hc : cells + nc ≤ R.cells) (hs : slots + ns ≤ R.slots) (eT : T.heap = h) {a : Addr} (E : Exa Z h a C) {g : JFrame} (hg : g.method = m) (hsize : g.locals.size = c.maxLocals)
    (argsL rest : List Value) (hlen : ∀ sig, parseMethodDescriptor xi.desc = some sig → argsL.length = sig.parameters.length) (hstack : g.stack = argsL.reverse ++ .ref a :: rest) (has : (Value.ref a :: argsL).toArray = as') (hW : 2 * g.monitorRoom + (rest.map fun v => v.category).sum ≤ W) (hdg : decode c.code g.pc = .ok (.invokeinterface index count, 5)) :
    ∃ v T' L, Stand p l e R s m args below meth c T' (locs ++ L) (cells + nc) (slots + ns) ∧ Q v T'.heap L ∧ ∀ target, Steps p.tables e below (T'.setTop { g with pc := g.pc + 5, stack := v.toList ++ rest }) target → Steps p.tables e below (T.setTop g) target := by
  subst hnc hns
  obtain ⟨cq, kq, qa, qb, qc⟩ := isOf hZ eT E
  obtain ⟨v, _, ⟨T', L', k', n'⟩, -, X', ⟨L, hQ, h1, h2, h3⟩, st⟩ := X.interfaceBack hx hown (mvT hZ w1) (mvT hZ wd) (mvT hZ wfa hfk) (mvT hZ wsel) (mvT hZ w2) (mvT hZ wp) (mvT hZ wu) (mvT hZ wk) hy (backOf (W := W) hM hZ w4 w3 hf hl) qa qb qc hg hsize (Steps.refl _) (argsL := argsL) (rest := rest) hlen hstack hW hdg (fun _ _ => ⟨has, eT, hc, hs⟩)
  dsimp only [Pt.U, Pt.locs, Pt.cells, Pt.slots] at X' hQ h1 h2 h3 st
  subst h1 h2 h3
  exact ⟨v, T', L, X', hQ, fun _ k => st.trans k⟩
theorem own_callU {y z : MethodName} {bytes : ByteArray} {maxL : Nat} {ret : Option FieldType} {rm : Room} {as' : Array Value} {own owner C : String} {index : Nat} (X : Stand p l e R s m args below meth c T locs cells slots) (hx : p.tables.exec = Jvm.exec) (hZ : Z.Warmed39 s.vm) (hown : s.vm.findClass own = some m.cls)
    (w1 : (Jvm.Cond.methodLink own index y).before a0 Z = true) (wsm : (Jvm.Cond.sameMethod y.cls owner y.name y.desc).before a0 Z = true) (wd : (Jvm.Cond.declares ⟨owner, y.name, y.desc⟩).before a0 Z = true) (wsel : (Jvm.Cond.selects C y z).before a0 Z = true) (w2 : (Jvm.Cond.instanceMethod z).before a0 Z = true) (w3 : (Jvm.Cond.initialized z.cls).before a0 Z = true) (w4 : (Jvm.Cond.code z bytes maxL ret).before a0 Z = true) (hM : own_Met l Z h z bytes maxL ret rm as' Q) (W : Nat) (nc ns : Nat) (hnc : rm.cells = nc) (hns : rm.slots = ns)
    (howner : owner ≠ "java/lang/invoke/MethodHandle" ∧ owner ≠ "java/lang/invoke/VarHandle") (hf : rm.frames + 1 ≤ R.frames) (hl : W + (maxL + 11) + rm.locals ≤ R.locals) (hc : cells + nc ≤ R.cells) (hs : slots + ns ≤ R.slots) (eT : T.heap = h) {a : Addr} (E : Exa Z h a C) {g : JFrame} (hg : g.method = m) (hsize : g.locals.size = c.maxLocals)
    (argsL rest : List Value) (hlen : ∀ sig, parseMethodDescriptor y.desc = some sig → argsL.length = sig.parameters.length) (hstack : g.stack = argsL.reverse ++ .ref a :: rest) (has : (Value.ref a :: argsL).toArray = as') (hW : 2 * g.monitorRoom + (rest.map fun v => v.category).sum ≤ W) (hdg : decode c.code g.pc = .ok (.invokevirtual index, 3)) :
    ∃ v T' L, Stand p l e R s m args below meth c T' (locs ++ L) (cells + nc) (slots + ns) ∧ Q v T'.heap L ∧ ∀ target, Steps p.tables e below (T'.setTop { g with pc := g.pc + 3, stack := v.toList ++ rest }) target → Steps p.tables e below (T.setTop g) target := by
  subst hnc hns
  obtain ⟨cq, kq, qa, qb, qc⟩ := isOf hZ eT E
  obtain ⟨v, _, ⟨T', L', k', n'⟩, -, X', ⟨L, hQ, h1, h2, h3⟩, st⟩ := X.virtualBackUp hx hown (mvT hZ w1) (mvT hZ wsm) (mvT hZ wd) howner (mvT hZ wsel) (mvT hZ w2) (backOf (W := W) hM hZ w4 w3 hf hl) qa qc hg hsize (Steps.refl _) (argsL := argsL) (rest := rest) hlen hstack hW hdg (fun _ _ => ⟨has, eT, hc, hs⟩)
  dsimp only [Pt.U, Pt.locs, Pt.cells, Pt.slots] at X' hQ h1 h2 h3 st
  subst h1 h2 h3
  exact ⟨v, T', L, X', hQ, fun _ k => st.trans k⟩
/-- the start's heap stands in h unchanged -/
theorem own_oldExt {h' : Heap} (O : Ext Z.heap h) (E : Ext h h') : Ext Z.heap h' := ⟨Nat.le_trans O.1 E.1, fun x c q => E.2 x c (O.2 x c q)⟩
theorem own_oldKeep {h' : Heap} {ws : List Addr} (O : Ext Z.heap h) (K : Keep h h' ws) (q : ∀ x ∈ ws, Z.heap.size ≤ x) : Ext Z.heap h' :=
  ⟨Nat.le_trans O.1 K.1, fun x c r => K.2.1 x c (O.2 x c r) fun z => absurd (Array.getElem?_eq_some_iff.mp r).1 (Nat.not_lt.mpr (q x z))⟩
theorem own_oldWr {h' : Heap} {a : Addr} {sl : Nat} {v : Value} (O : Ext Z.heap h) (W : Wr h h' a sl v) (q : Z.heap.size ≤ a) : Ext Z.heap h' := own_oldKeep O (Keep.of_wr W) (allS q all0)
theorem own_keepTrans {h0 h' : Heap} {ws : List Addr} (K : Keep h0 h ws) (K' : Keep h h' []) : Keep h0 h' ws := K.trans K' fun x q => nomatch q
theorem own_insKeep {h' : Heap} {ws : List Addr} {a : Addr} {C : String} {b : Bool} (F : Ins Z h a C b) (K : Keep h h' ws) : Ins Z h' a C b := by
  obtain ⟨cell, cT, h1, h2, h3⟩ := F
  obtain ⟨c', q1, q2, q3, -⟩ := K.2.2 a cell h1
  exact ⟨c', cT, q1, h2, by rw [q2, q3]; exact h3⟩
theorem own_cat1 {v : Value} (r : v.isRef = true) : v.category = 1 := by cases v <;> simp [Value.isRef, Value.category] at r ⊢
theorem own_fitsRef {v : Value} (t : FieldType) (r : v.isRef = true) (ht : t.isReference = true) : fits t v = true := by
  cases t <;> first | (cases ht; done) | (rcases ref_cases r with rfl | ⟨_, rfl⟩ <;> rfl)
theorem own_narRef {v : Value} (t : FieldType) (r : v.isRef = true) (ht : t.isReference = true) : narrow t v = v := by
  cases t <;> first | (cases ht; done) | (rcases ref_cases r with rfl | ⟨_, rfl⟩ <;> rfl)
theorem own_keepSub {h0 : Heap} {ws ws' : List Addr} (K : Keep h0 h ws) (q : ∀ x ∈ ws, x ∈ ws') : Keep h0 h ws' := ⟨K.1, fun x c r z => K.2.1 x c r fun u => z (q x u), K.2.2⟩
theorem own_neTy {a b : Addr} {k k' : ClassId} {ty ty' : FieldType} {z z' : Int32} {vs vs' : List Value} {d d' : Value} (F : Arv Z h a k ty z vs d) (G : Arv Z h b k' ty' z' vs' d') (hn : ty ≠ ty') : a ≠ b := by
  rintro rfl
  obtain ⟨c, A, -⟩ := F
  obtain ⟨c', A', -⟩ := G
  cases A.1.symm.trans A'.1
  obtain ⟨-, k1, q1, cm1, r1⟩ := A.2.1
  obtain ⟨-, k2, q2, cm2, r2⟩ := A'.2.1
  cases q1.symm.trans q2
  rw [r1] at r2
  cases r2
  exact hn rfl
end OwnKit
theorem own_pd_0 : parseMethodDescriptor "(I)Lcom/example/padlock/padlock/lock/Access;" = some ⟨[.int], some (.object "com/example/padlock/padlock/lock/Access")⟩ := by decide +kernel
theorem own_pd_1 : parseMethodDescriptor "(Lcom/example/padlock/padlock/lock/Access;)Z" = some ⟨[(.object "com/example/padlock/padlock/lock/Access")], some .boolean⟩ := by decide +kernel
theorem own_pn_0 : plainName "com/example/padlock/padlock/lock/AccessConflictsWithPinLaw" = true := by first | (simp [plainName, overriddenIn]; done) | decide +kernel
theorem own_pn_1 : plainName "com/example/padlock/padlock/lock/Access" = true := by first | (simp [plainName, overriddenIn]; done) | decide +kernel
theorem own_neOrd {args : Array Value} {s : State} {t1 t2 : Term} {wx wy : Addr} {C f : String} (n3 : (Jvm.Cond.eq (Term.field t1 C f "I") (Term.int 0)).value args s none s [] = some true) (n4 : (Jvm.Cond.eq (Term.field t2 C f "I") (Term.int 1)).value args s none s [] = some true)
    (e1 : t1.eval args s none [] s = some (.ref wx)) (e2 : t2.eval args s none [] s = some (.ref wy)) : wx ≠ wy := by
  rintro rfl
  have h1 := (fld_at e1).symm.trans (eqv_i (Term.int_eval 0) n3)
  have h2 := (fld_at e2).symm.trans (eqv_i (Term.int_eval 1) n4)
  rw [h1] at h2
  revert h2; decide
theorem d1_0 : decode method_2_code 0 = .ok (.iload_n 0, 1) := by decide +kernel
theorem d1_1 : decode method_2_code 1 = .ok (.iconst 1, 1) := by decide +kernel
theorem d1_2 : decode method_2_code 2 = .ok (.iand, 1) := by decide +kernel
theorem d1_3 : decode method_2_code 3 = .ok (.ifCond .ne 7, 3) := by decide +kernel
theorem d1_6 : decode method_2_code 6 = .ok (.getstatic 7, 3) := by decide +kernel
theorem d1_9 : decode method_2_code 9 = .ok (.areturn, 1) := by decide +kernel
theorem d1_10 : decode method_2_code 10 = .ok (.getstatic 13, 3) := by decide +kernel
theorem d1_13 : decode method_2_code 13 = .ok (.areturn, 1) := by decide +kernel
def Q_pick (Z : State) (wx : Addr) (wy : Addr) (p1 : Int32) (h0 : Heap) (v : Option Value) (h : Heap) (L : List Loc) : Prop := (v = some (.ref wx) ∧ Fr Z.heap.size L ∧ (p1 &&& (1 : Int32)) = (0 : Int32) ∧ h = h0) ∨ (v = some (.ref wy) ∧ Fr Z.heap.size L ∧ ¬ ((p1 &&& (1 : Int32)) = (0 : Int32)) ∧ h = h0)
theorem ef_pick (m : MethodId) (x0 : Int32) : entryFrame m #[(.int x0)] 1 = mkF m 0 #[.val (.int x0)] [] := by first | (simp [entryFrame, mkF, argsToLocals, Value.category]; done) | rfl
set_option maxRecDepth 65536 in
set_option maxHeartbeats 40000000 in
theorem rm_pick (l : Launch) (Z : State) (a0 : Array Value) (hw : ∀ d ∈ tables_1, d.before a0 Z = true) {wx : Addr} {wy : Addr} (oEx : Sta Z Z.heap "com/example/padlock/padlock/lock/Access" "EXCLUSIVE" "Lcom/example/padlock/padlock/lock/Access;" (.ref wx)) (oSh : Sta Z Z.heap "com/example/padlock/padlock/lock/Access" "SHARED" "Lcom/example/padlock/padlock/lock/Access;" (.ref wy)) (oE1 : Exa Z Z.heap wx "com/example/padlock/padlock/lock/Access") (oE2 : Exa Z Z.heap wy "com/example/padlock/padlock/lock/Access") (oNe : wx ≠ wy) (ws : List Jvm.Cond) (p1 : Int32) (h0 : Heap) (O0 : Ext Z.heap h0) :
    MetFree l (⟨"com/example/padlock/padlock/lock/AccessConflictsWithPinLaw", "pick", "(I)Lcom/example/padlock/padlock/lock/Access;"⟩ : MethodName) (head1 (Jvm.Cond.code (⟨"com/example/padlock/padlock/lock/AccessConflictsWithPinLaw", "pick", "(I)Lcom/example/padlock/padlock/lock/Access;"⟩ : MethodName) method_2_code 1 (some (.object "com/example/padlock/padlock/lock/Access")) :: ws) ({ frames := 0, cells := 0, slots := 0, locals := 0 } : Room)) (fun a U => a = #[(.int p1)] ∧ Z.Warmed39 U.vm ∧ U.heap = h0) (fun _ _ _ _ _ => True) (fun _ U o U' => ∃ v L, o = .returned v ∧ (Q_pick Z wx wy p1 h0) v U'.heap L ∧ FrameEnd U o U' L ({ frames := 0, cells := 0, slots := 0, locals := 0 } : Room).cells ({ frames := 0, cells := 0, slots := 0, locals := 0 } : Room).slots) := by
  refine own_met (Q := (Q_pick Z wx wy p1 h0)) _ _ (plainFor_of_name own_pn_0) ?_
  intro p e s m below meth c T X0 hx hby hml hret hlk hZ hown hnm e0
  replace hown : s.vm.findClass "com/example/padlock/padlock/lock/AccessConflictsWithPinLaw" = some m.cls := hown
  replace hnm : meth.name = "pick" := hnm
  have hml : c.maxLocals = 1 := hml
  have N0 := Fr.nil Z.heap.size
  have K0 := Keep.refl h0 []
  refine own_go (fun _ k => castTop (ef_pick m p1) k) ?_
  show own_Go p e below s _ _ _ (T.setTop (mkF m 0 #[.val (.int p1)] []))
  refine own_go (fun _ k => XS.iloadN X0.here hx rfl (hb hby d1_0) rfl k) ?_
  show own_Go p e below s _ _ _ (T.setTop (mkF m 1 #[.val (.int p1)] [(.int p1)]))
  refine own_go (fun _ k => XS.iconst X0.here hx rfl (hb hby d1_1) k) ?_
  show own_Go p e below s _ _ _ (T.setTop (mkF m 2 #[.val (.int p1)] [(.int (1 : Int32)), (.int p1)]))
  refine own_go (fun _ k => XS.iand X0.here hx rfl (hb hby d1_2) rfl k) ?_
  show own_Go p e below s _ _ _ (T.setTop (mkF m 3 #[.val (.int p1)] [(.int (p1 &&& (1 : Int32)))]))
  by_cases hc1 : (p1 &&& (1 : Int32)) = (0 : Int32)
  · refine own_go (fun _ k => XS.ifNo X0.here hx rfl (hb hby d1_3) rfl ((if0 _ _).trans (teq hc1).2) k) ?_
    show own_Go p e below s _ _ _ (T.setTop (mkF m 6 #[.val (.int p1)] []))
    obtain ⟨T2, X2, e2, st2⟩ := getS2 X0 hx hZ hown (host := "") (Or.inl (hw _ (List.mem_of_getElem? (i := 4) rfl))) Via.refl e0 (oEx.ext O0) (g := (mkF m 6 #[.val (.int p1)] [])) rfl (hb hby d1_6)
    refine own_go st2 ?_
    show own_Go p e below s _ _ _ (T2.setTop (mkF m 9 #[.val (.int p1)] [(.ref wx)]))
    refine own_retA X2 hx hlk e2 hret rfl rfl (hb hby d1_9) (by show _ ≤ 0; omega) (by show _ ≤ 0; omega) ?_
    exact Or.inl ⟨rfl, N0, hc1, rfl⟩
  · refine own_go (fun _ k => XS.ifYes X0.here hx rfl (pc0 := 3) (pc' := 10) rfl (hb hby d1_3) rfl ((if0 _ _).trans (feq hc1).2) (by decide) (by decide) k) ?_
    show own_Go p e below s _ _ _ (T.setTop (mkF m 10 #[.val (.int p1)] []))
    obtain ⟨T3, X3, e3, st3⟩ := getS2 X0 hx hZ hown (host := "") (Or.inl (hw _ (List.mem_of_getElem? (i := 7) rfl))) Via.refl e0 (oSh.ext O0) (g := (mkF m 10 #[.val (.int p1)] [])) rfl (hb hby d1_10)
    refine own_go st3 ?_
    show own_Go p e below s _ _ _ (T3.setTop (mkF m 13 #[.val (.int p1)] [(.ref wy)]))
    refine own_retA X3 hx hlk e3 hret rfl rfl (hb hby d1_13) (by show _ ≤ 0; omega) (by show _ ≤ 0; omega) ?_
    exact Or.inr (⟨rfl, N0, hc1, rfl⟩)
theorem d2_0 : decode prog_5_method_7_code 0 = .ok (.aload_n 0, 1) := by decide +kernel
theorem d2_1 : decode prog_5_method_7_code 1 = .ok (.getstatic 3, 3) := by decide +kernel
theorem d2_4 : decode prog_5_method_7_code 4 = .ok (.if_acmp .eq 10, 3) := by decide +kernel
theorem d2_7 : decode prog_5_method_7_code 7 = .ok (.aload_n 1, 1) := by decide +kernel
theorem d2_8 : decode prog_5_method_7_code 8 = .ok (.getstatic 3, 3) := by decide +kernel
theorem d2_11 : decode prog_5_method_7_code 11 = .ok (.if_acmp .ne 7, 3) := by decide +kernel
theorem d2_14 : decode prog_5_method_7_code 14 = .ok (.iconst 1, 1) := by decide +kernel
theorem d2_15 : decode prog_5_method_7_code 15 = .ok (.goto 4, 3) := by decide +kernel
theorem d2_18 : decode prog_5_method_7_code 18 = .ok (.iconst 0, 1) := by decide +kernel
theorem d2_19 : decode prog_5_method_7_code 19 = .ok (.ireturn, 1) := by decide +kernel
def Q_cf (Z : State) (wx : Addr) (wy : Addr) (a1 : Addr) (a2 : Addr) (h0 : Heap) (v : Option Value) (h : Heap) (L : List Loc) : Prop := (v = some (.int (1 : Int32)) ∧ Fr Z.heap.size L ∧ a1 = wx ∧ h = h0) ∨ (v = some (.int (1 : Int32)) ∧ Fr Z.heap.size L ∧ ¬ (a1 = wx) ∧ a2 = wx ∧ h = h0) ∨ (v = some (.int (0 : Int32)) ∧ Fr Z.heap.size L ∧ ¬ (a1 = wx) ∧ ¬ (a2 = wx) ∧ h = h0)
theorem ef_cf (m : MethodId) (x0 : Addr) (x1 : Addr) : entryFrame m #[(.ref x0), (.ref x1)] 2 = mkF m 0 #[.val (.ref x0), .val (.ref x1)] [] := by first | (simp [entryFrame, mkF, argsToLocals, Value.category]; done) | rfl
set_option maxRecDepth 65536 in
set_option maxHeartbeats 40000000 in
theorem rm_cf (l : Launch) (Z : State) (a0 : Array Value) (hw : ∀ d ∈ tables_1, d.before a0 Z = true) {wx : Addr} {wy : Addr} (oEx : Sta Z Z.heap "com/example/padlock/padlock/lock/Access" "EXCLUSIVE" "Lcom/example/padlock/padlock/lock/Access;" (.ref wx)) (oSh : Sta Z Z.heap "com/example/padlock/padlock/lock/Access" "SHARED" "Lcom/example/padlock/padlock/lock/Access;" (.ref wy)) (oE1 : Exa Z Z.heap wx "com/example/padlock/padlock/lock/Access") (oE2 : Exa Z Z.heap wy "com/example/padlock/padlock/lock/Access") (oNe : wx ≠ wy) (ws : List Jvm.Cond) (a1 : Addr) (a2 : Addr) (h0 : Heap) (O0 : Ext Z.heap h0) :
    MetFree l (⟨"com/example/padlock/padlock/lock/Access", "conflictsWith", "(Lcom/example/padlock/padlock/lock/Access;)Z"⟩ : MethodName) (head1 (Jvm.Cond.code (⟨"com/example/padlock/padlock/lock/Access", "conflictsWith", "(Lcom/example/padlock/padlock/lock/Access;)Z"⟩ : MethodName) prog_5_method_7_code 2 (some .boolean) :: ws) ({ frames := 0, cells := 0, slots := 0, locals := 0 } : Room)) (fun a U => a = #[(.ref a1), (.ref a2)] ∧ Z.Warmed39 U.vm ∧ U.heap = h0) (fun _ _ _ _ _ => True) (fun _ U o U' => ∃ v L, o = .returned v ∧ (Q_cf Z wx wy a1 a2 h0) v U'.heap L ∧ FrameEnd U o U' L ({ frames := 0, cells := 0, slots := 0, locals := 0 } : Room).cells ({ frames := 0, cells := 0, slots := 0, locals := 0 } : Room).slots) := by
  refine own_met (Q := (Q_cf Z wx wy a1 a2 h0)) _ _ (plainFor_of_name own_pn_1) ?_
  intro p e s m below meth c T X0 hx hby hml hret hlk hZ hown hnm e0
  replace hown : s.vm.findClass "com/example/padlock/padlock/lock/Access" = some m.cls := hown
  replace hnm : meth.name = "conflictsWith" := hnm
  have hml : c.maxLocals = 2 := hml
  have N0 := Fr.nil Z.heap.size
  have K0 := Keep.refl h0 []
  refine own_go (fun _ k => castTop (ef_cf m a1 a2) k) ?_
  show own_Go p e below s _ _ _ (T.setTop (mkF m 0 #[.val (.ref a1), .val (.ref a2)] []))
  refine own_go (fun _ k => XS.aloadN X0.here hx rfl (hb hby d2_0) rfl rfl k) ?_
  show own_Go p e below s _ _ _ (T.setTop (mkF m 1 #[.val (.ref a1), .val (.ref a2)] [(.ref a1)]))
  obtain ⟨T1, X1, e1, st1⟩ := getS2 X0 hx hZ hown (host := "") (Or.inl (hw _ (List.mem_of_getElem? (i := 14) rfl))) Via.refl e0 (oEx.ext O0) (g := (mkF m 1 #[.val (.ref a1), .val (.ref a2)] [(.ref a1)])) rfl (hb hby d2_1)
  refine own_go st1 ?_
  show own_Go p e below s _ _ _ (T1.setTop (mkF m 4 #[.val (.ref a1), .val (.ref a2)] [(.ref wx), (.ref a1)]))
  by_cases hc2 : a1 = wx
  · refine own_go (fun _ k => Jvm.RoadKit.acmp (g := (mkF m 4 #[.val (.ref a1), .val (.ref a2)] [(.ref wx), (.ref a1)])) X1 hx rfl rfl rfl (pc0 := 4) (pc' := 14) (same := true) rfl (hb hby d2_4) rfl (decide_eq_true (congrArg Value.ref hc2)) (by decide) (by decide) k) ?_
    show own_Go p e below s _ _ _ (T1.setTop (mkF m 14 #[.val (.ref a1), .val (.ref a2)] []))
    refine own_go (fun _ k => XS.iconst X1.here hx rfl (hb hby d2_14) k) ?_
    show own_Go p e below s _ _ _ (T1.setTop (mkF m 15 #[.val (.ref a1), .val (.ref a2)] [(.int (1 : Int32))]))
    refine own_go (fun _ k => XS.goto X1.here hx rfl (pc0 := 15) (pc' := 19) rfl (hb hby d2_15) (by decide) (by decide) k) ?_
    show own_Go p e below s _ _ _ (T1.setTop (mkF m 19 #[.val (.ref a1), .val (.ref a2)] [(.int (1 : Int32))]))
    refine own_retN X1 hx hlk e1 (t := .boolean) hret (by simp) (hb hby d2_19) (by show _ ≤ 0; omega) (by show _ ≤ 0; omega) ?_
    exact Or.inl ⟨rfl, N0, hc2, rfl⟩
  · refine own_go (fun _ k => Jvm.RoadKit.acmp (g := (mkF m 4 #[.val (.ref a1), .val (.ref a2)] [(.ref wx), (.ref a1)])) X1 hx rfl rfl rfl (pc0 := 4) (pc' := 7) (same := false) rfl (hb hby d2_4) rfl (decide_eq_false fun q => hc2 (Value.ref.inj q)) (by decide) (by decide) k) ?_
    show own_Go p e below s _ _ _ (T1.setTop (mkF m 7 #[.val (.ref a1), .val (.ref a2)] []))
    refine own_go (fun _ k => XS.aloadN X1.here hx rfl (hb hby d2_7) rfl rfl k) ?_
    show own_Go p e below s _ _ _ (T1.setTop (mkF m 8 #[.val (.ref a1), .val (.ref a2)] [(.ref a2)]))
    obtain ⟨T3, X3, e3, st3⟩ := getS2 X1 hx hZ hown (host := "") (Or.inl (hw _ (List.mem_of_getElem? (i := 14) rfl))) Via.refl e1 (oEx.ext O0) (g := (mkF m 8 #[.val (.ref a1), .val (.ref a2)] [(.ref a2)])) rfl (hb hby d2_8)
    refine own_go st3 ?_
    show own_Go p e below s _ _ _ (T3.setTop (mkF m 11 #[.val (.ref a1), .val (.ref a2)] [(.ref wx), (.ref a2)]))
    by_cases hc4 : a2 = wx
    · refine own_go (fun _ k => Jvm.RoadKit.acmp (g := (mkF m 11 #[.val (.ref a1), .val (.ref a2)] [(.ref wx), (.ref a2)])) X3 hx rfl rfl rfl (pc0 := 11) (pc' := 14) (same := true) rfl (hb hby d2_11) rfl (decide_eq_true (congrArg Value.ref hc4)) (by decide) (by decide) k) ?_
      show own_Go p e below s _ _ _ (T3.setTop (mkF m 14 #[.val (.ref a1), .val (.ref a2)] []))
      refine own_go (fun _ k => XS.iconst X3.here hx rfl (hb hby d2_14) k) ?_
      show own_Go p e below s _ _ _ (T3.setTop (mkF m 15 #[.val (.ref a1), .val (.ref a2)] [(.int (1 : Int32))]))
      refine own_go (fun _ k => XS.goto X3.here hx rfl (pc0 := 15) (pc' := 19) rfl (hb hby d2_15) (by decide) (by decide) k) ?_
      show own_Go p e below s _ _ _ (T3.setTop (mkF m 19 #[.val (.ref a1), .val (.ref a2)] [(.int (1 : Int32))]))
      refine own_retN X3 hx hlk e3 (t := .boolean) hret (by simp) (hb hby d2_19) (by show _ ≤ 0; omega) (by show _ ≤ 0; omega) ?_
      exact Or.inr (Or.inl ⟨rfl, N0, hc2, hc4, rfl⟩)
    · refine own_go (fun _ k => Jvm.RoadKit.acmp (g := (mkF m 11 #[.val (.ref a1), .val (.ref a2)] [(.ref wx), (.ref a2)])) X3 hx rfl rfl rfl (pc0 := 11) (pc' := 18) (same := false) rfl (hb hby d2_11) rfl (decide_eq_false fun q => hc4 (Value.ref.inj q)) (by decide) (by decide) k) ?_
      show own_Go p e below s _ _ _ (T3.setTop (mkF m 18 #[.val (.ref a1), .val (.ref a2)] []))
      refine own_go (fun _ k => XS.iconst X3.here hx rfl (hb hby d2_18) k) ?_
      show own_Go p e below s _ _ _ (T3.setTop (mkF m 19 #[.val (.ref a1), .val (.ref a2)] [(.int (0 : Int32))]))
      refine own_retN X3 hx hlk e3 (t := .boolean) hret (by simp) (hb hby d2_19) (by show _ ≤ 0; omega) (by show _ ≤ 0; omega) ?_
      exact Or.inr (Or.inr (⟨rfl, N0, hc2, hc4, rfl⟩))
def Q_law (Z : State) (wx : Addr) (wy : Addr) (p1 : Int32) (p2 : Int32) (h0 : Heap) (v : Option Value) (h : Heap) (L : List Loc) : Prop := (v = some (.int (1 : Int32)) ∧ Fr Z.heap.size L ∧ Keep h0 h [])
theorem ef_law (m : MethodId) (x0 : Int32) (x1 : Int32) : entryFrame m #[(.int x0), (.int x1)] maxLocals = mkF m 0 #[.val (.int x0), .val (.int x1), .unset, .unset, .unset, .unset, .unset] [] := by first | (simp [entryFrame, mkF, argsToLocals, Value.category, maxLocals]; done) | rfl
set_option maxRecDepth 65536 in
set_option maxHeartbeats 40000000 in
theorem rm_law (l : Launch) (Z : State) (a0 : Array Value) (hw : ∀ d ∈ tables_1, d.before a0 Z = true) {wx : Addr} {wy : Addr} (oEx : Sta Z Z.heap "com/example/padlock/padlock/lock/Access" "EXCLUSIVE" "Lcom/example/padlock/padlock/lock/Access;" (.ref wx)) (oSh : Sta Z Z.heap "com/example/padlock/padlock/lock/Access" "SHARED" "Lcom/example/padlock/padlock/lock/Access;" (.ref wy)) (oE1 : Exa Z Z.heap wx "com/example/padlock/padlock/lock/Access") (oE2 : Exa Z Z.heap wy "com/example/padlock/padlock/lock/Access") (oNe : wx ≠ wy) (ws : List Jvm.Cond) (p1 : Int32) (p2 : Int32) (h0 : Heap) (O0 : Ext Z.heap h0) :
    MetFree l x (head1 (Jvm.Cond.code x code maxLocals ret :: ws) room_1) (fun a U => a = #[(.int p1), (.int p2)] ∧ Z.Warmed39 U.vm ∧ U.heap = h0) (fun _ _ _ _ _ => True) (fun _ U o U' => ∃ v L, o = .returned v ∧ (Q_law Z wx wy p1 p2 h0) v U'.heap L ∧ FrameEnd U o U' L room_1.cells room_1.slots) := by
  refine own_met (Q := (Q_law Z wx wy p1 p2 h0)) _ _ (plainFor_of_name own_pn_0) ?_
  intro p e s m below meth c T X0 hx hby hml hret hlk hZ hown hnm e0
  replace hown : s.vm.findClass "com/example/padlock/padlock/lock/AccessConflictsWithPinLaw" = some m.cls := hown
  replace hnm : meth.name = "law" := hnm
  have hml : c.maxLocals = 7 := hml
  have N0 := Fr.nil Z.heap.size
  have K0 := Keep.refl h0 []
  refine own_go (fun _ k => castTop (ef_law m p1 p2) k) ?_
  show own_Go p e below s _ _ _ (T.setTop (mkF m 0 #[.val (.int p1), .val (.int p2), .unset, .unset, .unset, .unset, .unset] []))
  refine own_go (fun _ k => XS.iloadN X0.here hx rfl (hb hby at_0) rfl k) ?_
  show own_Go p e below s _ _ _ (T.setTop (mkF m 1 #[.val (.int p1), .val (.int p2), .unset, .unset, .unset, .unset, .unset] [(.int p1)]))
  obtain ⟨v1, T1, L1, X1, hQ1, st1⟩ := own_callS (y := (⟨"com/example/padlock/padlock/lock/AccessConflictsWithPinLaw", "pick", "(I)Lcom/example/padlock/padlock/lock/Access;"⟩ : MethodName)) X0 hx hZ hown (hw _ (List.mem_of_getElem? (i := 0) rfl)) (hw _ (List.mem_of_getElem? (i := 1) rfl)) (hw _ (List.mem_of_getElem? (i := 2) rfl)) (hw _ (List.mem_of_getElem? (i := 3) rfl)) (rm_pick l Z a0 hw oEx oSh oE1 oE2 oNe [] p1 h0 O0) 0 0 0 rfl rfl (by decide) (by decide) (by decide) (by show _ ≤ 0; omega) (by show _ ≤ 0; omega) e0 (g := (mkF m 1 #[.val (.int p1), .val (.int p2), .unset, .unset, .unset, .unset, .unset] [(.int p1)])) rfl (by rw [hml]; rfl) [(.int p1)] [] (lenOf own_pd_0 rfl) rfl rfl (by show 2 * 0 + _ ≤ _; exact Nat.le_of_eq rfl) (hb hby at_1)
  rcases hQ1 with hQ1 | hQ1
  · obtain ⟨rfl, Nc4, hp2, Kc3⟩ := hQ1
    refine own_go st1 ?_
    have N5 := Fr.app N0 Nc4
    show own_Go p e below s _ _ _ (T1.setTop (mkF m 4 #[.val (.int p1), .val (.int p2), .unset, .unset, .unset, .unset, .unset] [(.ref wx)]))
    refine own_go (fun _ k => XS.astoreN X1.here hx rfl (hb hby at_4) rfl rfl (l' := #[.val (.int p1), .val (.int p2), .val (.ref wx), .unset, .unset, .unset, .unset]) rfl k) ?_
    show own_Go p e below s _ _ _ (T1.setTop (mkF m 5 #[.val (.int p1), .val (.int p2), .val (.ref wx), .unset, .unset, .unset, .unset] []))
    refine own_go (fun _ k => XS.iloadN X1.here hx rfl (hb hby at_5) rfl k) ?_
    show own_Go p e below s _ _ _ (T1.setTop (mkF m 6 #[.val (.int p1), .val (.int p2), .val (.ref wx), .unset, .unset, .unset, .unset] [(.int p2)]))
    obtain ⟨v6, T6, L6, X6, hQ6, st6⟩ := own_callS (y := (⟨"com/example/padlock/padlock/lock/AccessConflictsWithPinLaw", "pick", "(I)Lcom/example/padlock/padlock/lock/Access;"⟩ : MethodName)) X1 hx hZ hown (hw _ (List.mem_of_getElem? (i := 0) rfl)) (hw _ (List.mem_of_getElem? (i := 1) rfl)) (hw _ (List.mem_of_getElem? (i := 2) rfl)) (hw _ (List.mem_of_getElem? (i := 3) rfl)) (rm_pick l Z a0 hw oEx oSh oE1 oE2 oNe [] p2 h0 O0) 0 0 0 rfl rfl (by decide) (by decide) (by decide) (by show _ ≤ 0; omega) (by show _ ≤ 0; omega) Kc3 (g := (mkF m 6 #[.val (.int p1), .val (.int p2), .val (.ref wx), .unset, .unset, .unset, .unset] [(.int p2)])) rfl (by rw [hml]; rfl) [(.int p2)] [] (lenOf own_pd_0 rfl) rfl rfl (by show 2 * 0 + _ ≤ _; exact Nat.le_of_eq rfl) (hb hby at_6)
    rcases hQ6 with hQ6 | hQ6
    · obtain ⟨rfl, Nc9, hp7, Kc8⟩ := hQ6
      refine own_go st6 ?_
      have N10 := Fr.app N5 Nc9
      show own_Go p e below s _ _ _ (T6.setTop (mkF m 9 #[.val (.int p1), .val (.int p2), .val (.ref wx), .unset, .unset, .unset, .unset] [(.ref wx)]))
      refine own_go (fun _ k => XS.astoreN X6.here hx rfl (hb hby at_9) rfl rfl (l' := #[.val (.int p1), .val (.int p2), .val (.ref wx), .val (.ref wx), .unset, .unset, .unset]) rfl k) ?_
      show own_Go p e below s _ _ _ (T6.setTop (mkF m 10 #[.val (.int p1), .val (.int p2), .val (.ref wx), .val (.ref wx), .unset, .unset, .unset] []))
      refine own_go (fun _ k => XS.aloadN X6.here hx rfl (hb hby at_10) rfl rfl k) ?_
      show own_Go p e below s _ _ _ (T6.setTop (mkF m 11 #[.val (.int p1), .val (.int p2), .val (.ref wx), .val (.ref wx), .unset, .unset, .unset] [(.ref wx)]))
      obtain ⟨T11, X11, e11, st11⟩ := getS2 X6 hx hZ hown (host := "") (Or.inl (hw _ (List.mem_of_getElem? (i := 7) rfl))) Via.refl Kc8 (oSh.ext O0) (g := (mkF m 11 #[.val (.int p1), .val (.int p2), .val (.ref wx), .val (.ref wx), .unset, .unset, .unset] [(.ref wx)])) rfl (hb hby at_11)
      refine own_go st11 ?_
      show own_Go p e below s _ _ _ (T11.setTop (mkF m 14 #[.val (.int p1), .val (.int p2), .val (.ref wx), .val (.ref wx), .unset, .unset, .unset] [(.ref wy), (.ref wx)]))
      refine own_go (fun _ k => Jvm.RoadKit.acmp (g := (mkF m 14 #[.val (.int p1), .val (.int p2), .val (.ref wx), .val (.ref wx), .unset, .unset, .unset] [(.ref wy), (.ref wx)])) X11 hx rfl rfl rfl (pc0 := 14) (pc' := 36) (same := false) rfl (hb hby at_14) rfl (decide_eq_false fun q => oNe (Value.ref.inj q)) (by decide) (by decide) k) ?_
      show own_Go p e below s _ _ _ (T11.setTop (mkF m 36 #[.val (.int p1), .val (.int p2), .val (.ref wx), .val (.ref wx), .unset, .unset, .unset] []))
      refine own_go (fun _ k => XS.iconst X11.here hx rfl (hb hby at_36) k) ?_
      show own_Go p e below s _ _ _ (T11.setTop (mkF m 37 #[.val (.int p1), .val (.int p2), .val (.ref wx), .val (.ref wx), .unset, .unset, .unset] [(.int (1 : Int32))]))
      refine own_go (fun _ k => XS.istore X11.here hx rfl (hb hby at_37) rfl (l' := #[.val (.int p1), .val (.int p2), .val (.ref wx), .val (.ref wx), .val (.int (1 : Int32)), .unset, .unset]) rfl k) ?_
      show own_Go p e below s _ _ _ (T11.setTop (mkF m 39 #[.val (.int p1), .val (.int p2), .val (.ref wx), .val (.ref wx), .val (.int (1 : Int32)), .unset, .unset] []))
      refine own_go (fun _ k => XS.aloadN X11.here hx rfl (hb hby at_39) rfl rfl k) ?_
      show own_Go p e below s _ _ _ (T11.setTop (mkF m 40 #[.val (.int p1), .val (.int p2), .val (.ref wx), .val (.ref wx), .val (.int (1 : Int32)), .unset, .unset] [(.ref wx)]))
      refine own_go (fun _ k => XS.aloadN X11.here hx rfl (hb hby at_40) rfl rfl k) ?_
      show own_Go p e below s _ _ _ (T11.setTop (mkF m 41 #[.val (.int p1), .val (.int p2), .val (.ref wx), .val (.ref wx), .val (.int (1 : Int32)), .unset, .unset] [(.ref wx), (.ref wx)]))
      obtain ⟨v12, T12, L12, X12, hQ12, st12⟩ := own_callV (y := (⟨"com/example/padlock/padlock/lock/Access", "conflictsWith", "(Lcom/example/padlock/padlock/lock/Access;)Z"⟩ : MethodName)) (z := (⟨"com/example/padlock/padlock/lock/Access", "conflictsWith", "(Lcom/example/padlock/padlock/lock/Access;)Z"⟩ : MethodName)) X11 hx hZ hown (hw _ (List.mem_of_getElem? (i := 9) rfl)) (hw _ (List.mem_of_getElem? (i := 10) rfl)) (notFace_of_selects (args := #[]) (mvT hZ (hw _ (List.mem_of_getElem? (i := 12) rfl)))) (hw _ (List.mem_of_getElem? (i := 12) rfl)) (hw _ (List.mem_of_getElem? (i := 11) rfl)) (hw _ (List.mem_of_getElem? (i := 5) rfl)) (hw _ (List.mem_of_getElem? (i := 13) rfl)) (rm_cf l Z a0 hw oEx oSh oE1 oE2 oNe [] wx wx h0 O0) 0 0 0 rfl rfl (by decide) (by decide) (by decide) (by show _ ≤ 0; omega) (by show _ ≤ 0; omega) e11 (oE1.ext O0) (g := (mkF m 41 #[.val (.int p1), .val (.int p2), .val (.ref wx), .val (.ref wx), .val (.int (1 : Int32)), .unset, .unset] [(.ref wx), (.ref wx)])) rfl (by rw [hml]; rfl) [(.ref wx)] [] (lenOf own_pd_1 rfl) rfl rfl (by show 2 * 0 + _ ≤ _; exact Nat.le_of_eq rfl) (hb hby at_41)
      rcases hQ12 with hQ12 | hQ12 | hQ12
      · obtain ⟨rfl, Nc15, hp13, Kc14⟩ := hQ12
        refine own_go st12 ?_
        have N16 := Fr.app N10 Nc15
        show own_Go p e below s _ _ _ (T12.setTop (mkF m 44 #[.val (.int p1), .val (.int p2), .val (.ref wx), .val (.ref wx), .val (.int (1 : Int32)), .unset, .unset] [(.int (1 : Int32))]))
        refine own_go (fun _ k => XS.istore X12.here hx rfl (hb hby at_44) rfl (l' := #[.val (.int p1), .val (.int p2), .val (.ref wx), .val (.ref wx), .val (.int (1 : Int32)), .val (.int (1 : Int32)), .unset]) rfl k) ?_
        show own_Go p e below s _ _ _ (T12.setTop (mkF m 46 #[.val (.int p1), .val (.int p2), .val (.ref wx), .val (.ref wx), .val (.int (1 : Int32)), .val (.int (1 : Int32)), .unset] []))
        refine own_go (fun _ k => XS.aloadN X12.here hx rfl (hb hby at_46) rfl rfl k) ?_
        show own_Go p e below s _ _ _ (T12.setTop (mkF m 47 #[.val (.int p1), .val (.int p2), .val (.ref wx), .val (.ref wx), .val (.int (1 : Int32)), .val (.int (1 : Int32)), .unset] [(.ref wx)]))
        refine own_go (fun _ k => XS.aloadN X12.here hx rfl (hb hby at_47) rfl rfl k) ?_
        show own_Go p e below s _ _ _ (T12.setTop (mkF m 48 #[.val (.int p1), .val (.int p2), .val (.ref wx), .val (.ref wx), .val (.int (1 : Int32)), .val (.int (1 : Int32)), .unset] [(.ref wx), (.ref wx)]))
        obtain ⟨v17, T17, L17, X17, hQ17, st17⟩ := own_callV (y := (⟨"com/example/padlock/padlock/lock/Access", "conflictsWith", "(Lcom/example/padlock/padlock/lock/Access;)Z"⟩ : MethodName)) (z := (⟨"com/example/padlock/padlock/lock/Access", "conflictsWith", "(Lcom/example/padlock/padlock/lock/Access;)Z"⟩ : MethodName)) X12 hx hZ hown (hw _ (List.mem_of_getElem? (i := 9) rfl)) (hw _ (List.mem_of_getElem? (i := 10) rfl)) (notFace_of_selects (args := #[]) (mvT hZ (hw _ (List.mem_of_getElem? (i := 12) rfl)))) (hw _ (List.mem_of_getElem? (i := 12) rfl)) (hw _ (List.mem_of_getElem? (i := 11) rfl)) (hw _ (List.mem_of_getElem? (i := 5) rfl)) (hw _ (List.mem_of_getElem? (i := 13) rfl)) (rm_cf l Z a0 hw oEx oSh oE1 oE2 oNe [] wx wx h0 O0) 0 0 0 rfl rfl (by decide) (by decide) (by decide) (by show _ ≤ 0; omega) (by show _ ≤ 0; omega) Kc14 (oE1.ext O0) (g := (mkF m 48 #[.val (.int p1), .val (.int p2), .val (.ref wx), .val (.ref wx), .val (.int (1 : Int32)), .val (.int (1 : Int32)), .unset] [(.ref wx), (.ref wx)])) rfl (by rw [hml]; rfl) [(.ref wx)] [] (lenOf own_pd_1 rfl) rfl rfl (by show 2 * 0 + _ ≤ _; exact Nat.le_of_eq rfl) (hb hby at_48)
        rcases hQ17 with hQ17 | hQ17 | hQ17
        · obtain ⟨rfl, Nc20, hp18, Kc19⟩ := hQ17
          refine own_go st17 ?_
          have N21 := Fr.app N16 Nc20
          show own_Go p e below s _ _ _ (T17.setTop (mkF m 51 #[.val (.int p1), .val (.int p2), .val (.ref wx), .val (.ref wx), .val (.int (1 : Int32)), .val (.int (1 : Int32)), .unset] [(.int (1 : Int32))]))
          refine own_go (fun _ k => XS.istore X17.here hx rfl (hb hby at_51) rfl (l' := #[.val (.int p1), .val (.int p2), .val (.ref wx), .val (.ref wx), .val (.int (1 : Int32)), .val (.int (1 : Int32)), .val (.int (1 : Int32))]) rfl k) ?_
          show own_Go p e below s _ _ _ (T17.setTop (mkF m 53 #[.val (.int p1), .val (.int p2), .val (.ref wx), .val (.ref wx), .val (.int (1 : Int32)), .val (.int (1 : Int32)), .val (.int (1 : Int32))] []))
          refine own_go (fun _ k => XS.iload X17.here hx rfl (hb hby at_53) rfl k) ?_
          show own_Go p e below s _ _ _ (T17.setTop (mkF m 55 #[.val (.int p1), .val (.int p2), .val (.ref wx), .val (.ref wx), .val (.int (1 : Int32)), .val (.int (1 : Int32)), .val (.int (1 : Int32))] [(.int (1 : Int32))]))
          refine own_go (fun _ k => XS.iload X17.here hx rfl (hb hby at_55) rfl k) ?_
          show own_Go p e below s _ _ _ (T17.setTop (mkF m 57 #[.val (.int p1), .val (.int p2), .val (.ref wx), .val (.ref wx), .val (.int (1 : Int32)), .val (.int (1 : Int32)), .val (.int (1 : Int32))] [(.int (1 : Int32)), (.int (1 : Int32))]))
          refine own_go (fun _ k => XS.icmpNo X17.here hx rfl (hb hby at_57) rfl (teq (by decide : (1 : Int32) = (1 : Int32))).2 k) ?_
          show own_Go p e below s _ _ _ (T17.setTop (mkF m 60 #[.val (.int p1), .val (.int p2), .val (.ref wx), .val (.ref wx), .val (.int (1 : Int32)), .val (.int (1 : Int32)), .val (.int (1 : Int32))] []))
          refine own_go (fun _ k => XS.iload X17.here hx rfl (hb hby at_60) rfl k) ?_
          show own_Go p e below s _ _ _ (T17.setTop (mkF m 62 #[.val (.int p1), .val (.int p2), .val (.ref wx), .val (.ref wx), .val (.int (1 : Int32)), .val (.int (1 : Int32)), .val (.int (1 : Int32))] [(.int (1 : Int32))]))
          refine own_go (fun _ k => XS.iload X17.here hx rfl (hb hby at_62) rfl k) ?_
          show own_Go p e below s _ _ _ (T17.setTop (mkF m 64 #[.val (.int p1), .val (.int p2), .val (.ref wx), .val (.ref wx), .val (.int (1 : Int32)), .val (.int (1 : Int32)), .val (.int (1 : Int32))] [(.int (1 : Int32)), (.int (1 : Int32))]))
          refine own_go (fun _ k => XS.icmpNo X17.here hx rfl (hb hby at_64) rfl (teq (by decide : (1 : Int32) = (1 : Int32))).2 k) ?_
          show own_Go p e below s _ _ _ (T17.setTop (mkF m 67 #[.val (.int p1), .val (.int p2), .val (.ref wx), .val (.ref wx), .val (.int (1 : Int32)), .val (.int (1 : Int32)), .val (.int (1 : Int32))] []))
          refine own_go (fun _ k => XS.iconst X17.here hx rfl (hb hby at_67) k) ?_
          show own_Go p e below s _ _ _ (T17.setTop (mkF m 68 #[.val (.int p1), .val (.int p2), .val (.ref wx), .val (.ref wx), .val (.int (1 : Int32)), .val (.int (1 : Int32)), .val (.int (1 : Int32))] [(.int (1 : Int32))]))
          refine own_go (fun _ k => XS.goto X17.here hx rfl (pc0 := 68) (pc' := 72) rfl (hb hby at_68) (by decide) (by decide) k) ?_
          show own_Go p e below s _ _ _ (T17.setTop (mkF m 72 #[.val (.int p1), .val (.int p2), .val (.ref wx), .val (.ref wx), .val (.int (1 : Int32)), .val (.int (1 : Int32)), .val (.int (1 : Int32))] [(.int (1 : Int32))]))
          refine own_retN X17 hx hlk Kc19 (t := .boolean) hret (by simp) (hb hby at_72) (by show _ ≤ 0; omega) (by show _ ≤ 0; omega) ?_
          exact ⟨rfl, N21, K0⟩
        · obtain ⟨rfl, Nc25, hp22, hp23, Kc24⟩ := hQ17
          refine own_go st17 ?_
          have N26 := Fr.app N16 Nc25
          exact absurd hp13 hp22
        · obtain ⟨rfl, Nc30, hp27, hp28, Kc29⟩ := hQ17
          refine own_go st17 ?_
          have N31 := Fr.app N16 Nc30
          exact absurd hp13 hp27
      · obtain ⟨rfl, Nc35, hp32, hp33, Kc34⟩ := hQ12
        refine own_go st12 ?_
        have N36 := Fr.app N10 Nc35
        exact absurd (rfl : wx = wx) hp32
      · obtain ⟨rfl, Nc40, hp37, hp38, Kc39⟩ := hQ12
        refine own_go st12 ?_
        have N41 := Fr.app N10 Nc40
        exact absurd (rfl : wx = wx) hp37
    · obtain ⟨rfl, Nc44, hp42, Kc43⟩ := hQ6
      refine own_go st6 ?_
      have N45 := Fr.app N5 Nc44
      show own_Go p e below s _ _ _ (T6.setTop (mkF m 9 #[.val (.int p1), .val (.int p2), .val (.ref wx), .unset, .unset, .unset, .unset] [(.ref wy)]))
      refine own_go (fun _ k => XS.astoreN X6.here hx rfl (hb hby at_9) rfl rfl (l' := #[.val (.int p1), .val (.int p2), .val (.ref wx), .val (.ref wy), .unset, .unset, .unset]) rfl k) ?_
      show own_Go p e below s _ _ _ (T6.setTop (mkF m 10 #[.val (.int p1), .val (.int p2), .val (.ref wx), .val (.ref wy), .unset, .unset, .unset] []))
      refine own_go (fun _ k => XS.aloadN X6.here hx rfl (hb hby at_10) rfl rfl k) ?_
      show own_Go p e below s _ _ _ (T6.setTop (mkF m 11 #[.val (.int p1), .val (.int p2), .val (.ref wx), .val (.ref wy), .unset, .unset, .unset] [(.ref wx)]))
      obtain ⟨T46, X46, e46, st46⟩ := getS2 X6 hx hZ hown (host := "") (Or.inl (hw _ (List.mem_of_getElem? (i := 7) rfl))) Via.refl Kc43 (oSh.ext O0) (g := (mkF m 11 #[.val (.int p1), .val (.int p2), .val (.ref wx), .val (.ref wy), .unset, .unset, .unset] [(.ref wx)])) rfl (hb hby at_11)
      refine own_go st46 ?_
      show own_Go p e below s _ _ _ (T46.setTop (mkF m 14 #[.val (.int p1), .val (.int p2), .val (.ref wx), .val (.ref wy), .unset, .unset, .unset] [(.ref wy), (.ref wx)]))
      refine own_go (fun _ k => Jvm.RoadKit.acmp (g := (mkF m 14 #[.val (.int p1), .val (.int p2), .val (.ref wx), .val (.ref wy), .unset, .unset, .unset] [(.ref wy), (.ref wx)])) X46 hx rfl rfl rfl (pc0 := 14) (pc' := 36) (same := false) rfl (hb hby at_14) rfl (decide_eq_false fun q => oNe (Value.ref.inj q)) (by decide) (by decide) k) ?_
      show own_Go p e below s _ _ _ (T46.setTop (mkF m 36 #[.val (.int p1), .val (.int p2), .val (.ref wx), .val (.ref wy), .unset, .unset, .unset] []))
      refine own_go (fun _ k => XS.iconst X46.here hx rfl (hb hby at_36) k) ?_
      show own_Go p e below s _ _ _ (T46.setTop (mkF m 37 #[.val (.int p1), .val (.int p2), .val (.ref wx), .val (.ref wy), .unset, .unset, .unset] [(.int (1 : Int32))]))
      refine own_go (fun _ k => XS.istore X46.here hx rfl (hb hby at_37) rfl (l' := #[.val (.int p1), .val (.int p2), .val (.ref wx), .val (.ref wy), .val (.int (1 : Int32)), .unset, .unset]) rfl k) ?_
      show own_Go p e below s _ _ _ (T46.setTop (mkF m 39 #[.val (.int p1), .val (.int p2), .val (.ref wx), .val (.ref wy), .val (.int (1 : Int32)), .unset, .unset] []))
      refine own_go (fun _ k => XS.aloadN X46.here hx rfl (hb hby at_39) rfl rfl k) ?_
      show own_Go p e below s _ _ _ (T46.setTop (mkF m 40 #[.val (.int p1), .val (.int p2), .val (.ref wx), .val (.ref wy), .val (.int (1 : Int32)), .unset, .unset] [(.ref wx)]))
      refine own_go (fun _ k => XS.aloadN X46.here hx rfl (hb hby at_40) rfl rfl k) ?_
      show own_Go p e below s _ _ _ (T46.setTop (mkF m 41 #[.val (.int p1), .val (.int p2), .val (.ref wx), .val (.ref wy), .val (.int (1 : Int32)), .unset, .unset] [(.ref wy), (.ref wx)]))
      obtain ⟨v47, T47, L47, X47, hQ47, st47⟩ := own_callV (y := (⟨"com/example/padlock/padlock/lock/Access", "conflictsWith", "(Lcom/example/padlock/padlock/lock/Access;)Z"⟩ : MethodName)) (z := (⟨"com/example/padlock/padlock/lock/Access", "conflictsWith", "(Lcom/example/padlock/padlock/lock/Access;)Z"⟩ : MethodName)) X46 hx hZ hown (hw _ (List.mem_of_getElem? (i := 9) rfl)) (hw _ (List.mem_of_getElem? (i := 10) rfl)) (notFace_of_selects (args := #[]) (mvT hZ (hw _ (List.mem_of_getElem? (i := 12) rfl)))) (hw _ (List.mem_of_getElem? (i := 12) rfl)) (hw _ (List.mem_of_getElem? (i := 11) rfl)) (hw _ (List.mem_of_getElem? (i := 5) rfl)) (hw _ (List.mem_of_getElem? (i := 13) rfl)) (rm_cf l Z a0 hw oEx oSh oE1 oE2 oNe [] wx wy h0 O0) 0 0 0 rfl rfl (by decide) (by decide) (by decide) (by show _ ≤ 0; omega) (by show _ ≤ 0; omega) e46 (oE1.ext O0) (g := (mkF m 41 #[.val (.int p1), .val (.int p2), .val (.ref wx), .val (.ref wy), .val (.int (1 : Int32)), .unset, .unset] [(.ref wy), (.ref wx)])) rfl (by rw [hml]; rfl) [(.ref wy)] [] (lenOf own_pd_1 rfl) rfl rfl (by show 2 * 0 + _ ≤ _; exact Nat.le_of_eq rfl) (hb hby at_41)
      rcases hQ47 with hQ47 | hQ47 | hQ47
      · obtain ⟨rfl, Nc50, hp48, Kc49⟩ := hQ47
        refine own_go st47 ?_
        have N51 := Fr.app N45 Nc50
        show own_Go p e below s _ _ _ (T47.setTop (mkF m 44 #[.val (.int p1), .val (.int p2), .val (.ref wx), .val (.ref wy), .val (.int (1 : Int32)), .unset, .unset] [(.int (1 : Int32))]))
        refine own_go (fun _ k => XS.istore X47.here hx rfl (hb hby at_44) rfl (l' := #[.val (.int p1), .val (.int p2), .val (.ref wx), .val (.ref wy), .val (.int (1 : Int32)), .val (.int (1 : Int32)), .unset]) rfl k) ?_
        show own_Go p e below s _ _ _ (T47.setTop (mkF m 46 #[.val (.int p1), .val (.int p2), .val (.ref wx), .val (.ref wy), .val (.int (1 : Int32)), .val (.int (1 : Int32)), .unset] []))
        refine own_go (fun _ k => XS.aloadN X47.here hx rfl (hb hby at_46) rfl rfl k) ?_
        show own_Go p e below s _ _ _ (T47.setTop (mkF m 47 #[.val (.int p1), .val (.int p2), .val (.ref wx), .val (.ref wy), .val (.int (1 : Int32)), .val (.int (1 : Int32)), .unset] [(.ref wy)]))
        refine own_go (fun _ k => XS.aloadN X47.here hx rfl (hb hby at_47) rfl rfl k) ?_
        show own_Go p e below s _ _ _ (T47.setTop (mkF m 48 #[.val (.int p1), .val (.int p2), .val (.ref wx), .val (.ref wy), .val (.int (1 : Int32)), .val (.int (1 : Int32)), .unset] [(.ref wx), (.ref wy)]))
        obtain ⟨v52, T52, L52, X52, hQ52, st52⟩ := own_callV (y := (⟨"com/example/padlock/padlock/lock/Access", "conflictsWith", "(Lcom/example/padlock/padlock/lock/Access;)Z"⟩ : MethodName)) (z := (⟨"com/example/padlock/padlock/lock/Access", "conflictsWith", "(Lcom/example/padlock/padlock/lock/Access;)Z"⟩ : MethodName)) X47 hx hZ hown (hw _ (List.mem_of_getElem? (i := 9) rfl)) (hw _ (List.mem_of_getElem? (i := 10) rfl)) (notFace_of_selects (args := #[]) (mvT hZ (hw _ (List.mem_of_getElem? (i := 12) rfl)))) (hw _ (List.mem_of_getElem? (i := 12) rfl)) (hw _ (List.mem_of_getElem? (i := 11) rfl)) (hw _ (List.mem_of_getElem? (i := 5) rfl)) (hw _ (List.mem_of_getElem? (i := 13) rfl)) (rm_cf l Z a0 hw oEx oSh oE1 oE2 oNe [] wy wx h0 O0) 0 0 0 rfl rfl (by decide) (by decide) (by decide) (by show _ ≤ 0; omega) (by show _ ≤ 0; omega) Kc49 (oE2.ext O0) (g := (mkF m 48 #[.val (.int p1), .val (.int p2), .val (.ref wx), .val (.ref wy), .val (.int (1 : Int32)), .val (.int (1 : Int32)), .unset] [(.ref wx), (.ref wy)])) rfl (by rw [hml]; rfl) [(.ref wx)] [] (lenOf own_pd_1 rfl) rfl rfl (by show 2 * 0 + _ ≤ _; exact Nat.le_of_eq rfl) (hb hby at_48)
        rcases hQ52 with hQ52 | hQ52 | hQ52
        · obtain ⟨rfl, Nc55, hp53, Kc54⟩ := hQ52
          refine own_go st52 ?_
          have N56 := Fr.app N51 Nc55
          exact absurd hp53 (Ne.symm oNe)
        · obtain ⟨rfl, Nc60, hp57, hp58, Kc59⟩ := hQ52
          refine own_go st52 ?_
          have N61 := Fr.app N51 Nc60
          show own_Go p e below s _ _ _ (T52.setTop (mkF m 51 #[.val (.int p1), .val (.int p2), .val (.ref wx), .val (.ref wy), .val (.int (1 : Int32)), .val (.int (1 : Int32)), .unset] [(.int (1 : Int32))]))
          refine own_go (fun _ k => XS.istore X52.here hx rfl (hb hby at_51) rfl (l' := #[.val (.int p1), .val (.int p2), .val (.ref wx), .val (.ref wy), .val (.int (1 : Int32)), .val (.int (1 : Int32)), .val (.int (1 : Int32))]) rfl k) ?_
          show own_Go p e below s _ _ _ (T52.setTop (mkF m 53 #[.val (.int p1), .val (.int p2), .val (.ref wx), .val (.ref wy), .val (.int (1 : Int32)), .val (.int (1 : Int32)), .val (.int (1 : Int32))] []))
          refine own_go (fun _ k => XS.iload X52.here hx rfl (hb hby at_53) rfl k) ?_
          show own_Go p e below s _ _ _ (T52.setTop (mkF m 55 #[.val (.int p1), .val (.int p2), .val (.ref wx), .val (.ref wy), .val (.int (1 : Int32)), .val (.int (1 : Int32)), .val (.int (1 : Int32))] [(.int (1 : Int32))]))
          refine own_go (fun _ k => XS.iload X52.here hx rfl (hb hby at_55) rfl k) ?_
          show own_Go p e below s _ _ _ (T52.setTop (mkF m 57 #[.val (.int p1), .val (.int p2), .val (.ref wx), .val (.ref wy), .val (.int (1 : Int32)), .val (.int (1 : Int32)), .val (.int (1 : Int32))] [(.int (1 : Int32)), (.int (1 : Int32))]))
          refine own_go (fun _ k => XS.icmpNo X52.here hx rfl (hb hby at_57) rfl (teq (by decide : (1 : Int32) = (1 : Int32))).2 k) ?_
          show own_Go p e below s _ _ _ (T52.setTop (mkF m 60 #[.val (.int p1), .val (.int p2), .val (.ref wx), .val (.ref wy), .val (.int (1 : Int32)), .val (.int (1 : Int32)), .val (.int (1 : Int32))] []))
          refine own_go (fun _ k => XS.iload X52.here hx rfl (hb hby at_60) rfl k) ?_
          show own_Go p e below s _ _ _ (T52.setTop (mkF m 62 #[.val (.int p1), .val (.int p2), .val (.ref wx), .val (.ref wy), .val (.int (1 : Int32)), .val (.int (1 : Int32)), .val (.int (1 : Int32))] [(.int (1 : Int32))]))
          refine own_go (fun _ k => XS.iload X52.here hx rfl (hb hby at_62) rfl k) ?_
          show own_Go p e below s _ _ _ (T52.setTop (mkF m 64 #[.val (.int p1), .val (.int p2), .val (.ref wx), .val (.ref wy), .val (.int (1 : Int32)), .val (.int (1 : Int32)), .val (.int (1 : Int32))] [(.int (1 : Int32)), (.int (1 : Int32))]))
          refine own_go (fun _ k => XS.icmpNo X52.here hx rfl (hb hby at_64) rfl (teq (by decide : (1 : Int32) = (1 : Int32))).2 k) ?_
          show own_Go p e below s _ _ _ (T52.setTop (mkF m 67 #[.val (.int p1), .val (.int p2), .val (.ref wx), .val (.ref wy), .val (.int (1 : Int32)), .val (.int (1 : Int32)), .val (.int (1 : Int32))] []))
          refine own_go (fun _ k => XS.iconst X52.here hx rfl (hb hby at_67) k) ?_
          show own_Go p e below s _ _ _ (T52.setTop (mkF m 68 #[.val (.int p1), .val (.int p2), .val (.ref wx), .val (.ref wy), .val (.int (1 : Int32)), .val (.int (1 : Int32)), .val (.int (1 : Int32))] [(.int (1 : Int32))]))
          refine own_go (fun _ k => XS.goto X52.here hx rfl (pc0 := 68) (pc' := 72) rfl (hb hby at_68) (by decide) (by decide) k) ?_
          show own_Go p e below s _ _ _ (T52.setTop (mkF m 72 #[.val (.int p1), .val (.int p2), .val (.ref wx), .val (.ref wy), .val (.int (1 : Int32)), .val (.int (1 : Int32)), .val (.int (1 : Int32))] [(.int (1 : Int32))]))
          refine own_retN X52 hx hlk Kc59 (t := .boolean) hret (by simp) (hb hby at_72) (by show _ ≤ 0; omega) (by show _ ≤ 0; omega) ?_
          exact ⟨rfl, N61, K0⟩
        · obtain ⟨rfl, Nc65, hp62, hp63, Kc64⟩ := hQ52
          refine own_go st52 ?_
          have N66 := Fr.app N51 Nc65
          exact absurd hp48 hp63
      · obtain ⟨rfl, Nc70, hp67, hp68, Kc69⟩ := hQ47
        refine own_go st47 ?_
        have N71 := Fr.app N45 Nc70
        exact absurd (rfl : wx = wx) hp67
      · obtain ⟨rfl, Nc75, hp72, hp73, Kc74⟩ := hQ47
        refine own_go st47 ?_
        have N76 := Fr.app N45 Nc75
        exact absurd (rfl : wx = wx) hp72
  · obtain ⟨rfl, Nc79, hp77, Kc78⟩ := hQ1
    refine own_go st1 ?_
    have N80 := Fr.app N0 Nc79
    show own_Go p e below s _ _ _ (T1.setTop (mkF m 4 #[.val (.int p1), .val (.int p2), .unset, .unset, .unset, .unset, .unset] [(.ref wy)]))
    refine own_go (fun _ k => XS.astoreN X1.here hx rfl (hb hby at_4) rfl rfl (l' := #[.val (.int p1), .val (.int p2), .val (.ref wy), .unset, .unset, .unset, .unset]) rfl k) ?_
    show own_Go p e below s _ _ _ (T1.setTop (mkF m 5 #[.val (.int p1), .val (.int p2), .val (.ref wy), .unset, .unset, .unset, .unset] []))
    refine own_go (fun _ k => XS.iloadN X1.here hx rfl (hb hby at_5) rfl k) ?_
    show own_Go p e below s _ _ _ (T1.setTop (mkF m 6 #[.val (.int p1), .val (.int p2), .val (.ref wy), .unset, .unset, .unset, .unset] [(.int p2)]))
    obtain ⟨v81, T81, L81, X81, hQ81, st81⟩ := own_callS (y := (⟨"com/example/padlock/padlock/lock/AccessConflictsWithPinLaw", "pick", "(I)Lcom/example/padlock/padlock/lock/Access;"⟩ : MethodName)) X1 hx hZ hown (hw _ (List.mem_of_getElem? (i := 0) rfl)) (hw _ (List.mem_of_getElem? (i := 1) rfl)) (hw _ (List.mem_of_getElem? (i := 2) rfl)) (hw _ (List.mem_of_getElem? (i := 3) rfl)) (rm_pick l Z a0 hw oEx oSh oE1 oE2 oNe [] p2 h0 O0) 0 0 0 rfl rfl (by decide) (by decide) (by decide) (by show _ ≤ 0; omega) (by show _ ≤ 0; omega) Kc78 (g := (mkF m 6 #[.val (.int p1), .val (.int p2), .val (.ref wy), .unset, .unset, .unset, .unset] [(.int p2)])) rfl (by rw [hml]; rfl) [(.int p2)] [] (lenOf own_pd_0 rfl) rfl rfl (by show 2 * 0 + _ ≤ _; exact Nat.le_of_eq rfl) (hb hby at_6)
    rcases hQ81 with hQ81 | hQ81
    · obtain ⟨rfl, Nc84, hp82, Kc83⟩ := hQ81
      refine own_go st81 ?_
      have N85 := Fr.app N80 Nc84
      show own_Go p e below s _ _ _ (T81.setTop (mkF m 9 #[.val (.int p1), .val (.int p2), .val (.ref wy), .unset, .unset, .unset, .unset] [(.ref wx)]))
      refine own_go (fun _ k => XS.astoreN X81.here hx rfl (hb hby at_9) rfl rfl (l' := #[.val (.int p1), .val (.int p2), .val (.ref wy), .val (.ref wx), .unset, .unset, .unset]) rfl k) ?_
      show own_Go p e below s _ _ _ (T81.setTop (mkF m 10 #[.val (.int p1), .val (.int p2), .val (.ref wy), .val (.ref wx), .unset, .unset, .unset] []))
      refine own_go (fun _ k => XS.aloadN X81.here hx rfl (hb hby at_10) rfl rfl k) ?_
      show own_Go p e below s _ _ _ (T81.setTop (mkF m 11 #[.val (.int p1), .val (.int p2), .val (.ref wy), .val (.ref wx), .unset, .unset, .unset] [(.ref wy)]))
      obtain ⟨T86, X86, e86, st86⟩ := getS2 X81 hx hZ hown (host := "") (Or.inl (hw _ (List.mem_of_getElem? (i := 7) rfl))) Via.refl Kc83 (oSh.ext O0) (g := (mkF m 11 #[.val (.int p1), .val (.int p2), .val (.ref wy), .val (.ref wx), .unset, .unset, .unset] [(.ref wy)])) rfl (hb hby at_11)
      refine own_go st86 ?_
      show own_Go p e below s _ _ _ (T86.setTop (mkF m 14 #[.val (.int p1), .val (.int p2), .val (.ref wy), .val (.ref wx), .unset, .unset, .unset] [(.ref wy), (.ref wy)]))
      refine own_go (fun _ k => Jvm.RoadKit.acmp (g := (mkF m 14 #[.val (.int p1), .val (.int p2), .val (.ref wy), .val (.ref wx), .unset, .unset, .unset] [(.ref wy), (.ref wy)])) X86 hx rfl rfl rfl (pc0 := 14) (pc' := 17) (same := true) rfl (hb hby at_14) rfl (decide_eq_true rfl) (by decide) (by decide) k) ?_
      show own_Go p e below s _ _ _ (T86.setTop (mkF m 17 #[.val (.int p1), .val (.int p2), .val (.ref wy), .val (.ref wx), .unset, .unset, .unset] []))
      refine own_go (fun _ k => XS.aloadN X86.here hx rfl (hb hby at_17) rfl rfl k) ?_
      show own_Go p e below s _ _ _ (T86.setTop (mkF m 18 #[.val (.int p1), .val (.int p2), .val (.ref wy), .val (.ref wx), .unset, .unset, .unset] [(.ref wx)]))
      obtain ⟨T87, X87, e87, st87⟩ := getS2 X86 hx hZ hown (host := "") (Or.inl (hw _ (List.mem_of_getElem? (i := 7) rfl))) Via.refl e86 (oSh.ext O0) (g := (mkF m 18 #[.val (.int p1), .val (.int p2), .val (.ref wy), .val (.ref wx), .unset, .unset, .unset] [(.ref wx)])) rfl (hb hby at_18)
      refine own_go st87 ?_
      show own_Go p e below s _ _ _ (T87.setTop (mkF m 21 #[.val (.int p1), .val (.int p2), .val (.ref wy), .val (.ref wx), .unset, .unset, .unset] [(.ref wy), (.ref wx)]))
      refine own_go (fun _ k => Jvm.RoadKit.acmp (g := (mkF m 21 #[.val (.int p1), .val (.int p2), .val (.ref wy), .val (.ref wx), .unset, .unset, .unset] [(.ref wy), (.ref wx)])) X87 hx rfl rfl rfl (pc0 := 21) (pc' := 30) (same := false) rfl (hb hby at_21) rfl (decide_eq_false fun q => oNe (Value.ref.inj q)) (by decide) (by decide) k) ?_
      show own_Go p e below s _ _ _ (T87.setTop (mkF m 30 #[.val (.int p1), .val (.int p2), .val (.ref wy), .val (.ref wx), .unset, .unset, .unset] []))
      refine own_go (fun _ k => XS.iconst X87.here hx rfl (hb hby at_30) k) ?_
      show own_Go p e below s _ _ _ (T87.setTop (mkF m 31 #[.val (.int p1), .val (.int p2), .val (.ref wy), .val (.ref wx), .unset, .unset, .unset] [(.int (1 : Int32))]))
      refine own_go (fun _ k => XS.istore X87.here hx rfl (hb hby at_31) rfl (l' := #[.val (.int p1), .val (.int p2), .val (.ref wy), .val (.ref wx), .val (.int (1 : Int32)), .unset, .unset]) rfl k) ?_
      show own_Go p e below s _ _ _ (T87.setTop (mkF m 33 #[.val (.int p1), .val (.int p2), .val (.ref wy), .val (.ref wx), .val (.int (1 : Int32)), .unset, .unset] []))
      refine own_go (fun _ k => XS.goto X87.here hx rfl (pc0 := 33) (pc' := 39) rfl (hb hby at_33) (by decide) (by decide) k) ?_
      show own_Go p e below s _ _ _ (T87.setTop (mkF m 39 #[.val (.int p1), .val (.int p2), .val (.ref wy), .val (.ref wx), .val (.int (1 : Int32)), .unset, .unset] []))
      refine own_go (fun _ k => XS.aloadN X87.here hx rfl (hb hby at_39) rfl rfl k) ?_
      show own_Go p e below s _ _ _ (T87.setTop (mkF m 40 #[.val (.int p1), .val (.int p2), .val (.ref wy), .val (.ref wx), .val (.int (1 : Int32)), .unset, .unset] [(.ref wy)]))
      refine own_go (fun _ k => XS.aloadN X87.here hx rfl (hb hby at_40) rfl rfl k) ?_
      show own_Go p e below s _ _ _ (T87.setTop (mkF m 41 #[.val (.int p1), .val (.int p2), .val (.ref wy), .val (.ref wx), .val (.int (1 : Int32)), .unset, .unset] [(.ref wx), (.ref wy)]))
      obtain ⟨v88, T88, L88, X88, hQ88, st88⟩ := own_callV (y := (⟨"com/example/padlock/padlock/lock/Access", "conflictsWith", "(Lcom/example/padlock/padlock/lock/Access;)Z"⟩ : MethodName)) (z := (⟨"com/example/padlock/padlock/lock/Access", "conflictsWith", "(Lcom/example/padlock/padlock/lock/Access;)Z"⟩ : MethodName)) X87 hx hZ hown (hw _ (List.mem_of_getElem? (i := 9) rfl)) (hw _ (List.mem_of_getElem? (i := 10) rfl)) (notFace_of_selects (args := #[]) (mvT hZ (hw _ (List.mem_of_getElem? (i := 12) rfl)))) (hw _ (List.mem_of_getElem? (i := 12) rfl)) (hw _ (List.mem_of_getElem? (i := 11) rfl)) (hw _ (List.mem_of_getElem? (i := 5) rfl)) (hw _ (List.mem_of_getElem? (i := 13) rfl)) (rm_cf l Z a0 hw oEx oSh oE1 oE2 oNe [] wy wx h0 O0) 0 0 0 rfl rfl (by decide) (by decide) (by decide) (by show _ ≤ 0; omega) (by show _ ≤ 0; omega) e87 (oE2.ext O0) (g := (mkF m 41 #[.val (.int p1), .val (.int p2), .val (.ref wy), .val (.ref wx), .val (.int (1 : Int32)), .unset, .unset] [(.ref wx), (.ref wy)])) rfl (by rw [hml]; rfl) [(.ref wx)] [] (lenOf own_pd_1 rfl) rfl rfl (by show 2 * 0 + _ ≤ _; exact Nat.le_of_eq rfl) (hb hby at_41)
      rcases hQ88 with hQ88 | hQ88 | hQ88
      · obtain ⟨rfl, Nc91, hp89, Kc90⟩ := hQ88
        refine own_go st88 ?_
        have N92 := Fr.app N85 Nc91
        exact absurd hp89 (Ne.symm oNe)
      · obtain ⟨rfl, Nc96, hp93, hp94, Kc95⟩ := hQ88
        refine own_go st88 ?_
        have N97 := Fr.app N85 Nc96
        show own_Go p e below s _ _ _ (T88.setTop (mkF m 44 #[.val (.int p1), .val (.int p2), .val (.ref wy), .val (.ref wx), .val (.int (1 : Int32)), .unset, .unset] [(.int (1 : Int32))]))
        refine own_go (fun _ k => XS.istore X88.here hx rfl (hb hby at_44) rfl (l' := #[.val (.int p1), .val (.int p2), .val (.ref wy), .val (.ref wx), .val (.int (1 : Int32)), .val (.int (1 : Int32)), .unset]) rfl k) ?_
        show own_Go p e below s _ _ _ (T88.setTop (mkF m 46 #[.val (.int p1), .val (.int p2), .val (.ref wy), .val (.ref wx), .val (.int (1 : Int32)), .val (.int (1 : Int32)), .unset] []))
        refine own_go (fun _ k => XS.aloadN X88.here hx rfl (hb hby at_46) rfl rfl k) ?_
        show own_Go p e below s _ _ _ (T88.setTop (mkF m 47 #[.val (.int p1), .val (.int p2), .val (.ref wy), .val (.ref wx), .val (.int (1 : Int32)), .val (.int (1 : Int32)), .unset] [(.ref wx)]))
        refine own_go (fun _ k => XS.aloadN X88.here hx rfl (hb hby at_47) rfl rfl k) ?_
        show own_Go p e below s _ _ _ (T88.setTop (mkF m 48 #[.val (.int p1), .val (.int p2), .val (.ref wy), .val (.ref wx), .val (.int (1 : Int32)), .val (.int (1 : Int32)), .unset] [(.ref wy), (.ref wx)]))
        obtain ⟨v98, T98, L98, X98, hQ98, st98⟩ := own_callV (y := (⟨"com/example/padlock/padlock/lock/Access", "conflictsWith", "(Lcom/example/padlock/padlock/lock/Access;)Z"⟩ : MethodName)) (z := (⟨"com/example/padlock/padlock/lock/Access", "conflictsWith", "(Lcom/example/padlock/padlock/lock/Access;)Z"⟩ : MethodName)) X88 hx hZ hown (hw _ (List.mem_of_getElem? (i := 9) rfl)) (hw _ (List.mem_of_getElem? (i := 10) rfl)) (notFace_of_selects (args := #[]) (mvT hZ (hw _ (List.mem_of_getElem? (i := 12) rfl)))) (hw _ (List.mem_of_getElem? (i := 12) rfl)) (hw _ (List.mem_of_getElem? (i := 11) rfl)) (hw _ (List.mem_of_getElem? (i := 5) rfl)) (hw _ (List.mem_of_getElem? (i := 13) rfl)) (rm_cf l Z a0 hw oEx oSh oE1 oE2 oNe [] wx wy h0 O0) 0 0 0 rfl rfl (by decide) (by decide) (by decide) (by show _ ≤ 0; omega) (by show _ ≤ 0; omega) Kc95 (oE1.ext O0) (g := (mkF m 48 #[.val (.int p1), .val (.int p2), .val (.ref wy), .val (.ref wx), .val (.int (1 : Int32)), .val (.int (1 : Int32)), .unset] [(.ref wy), (.ref wx)])) rfl (by rw [hml]; rfl) [(.ref wy)] [] (lenOf own_pd_1 rfl) rfl rfl (by show 2 * 0 + _ ≤ _; exact Nat.le_of_eq rfl) (hb hby at_48)
        rcases hQ98 with hQ98 | hQ98 | hQ98
        · obtain ⟨rfl, Nc101, hp99, Kc100⟩ := hQ98
          refine own_go st98 ?_
          have N102 := Fr.app N97 Nc101
          show own_Go p e below s _ _ _ (T98.setTop (mkF m 51 #[.val (.int p1), .val (.int p2), .val (.ref wy), .val (.ref wx), .val (.int (1 : Int32)), .val (.int (1 : Int32)), .unset] [(.int (1 : Int32))]))
          refine own_go (fun _ k => XS.istore X98.here hx rfl (hb hby at_51) rfl (l' := #[.val (.int p1), .val (.int p2), .val (.ref wy), .val (.ref wx), .val (.int (1 : Int32)), .val (.int (1 : Int32)), .val (.int (1 : Int32))]) rfl k) ?_
          show own_Go p e below s _ _ _ (T98.setTop (mkF m 53 #[.val (.int p1), .val (.int p2), .val (.ref wy), .val (.ref wx), .val (.int (1 : Int32)), .val (.int (1 : Int32)), .val (.int (1 : Int32))] []))
          refine own_go (fun _ k => XS.iload X98.here hx rfl (hb hby at_53) rfl k) ?_
          show own_Go p e below s _ _ _ (T98.setTop (mkF m 55 #[.val (.int p1), .val (.int p2), .val (.ref wy), .val (.ref wx), .val (.int (1 : Int32)), .val (.int (1 : Int32)), .val (.int (1 : Int32))] [(.int (1 : Int32))]))
          refine own_go (fun _ k => XS.iload X98.here hx rfl (hb hby at_55) rfl k) ?_
          show own_Go p e below s _ _ _ (T98.setTop (mkF m 57 #[.val (.int p1), .val (.int p2), .val (.ref wy), .val (.ref wx), .val (.int (1 : Int32)), .val (.int (1 : Int32)), .val (.int (1 : Int32))] [(.int (1 : Int32)), (.int (1 : Int32))]))
          refine own_go (fun _ k => XS.icmpNo X98.here hx rfl (hb hby at_57) rfl (teq (by decide : (1 : Int32) = (1 : Int32))).2 k) ?_
          show own_Go p e below s _ _ _ (T98.setTop (mkF m 60 #[.val (.int p1), .val (.int p2), .val (.ref wy), .val (.ref wx), .val (.int (1 : Int32)), .val (.int (1 : Int32)), .val (.int (1 : Int32))] []))
          refine own_go (fun _ k => XS.iload X98.here hx rfl (hb hby at_60) rfl k) ?_
          show own_Go p e below s _ _ _ (T98.setTop (mkF m 62 #[.val (.int p1), .val (.int p2), .val (.ref wy), .val (.ref wx), .val (.int (1 : Int32)), .val (.int (1 : Int32)), .val (.int (1 : Int32))] [(.int (1 : Int32))]))
          refine own_go (fun _ k => XS.iload X98.here hx rfl (hb hby at_62) rfl k) ?_
          show own_Go p e below s _ _ _ (T98.setTop (mkF m 64 #[.val (.int p1), .val (.int p2), .val (.ref wy), .val (.ref wx), .val (.int (1 : Int32)), .val (.int (1 : Int32)), .val (.int (1 : Int32))] [(.int (1 : Int32)), (.int (1 : Int32))]))
          refine own_go (fun _ k => XS.icmpNo X98.here hx rfl (hb hby at_64) rfl (teq (by decide : (1 : Int32) = (1 : Int32))).2 k) ?_
          show own_Go p e below s _ _ _ (T98.setTop (mkF m 67 #[.val (.int p1), .val (.int p2), .val (.ref wy), .val (.ref wx), .val (.int (1 : Int32)), .val (.int (1 : Int32)), .val (.int (1 : Int32))] []))
          refine own_go (fun _ k => XS.iconst X98.here hx rfl (hb hby at_67) k) ?_
          show own_Go p e below s _ _ _ (T98.setTop (mkF m 68 #[.val (.int p1), .val (.int p2), .val (.ref wy), .val (.ref wx), .val (.int (1 : Int32)), .val (.int (1 : Int32)), .val (.int (1 : Int32))] [(.int (1 : Int32))]))
          refine own_go (fun _ k => XS.goto X98.here hx rfl (pc0 := 68) (pc' := 72) rfl (hb hby at_68) (by decide) (by decide) k) ?_
          show own_Go p e below s _ _ _ (T98.setTop (mkF m 72 #[.val (.int p1), .val (.int p2), .val (.ref wy), .val (.ref wx), .val (.int (1 : Int32)), .val (.int (1 : Int32)), .val (.int (1 : Int32))] [(.int (1 : Int32))]))
          refine own_retN X98 hx hlk Kc100 (t := .boolean) hret (by simp) (hb hby at_72) (by show _ ≤ 0; omega) (by show _ ≤ 0; omega) ?_
          exact ⟨rfl, N102, K0⟩
        · obtain ⟨rfl, Nc106, hp103, hp104, Kc105⟩ := hQ98
          refine own_go st98 ?_
          have N107 := Fr.app N97 Nc106
          exact absurd hp94 hp103
        · obtain ⟨rfl, Nc111, hp108, hp109, Kc110⟩ := hQ98
          refine own_go st98 ?_
          have N112 := Fr.app N97 Nc111
          exact absurd hp94 hp108
      · obtain ⟨rfl, Nc116, hp113, hp114, Kc115⟩ := hQ88
        refine own_go st88 ?_
        have N117 := Fr.app N85 Nc116
        exact absurd (rfl : wx = wx) hp114
    · obtain ⟨rfl, Nc120, hp118, Kc119⟩ := hQ81
      refine own_go st81 ?_
      have N121 := Fr.app N80 Nc120
      show own_Go p e below s _ _ _ (T81.setTop (mkF m 9 #[.val (.int p1), .val (.int p2), .val (.ref wy), .unset, .unset, .unset, .unset] [(.ref wy)]))
      refine own_go (fun _ k => XS.astoreN X81.here hx rfl (hb hby at_9) rfl rfl (l' := #[.val (.int p1), .val (.int p2), .val (.ref wy), .val (.ref wy), .unset, .unset, .unset]) rfl k) ?_
      show own_Go p e below s _ _ _ (T81.setTop (mkF m 10 #[.val (.int p1), .val (.int p2), .val (.ref wy), .val (.ref wy), .unset, .unset, .unset] []))
      refine own_go (fun _ k => XS.aloadN X81.here hx rfl (hb hby at_10) rfl rfl k) ?_
      show own_Go p e below s _ _ _ (T81.setTop (mkF m 11 #[.val (.int p1), .val (.int p2), .val (.ref wy), .val (.ref wy), .unset, .unset, .unset] [(.ref wy)]))
      obtain ⟨T122, X122, e122, st122⟩ := getS2 X81 hx hZ hown (host := "") (Or.inl (hw _ (List.mem_of_getElem? (i := 7) rfl))) Via.refl Kc119 (oSh.ext O0) (g := (mkF m 11 #[.val (.int p1), .val (.int p2), .val (.ref wy), .val (.ref wy), .unset, .unset, .unset] [(.ref wy)])) rfl (hb hby at_11)
      refine own_go st122 ?_
      show own_Go p e below s _ _ _ (T122.setTop (mkF m 14 #[.val (.int p1), .val (.int p2), .val (.ref wy), .val (.ref wy), .unset, .unset, .unset] [(.ref wy), (.ref wy)]))
      refine own_go (fun _ k => Jvm.RoadKit.acmp (g := (mkF m 14 #[.val (.int p1), .val (.int p2), .val (.ref wy), .val (.ref wy), .unset, .unset, .unset] [(.ref wy), (.ref wy)])) X122 hx rfl rfl rfl (pc0 := 14) (pc' := 17) (same := true) rfl (hb hby at_14) rfl (decide_eq_true rfl) (by decide) (by decide) k) ?_
      show own_Go p e below s _ _ _ (T122.setTop (mkF m 17 #[.val (.int p1), .val (.int p2), .val (.ref wy), .val (.ref wy), .unset, .unset, .unset] []))
      refine own_go (fun _ k => XS.aloadN X122.here hx rfl (hb hby at_17) rfl rfl k) ?_
      show own_Go p e below s _ _ _ (T122.setTop (mkF m 18 #[.val (.int p1), .val (.int p2), .val (.ref wy), .val (.ref wy), .unset, .unset, .unset] [(.ref wy)]))
      obtain ⟨T123, X123, e123, st123⟩ := getS2 X122 hx hZ hown (host := "") (Or.inl (hw _ (List.mem_of_getElem? (i := 7) rfl))) Via.refl e122 (oSh.ext O0) (g := (mkF m 18 #[.val (.int p1), .val (.int p2), .val (.ref wy), .val (.ref wy), .unset, .unset, .unset] [(.ref wy)])) rfl (hb hby at_18)
      refine own_go st123 ?_
      show own_Go p e below s _ _ _ (T123.setTop (mkF m 21 #[.val (.int p1), .val (.int p2), .val (.ref wy), .val (.ref wy), .unset, .unset, .unset] [(.ref wy), (.ref wy)]))
      refine own_go (fun _ k => Jvm.RoadKit.acmp (g := (mkF m 21 #[.val (.int p1), .val (.int p2), .val (.ref wy), .val (.ref wy), .unset, .unset, .unset] [(.ref wy), (.ref wy)])) X123 hx rfl rfl rfl (pc0 := 21) (pc' := 24) (same := true) rfl (hb hby at_21) rfl (decide_eq_true rfl) (by decide) (by decide) k) ?_
      show own_Go p e below s _ _ _ (T123.setTop (mkF m 24 #[.val (.int p1), .val (.int p2), .val (.ref wy), .val (.ref wy), .unset, .unset, .unset] []))
      refine own_go (fun _ k => XS.iconst X123.here hx rfl (hb hby at_24) k) ?_
      show own_Go p e below s _ _ _ (T123.setTop (mkF m 25 #[.val (.int p1), .val (.int p2), .val (.ref wy), .val (.ref wy), .unset, .unset, .unset] [(.int (0 : Int32))]))
      refine own_go (fun _ k => XS.istore X123.here hx rfl (hb hby at_25) rfl (l' := #[.val (.int p1), .val (.int p2), .val (.ref wy), .val (.ref wy), .val (.int (0 : Int32)), .unset, .unset]) rfl k) ?_
      show own_Go p e below s _ _ _ (T123.setTop (mkF m 27 #[.val (.int p1), .val (.int p2), .val (.ref wy), .val (.ref wy), .val (.int (0 : Int32)), .unset, .unset] []))
      refine own_go (fun _ k => XS.goto X123.here hx rfl (pc0 := 27) (pc' := 39) rfl (hb hby at_27) (by decide) (by decide) k) ?_
      show own_Go p e below s _ _ _ (T123.setTop (mkF m 39 #[.val (.int p1), .val (.int p2), .val (.ref wy), .val (.ref wy), .val (.int (0 : Int32)), .unset, .unset] []))
      refine own_go (fun _ k => XS.aloadN X123.here hx rfl (hb hby at_39) rfl rfl k) ?_
      show own_Go p e below s _ _ _ (T123.setTop (mkF m 40 #[.val (.int p1), .val (.int p2), .val (.ref wy), .val (.ref wy), .val (.int (0 : Int32)), .unset, .unset] [(.ref wy)]))
      refine own_go (fun _ k => XS.aloadN X123.here hx rfl (hb hby at_40) rfl rfl k) ?_
      show own_Go p e below s _ _ _ (T123.setTop (mkF m 41 #[.val (.int p1), .val (.int p2), .val (.ref wy), .val (.ref wy), .val (.int (0 : Int32)), .unset, .unset] [(.ref wy), (.ref wy)]))
      obtain ⟨v124, T124, L124, X124, hQ124, st124⟩ := own_callV (y := (⟨"com/example/padlock/padlock/lock/Access", "conflictsWith", "(Lcom/example/padlock/padlock/lock/Access;)Z"⟩ : MethodName)) (z := (⟨"com/example/padlock/padlock/lock/Access", "conflictsWith", "(Lcom/example/padlock/padlock/lock/Access;)Z"⟩ : MethodName)) X123 hx hZ hown (hw _ (List.mem_of_getElem? (i := 9) rfl)) (hw _ (List.mem_of_getElem? (i := 10) rfl)) (notFace_of_selects (args := #[]) (mvT hZ (hw _ (List.mem_of_getElem? (i := 12) rfl)))) (hw _ (List.mem_of_getElem? (i := 12) rfl)) (hw _ (List.mem_of_getElem? (i := 11) rfl)) (hw _ (List.mem_of_getElem? (i := 5) rfl)) (hw _ (List.mem_of_getElem? (i := 13) rfl)) (rm_cf l Z a0 hw oEx oSh oE1 oE2 oNe [] wy wy h0 O0) 0 0 0 rfl rfl (by decide) (by decide) (by decide) (by show _ ≤ 0; omega) (by show _ ≤ 0; omega) e123 (oE2.ext O0) (g := (mkF m 41 #[.val (.int p1), .val (.int p2), .val (.ref wy), .val (.ref wy), .val (.int (0 : Int32)), .unset, .unset] [(.ref wy), (.ref wy)])) rfl (by rw [hml]; rfl) [(.ref wy)] [] (lenOf own_pd_1 rfl) rfl rfl (by show 2 * 0 + _ ≤ _; exact Nat.le_of_eq rfl) (hb hby at_41)
      rcases hQ124 with hQ124 | hQ124 | hQ124
      · obtain ⟨rfl, Nc127, hp125, Kc126⟩ := hQ124
        refine own_go st124 ?_
        have N128 := Fr.app N121 Nc127
        exact absurd hp125 (Ne.symm oNe)
      · obtain ⟨rfl, Nc132, hp129, hp130, Kc131⟩ := hQ124
        refine own_go st124 ?_
        have N133 := Fr.app N121 Nc132
        exact absurd hp130 hp129
      · obtain ⟨rfl, Nc137, hp134, hp135, Kc136⟩ := hQ124
        refine own_go st124 ?_
        have N138 := Fr.app N121 Nc137
        show own_Go p e below s _ _ _ (T124.setTop (mkF m 44 #[.val (.int p1), .val (.int p2), .val (.ref wy), .val (.ref wy), .val (.int (0 : Int32)), .unset, .unset] [(.int (0 : Int32))]))
        refine own_go (fun _ k => XS.istore X124.here hx rfl (hb hby at_44) rfl (l' := #[.val (.int p1), .val (.int p2), .val (.ref wy), .val (.ref wy), .val (.int (0 : Int32)), .val (.int (0 : Int32)), .unset]) rfl k) ?_
        show own_Go p e below s _ _ _ (T124.setTop (mkF m 46 #[.val (.int p1), .val (.int p2), .val (.ref wy), .val (.ref wy), .val (.int (0 : Int32)), .val (.int (0 : Int32)), .unset] []))
        refine own_go (fun _ k => XS.aloadN X124.here hx rfl (hb hby at_46) rfl rfl k) ?_
        show own_Go p e below s _ _ _ (T124.setTop (mkF m 47 #[.val (.int p1), .val (.int p2), .val (.ref wy), .val (.ref wy), .val (.int (0 : Int32)), .val (.int (0 : Int32)), .unset] [(.ref wy)]))
        refine own_go (fun _ k => XS.aloadN X124.here hx rfl (hb hby at_47) rfl rfl k) ?_
        show own_Go p e below s _ _ _ (T124.setTop (mkF m 48 #[.val (.int p1), .val (.int p2), .val (.ref wy), .val (.ref wy), .val (.int (0 : Int32)), .val (.int (0 : Int32)), .unset] [(.ref wy), (.ref wy)]))
        obtain ⟨v139, T139, L139, X139, hQ139, st139⟩ := own_callV (y := (⟨"com/example/padlock/padlock/lock/Access", "conflictsWith", "(Lcom/example/padlock/padlock/lock/Access;)Z"⟩ : MethodName)) (z := (⟨"com/example/padlock/padlock/lock/Access", "conflictsWith", "(Lcom/example/padlock/padlock/lock/Access;)Z"⟩ : MethodName)) X124 hx hZ hown (hw _ (List.mem_of_getElem? (i := 9) rfl)) (hw _ (List.mem_of_getElem? (i := 10) rfl)) (notFace_of_selects (args := #[]) (mvT hZ (hw _ (List.mem_of_getElem? (i := 12) rfl)))) (hw _ (List.mem_of_getElem? (i := 12) rfl)) (hw _ (List.mem_of_getElem? (i := 11) rfl)) (hw _ (List.mem_of_getElem? (i := 5) rfl)) (hw _ (List.mem_of_getElem? (i := 13) rfl)) (rm_cf l Z a0 hw oEx oSh oE1 oE2 oNe [] wy wy h0 O0) 0 0 0 rfl rfl (by decide) (by decide) (by decide) (by show _ ≤ 0; omega) (by show _ ≤ 0; omega) Kc136 (oE2.ext O0) (g := (mkF m 48 #[.val (.int p1), .val (.int p2), .val (.ref wy), .val (.ref wy), .val (.int (0 : Int32)), .val (.int (0 : Int32)), .unset] [(.ref wy), (.ref wy)])) rfl (by rw [hml]; rfl) [(.ref wy)] [] (lenOf own_pd_1 rfl) rfl rfl (by show 2 * 0 + _ ≤ _; exact Nat.le_of_eq rfl) (hb hby at_48)
        rcases hQ139 with hQ139 | hQ139 | hQ139
        · obtain ⟨rfl, Nc142, hp140, Kc141⟩ := hQ139
          refine own_go st139 ?_
          have N143 := Fr.app N138 Nc142
          exact absurd hp140 hp135
        · obtain ⟨rfl, Nc147, hp144, hp145, Kc146⟩ := hQ139
          refine own_go st139 ?_
          have N148 := Fr.app N138 Nc147
          exact absurd hp145 hp144
        · obtain ⟨rfl, Nc152, hp149, hp150, Kc151⟩ := hQ139
          refine own_go st139 ?_
          have N153 := Fr.app N138 Nc152
          show own_Go p e below s _ _ _ (T139.setTop (mkF m 51 #[.val (.int p1), .val (.int p2), .val (.ref wy), .val (.ref wy), .val (.int (0 : Int32)), .val (.int (0 : Int32)), .unset] [(.int (0 : Int32))]))
          refine own_go (fun _ k => XS.istore X139.here hx rfl (hb hby at_51) rfl (l' := #[.val (.int p1), .val (.int p2), .val (.ref wy), .val (.ref wy), .val (.int (0 : Int32)), .val (.int (0 : Int32)), .val (.int (0 : Int32))]) rfl k) ?_
          show own_Go p e below s _ _ _ (T139.setTop (mkF m 53 #[.val (.int p1), .val (.int p2), .val (.ref wy), .val (.ref wy), .val (.int (0 : Int32)), .val (.int (0 : Int32)), .val (.int (0 : Int32))] []))
          refine own_go (fun _ k => XS.iload X139.here hx rfl (hb hby at_53) rfl k) ?_
          show own_Go p e below s _ _ _ (T139.setTop (mkF m 55 #[.val (.int p1), .val (.int p2), .val (.ref wy), .val (.ref wy), .val (.int (0 : Int32)), .val (.int (0 : Int32)), .val (.int (0 : Int32))] [(.int (0 : Int32))]))
          refine own_go (fun _ k => XS.iload X139.here hx rfl (hb hby at_55) rfl k) ?_
          show own_Go p e below s _ _ _ (T139.setTop (mkF m 57 #[.val (.int p1), .val (.int p2), .val (.ref wy), .val (.ref wy), .val (.int (0 : Int32)), .val (.int (0 : Int32)), .val (.int (0 : Int32))] [(.int (0 : Int32)), (.int (0 : Int32))]))
          refine own_go (fun _ k => XS.icmpNo X139.here hx rfl (hb hby at_57) rfl (teq (by decide : (0 : Int32) = (0 : Int32))).2 k) ?_
          show own_Go p e below s _ _ _ (T139.setTop (mkF m 60 #[.val (.int p1), .val (.int p2), .val (.ref wy), .val (.ref wy), .val (.int (0 : Int32)), .val (.int (0 : Int32)), .val (.int (0 : Int32))] []))
          refine own_go (fun _ k => XS.iload X139.here hx rfl (hb hby at_60) rfl k) ?_
          show own_Go p e below s _ _ _ (T139.setTop (mkF m 62 #[.val (.int p1), .val (.int p2), .val (.ref wy), .val (.ref wy), .val (.int (0 : Int32)), .val (.int (0 : Int32)), .val (.int (0 : Int32))] [(.int (0 : Int32))]))
          refine own_go (fun _ k => XS.iload X139.here hx rfl (hb hby at_62) rfl k) ?_
          show own_Go p e below s _ _ _ (T139.setTop (mkF m 64 #[.val (.int p1), .val (.int p2), .val (.ref wy), .val (.ref wy), .val (.int (0 : Int32)), .val (.int (0 : Int32)), .val (.int (0 : Int32))] [(.int (0 : Int32)), (.int (0 : Int32))]))
          refine own_go (fun _ k => XS.icmpNo X139.here hx rfl (hb hby at_64) rfl (teq (by decide : (0 : Int32) = (0 : Int32))).2 k) ?_
          show own_Go p e below s _ _ _ (T139.setTop (mkF m 67 #[.val (.int p1), .val (.int p2), .val (.ref wy), .val (.ref wy), .val (.int (0 : Int32)), .val (.int (0 : Int32)), .val (.int (0 : Int32))] []))
          refine own_go (fun _ k => XS.iconst X139.here hx rfl (hb hby at_67) k) ?_
          show own_Go p e below s _ _ _ (T139.setTop (mkF m 68 #[.val (.int p1), .val (.int p2), .val (.ref wy), .val (.ref wy), .val (.int (0 : Int32)), .val (.int (0 : Int32)), .val (.int (0 : Int32))] [(.int (1 : Int32))]))
          refine own_go (fun _ k => XS.goto X139.here hx rfl (pc0 := 68) (pc' := 72) rfl (hb hby at_68) (by decide) (by decide) k) ?_
          show own_Go p e below s _ _ _ (T139.setTop (mkF m 72 #[.val (.int p1), .val (.int p2), .val (.ref wy), .val (.ref wy), .val (.int (0 : Int32)), .val (.int (0 : Int32)), .val (.int (0 : Int32))] [(.int (1 : Int32))]))
          refine own_retN X139 hx hlk Kc151 (t := .boolean) hret (by simp) (hb hby at_72) (by show _ ≤ 0; omega) (by show _ ≤ 0; omega) ?_
          exact ⟨rfl, N153, K0⟩
set_option maxRecDepth 65536 in
set_option maxHeartbeats 40000000 in
theorem comes_1 {Post : Tables → Env → Array Value → State → Outcome → State → Prop} (hpost : ∀ tb e args s v u, (limb_1_1.after args s (.returned v) u = true ∧ limb_1_2.after args s (.returned v) u = true ∧ True) → FrameEnd s (.returned v) u (Jvm.fieldLocs frame_1_writes args s ++ Jvm.arrayLocs frame_1_arrays args s ++ Jvm.staticLocs frame_1_statics s) 0 0 → Post tb e args s (.returned v) u) :
    ArmFor flags0 classFile x code maxLocals ret World_1 tables_1 room_1 Calls_1 rest_1 Pre_1 Post := by
  intro l hfl _ _ p e ha hc hk s m args below hf hA hF happ hP
  obtain ⟨hcalls, hrest, hpre⟩ := hP
  obtain ⟨-, -, -, hnamed, -, -, -, hat⟩ := (Spec.applies_iff hf).mp happ
  obtain ⟨hg, hn⟩ := and_e (Cond.before_iff.mp (show (Jvm.Cond.and given_1 narrow_1).before args s = true from hpre))
  obtain ⟨gA0, gB0⟩ := and_e hg
  obtain ⟨gA1, gB1⟩ := and_e gB0
  obtain ⟨w0, w1, rfl⟩ : ∃ w0 w1 : Value, args = #[w0, w1] := by
    have hs : args.size = 2 := by simpa [Cond.value, given_1] using gA0
    obtain ⟨L⟩ := args
    match L, hs with
    | [w0, w1], _ => exact ⟨w0, w1, rfl⟩
  have hw := fun d (hd : d ∈ tables_1) => atoms_spec (ws := Jvm.Cond.code x code maxLocals ret :: tables_1) hat d (List.mem_cons_of_mem _ hd)
  have hfit : Fit s := fun {y c} hc i hi => by
    obtain ⟨ha, rfl⟩ := Array.getElem?_eq_some_iff.mp hc
    have q := List.all_eq_true.mp ((Array.all_eq_true_iff_forall_mem.mp hF) _ (Array.getElem_mem ha)) i (List.mem_range.mpr hi)
    simpa [Array.getElem?_eq_getElem hi] using q
  obtain ⟨i0, ei0⟩ := is_v gA1
  obtain rfl : w0 = (.int i0) := Option.some.inj ei0
  obtain ⟨i1, ei1⟩ := is_v gB1
  obtain rfl : w1 = (.int i1) := Option.some.inj ei1
  obtain ⟨n1, hn2⟩ := and_e hn
  obtain ⟨n2, hn3⟩ := and_e hn2
  obtain ⟨n3, n4⟩ := and_e hn3
  obtain ⟨wx, e1⟩ := exa_v n1
  obtain ⟨wy, e2⟩ := exa_v n2
  have oE1 := Exa.start e1 n1
  have oE2 := Exa.start e2 n2
  have oEx := Sta.start e1 (Or.inr ⟨(hw _ (List.mem_of_getElem? (i := 5) rfl)), (hw _ (List.mem_of_getElem? (i := 6) rfl))⟩)
  have oSh := Sta.start e2 (Or.inr ⟨(hw _ (List.mem_of_getElem? (i := 5) rfl)), (hw _ (List.mem_of_getElem? (i := 8) rfl))⟩)
  have oNe : wx ≠ wy := own_neOrd n3 n4 e1 e2
  obtain ⟨n, o, h1, h2, h3, _, L, rfl, ⟨rfl, N, -⟩, hq⟩ := rm_law l s _ hw oEx oSh oE1 oE2 oNe tables_1 i0 i1  s.heap ⟨Nat.le_refl _, fun _ _ q => q⟩  p e ha hc hk s m _ below hf ((Spec.applies_iff_loose hf).mp happ).1 ⟨rfl, State.Warmed39.refl s, rfl⟩ trivial
  refine ⟨n, _, h1, h2, h3, hpost _ _ _ _ _ _ ⟨Cond.after_iff.mpr rfl, Cond.after_iff.mpr (eq_i res_at (Term.int_eval (1)) rfl), trivial⟩ ⟨hq.1, hq.2.1, (hq.2.2.sift fun y hy => Or.inr (N y hy)).mono (by decide) (by decide)⟩⟩
theorem main_1_1 : Claimed_1_1 := comes_1 fun _ _ _ _ _ _ h hF => ⟨h.1, hF⟩
theorem main_1_2 : Claimed_1_2 := comes_1 fun _ _ _ _ _ _ h hF => ⟨h.2.1, hF⟩
end Jvm.Pilot.@@N@@
namespace Jvm.Pilot.@@N@@
open Jvm Jvm.ClassFile Sem Op Lib Jvm.Free Jvm.Stand Jvm.Pilot.@@N@@.Jvm.D
/-! MADE BY PROGRAM (witnessworld.py) out of the Statement's table words and the real class files: 13 classes; the members and pool entries that the words name. The judged class is class 1, her method 2. -/
namespace start1
open Jvm.ClassFile
def u (s : String) : CpInfo := .utf8 (stringToUtf16 s)
/-- a pool by its gaps: so many unusable entries, then the entry; so many at the end -/
def gap : Nat → List CpInfo → List CpInfo
  | 0, r => r
  | n + 1, r => .unusable :: gap n r
def poolList (es : List (Nat × CpInfo)) (last : Nat) : List CpInfo := es.foldr (fun e r => gap e.1 (e.2 :: r)) (gap last [])
def pool (es : List (Nat × CpInfo)) (last : Nat) : Array CpInfo := ⟨poolList es last⟩
def fileOf (pool : Array CpInfo) (this : Nat) (attrs : Array Attribute := #[]) (ms : Array MethodInfo := #[]) (fl : Nat := 33) (sup : Nat := 0) (ifs : Array Nat := #[]) (fds : Array FieldInfo := #[]) : ClassFile where
  minorVersion := 0
  majorVersion := 65
  constantPool := pool
  accessFlags := fl
  thisClass := this
  superClass := sup
  interfaces := ifs
  fields := fds
  methods := ms
  attributes := attrs
def plain (name : String) (sup : Option ClassId) : Class where
  name := name
  kind := .ordinary
  loader := none
  accessFlags := 33
  super := sup
  interfaces := #[]
  cf := none
  fields := #[]
  methods := #[]
  instanceTypes := #[]
  staticTypes := #[]
  resolved := #[]
  callSites := []
  init := .initialized
  statics := none
  mirror := none

def pool0 : Array CpInfo := pool [(5, u "<init>"), (0, u "()V"), (1, .class_ 10), (1, u "java/lang/Object")] 113

def k0m0 : Method := { name := "<init>", desc := "()V", sig := { parameters := [], returnType := none }, accessFlags := 1, code := none }
/-- java/lang/Object -/
def k0 : Class := { plain "java/lang/Object" none with
  accessFlags := 33
  interfaces := #[]
  cf := some (fileOf pool0 8 #[] #[{ accessFlags := 1, nameIndex := 5, descriptorIndex := 6, attributes := #[] }] 33 0 #[] #[])
  fields := #[]
  methods := #[k0m0]
  instanceTypes := #[]
  staticTypes := #[]
  resolved := Array.replicate 124 none
  statics := none }

def pool1 : Array CpInfo := pool [(2, .class_ 4), (1, u "java/lang/Object"), (0, u "<init>"), (0, u "()V"), (0, .fieldref 8 9), (0, .class_ 10), (0, .nameAndType 11 12), (0, u "com/example/padlock/padlock/lock/Access"), (0, u "EXCLUSIVE"), (0, u "Lcom/example/padlock/padlock/lock/Access;"), (0, .fieldref 8 14), (0, .nameAndType 15 12), (0, u "SHARED"), (0, .methodref 17 18), (0, .class_ 19), (0, .nameAndType 20 21), (0, u "com/example/padlock/padlock/lock/AccessConflictsWithPinLaw"), (0, u "pick"), (0, u "(I)Lcom/example/padlock/padlock/lock/Access;"), (0, .methodref 8 23), (0, .nameAndType 24 25), (0, u "conflictsWith"), (0, u "(Lcom/example/padlock/padlock/lock/Access;)Z"), (3, u "law"), (0, u "(II)Z")] 2

def k1m0 : Method := { name := "<init>", desc := "()V", sig := { parameters := [], returnType := none }, accessFlags := 1, code := none }
def k1c1 : Code := { maxStack := 2, maxLocals := 1, code := method_2_code, exceptionTable := #[], attributes := #[] }
def k1m1 : Method := { name := "pick", desc := "(I)Lcom/example/padlock/padlock/lock/Access;", sig := { parameters := [.int], returnType := some (.object "com/example/padlock/padlock/lock/Access") }, accessFlags := 10, code := some k1c1 }
def k1c2 : Code := { maxStack := 2, maxLocals := 7, code := code, exceptionTable := #[], attributes := #[] }
def k1m2 : Method := { name := "law", desc := "(II)Z", sig := { parameters := [.int, .int], returnType := some .boolean }, accessFlags := 9, code := some k1c2 }
/-- com/example/padlock/padlock/lock/AccessConflictsWithPinLaw -/
def k1 : Class := { plain "com/example/padlock/padlock/lock/AccessConflictsWithPinLaw" (some 0) with
  accessFlags := 49
  interfaces := #[]
  cf := some (fileOf pool1 17 #[] #[{ accessFlags := 1, nameIndex := 5, descriptorIndex := 6, attributes := #[] }, { accessFlags := 10, nameIndex := 20, descriptorIndex := 21, attributes := #[] }, { accessFlags := 9, nameIndex := 29, descriptorIndex := 30, attributes := #[] }] 49 2 #[] #[])
  fields := #[]
  methods := #[k1m0, k1m1, k1m2]
  instanceTypes := #[]
  staticTypes := #[]
  resolved := Array.replicate 33 none
  statics := none }

def pool2 : Array CpInfo := pool [(1, .class_ 2), (0, u "java/lang/constant/Constable"), (0, .class_ 4), (0, u "java/lang/Object")] 6

/-- java/lang/constant/Constable -/
def k2 : Class := { plain "java/lang/constant/Constable" (some 0) with
  accessFlags := 1537
  interfaces := #[]
  cf := some (fileOf pool2 1 #[] #[] 1537 3 #[] #[])
  fields := #[]
  methods := #[]
  instanceTypes := #[]
  staticTypes := #[]
  resolved := Array.replicate 11 none
  statics := none }

def pool3 : Array CpInfo := pool [(1, .class_ 2), (0, u "java/lang/Comparable"), (0, .class_ 4), (0, u "java/lang/Object")] 7

/-- java/lang/Comparable -/
def k3 : Class := { plain "java/lang/Comparable" (some 0) with
  accessFlags := 1537
  interfaces := #[]
  cf := some (fileOf pool3 1 #[] #[] 1537 3 #[] #[])
  fields := #[]
  methods := #[]
  instanceTypes := #[]
  staticTypes := #[]
  resolved := Array.replicate 12 none
  statics := none }

def pool4 : Array CpInfo := pool [(1, .class_ 2), (0, u "java/io/Serializable"), (0, .class_ 4), (0, u "java/lang/Object")] 2

/-- java/io/Serializable -/
def k4 : Class := { plain "java/io/Serializable" (some 0) with
  accessFlags := 1537
  interfaces := #[]
  cf := some (fileOf pool4 1 #[] #[] 1537 3 #[] #[])
  fields := #[]
  methods := #[]
  instanceTypes := #[]
  staticTypes := #[]
  resolved := Array.replicate 7 none
  statics := none }

def pool5 : Array CpInfo := pool [(2, .class_ 4), (1, u "java/lang/Enum"), (0, u "name"), (0, u "Ljava/lang/String;"), (2, u "ordinal"), (0, u "I"), (1, .class_ 14), (1, u "java/lang/Object"), (4, u "hash"), (86, .class_ 108), (1, u "java/lang/Enum$EnumDesc"), (2, .class_ 112), (0, u "java/lang/constant/Constable"), (0, .class_ 114), (0, u "java/lang/Comparable"), (0, .class_ 116), (0, u "java/io/Serializable")] 87

/-- java/lang/Enum -/
def k5 : Class := { plain "java/lang/Enum" (some 0) with
  accessFlags := 1057
  interfaces := #[2, 3, 4]
  cf := some (fileOf pool5 2 #[.nestMembers #[106]] #[] 1057 12 #[111, 113, 115] #[{ accessFlags := 18, nameIndex := 5, descriptorIndex := 6, attributes := #[] }, { accessFlags := 18, nameIndex := 9, descriptorIndex := 10, attributes := #[] }, { accessFlags := 2, nameIndex := 19, descriptorIndex := 10, attributes := #[] }])
  fields := #[{ name := "name", type := (.object "java/lang/String"), accessFlags := 18, slot := 0, constantValue := 0 }, { name := "ordinal", type := .int, accessFlags := 18, slot := 1, constantValue := 0 }, { name := "hash", type := .int, accessFlags := 2, slot := 2, constantValue := 0 }]
  methods := #[]
  instanceTypes := #[(.object "java/lang/String"), .int, .int]
  staticTypes := #[]
  resolved := Array.replicate 204 none
  statics := none }

def pool6 : Array CpInfo := pool [(7, .class_ 8), (0, u "com/example/padlock/padlock/line/GrantRule"), (0, .class_ 10), (0, u "java/lang/Object")] 11

/-- com/example/padlock/padlock/line/GrantRule -/
def k6 : Class := { plain "com/example/padlock/padlock/line/GrantRule" (some 0) with
  accessFlags := 1537
  interfaces := #[]
  cf := some (fileOf pool6 7 #[] #[] 1537 9 #[] #[])
  fields := #[]
  methods := #[]
  instanceTypes := #[]
  staticTypes := #[]
  resolved := Array.replicate 22 none
  statics := none }

def pool7 : Array CpInfo := pool [(1, .class_ 2), (0, u "com/example/padlock/padlock/lock/Access"), (0, .fieldref 1 4), (0, .nameAndType 5 6), (0, u "EXCLUSIVE"), (0, u "Lcom/example/padlock/padlock/lock/Access;"), (2, u "SHARED"), (2, u "$VALUES"), (0, u "[Lcom/example/padlock/padlock/lock/Access;"), (6, .class_ 22), (1, u "java/lang/Enum"), (8, u "nodePrefix"), (0, u "Ljava/lang/String;"), (2, u "title"), (50, u "conflictsWith"), (0, u "(Lcom/example/padlock/padlock/lock/Access;)Z"), (29, .class_ 118), (0, u "com/example/padlock/padlock/line/GrantRule")] 36

def k7c0 : Code := { maxStack := 2, maxLocals := 2, code := prog_5_method_7_code, exceptionTable := #[], attributes := #[] }
def k7m0 : Method := { name := "conflictsWith", desc := "(Lcom/example/padlock/padlock/lock/Access;)Z", sig := { parameters := [(.object "com/example/padlock/padlock/lock/Access")], returnType := some .boolean }, accessFlags := 0, code := some k7c0 }
/-- com/example/padlock/padlock/lock/Access -/
def k7 : Class := { plain "com/example/padlock/padlock/lock/Access" (some 5) with
  accessFlags := 16433
  interfaces := #[6]
  cf := some (fileOf pool7 1 #[] #[{ accessFlags := 0, nameIndex := 86, descriptorIndex := 87, attributes := #[] }] 16433 20 #[117] #[{ accessFlags := 16409, nameIndex := 5, descriptorIndex := 6, attributes := #[] }, { accessFlags := 16409, nameIndex := 9, descriptorIndex := 6, attributes := #[] }, { accessFlags := 18, nameIndex := 31, descriptorIndex := 32, attributes := #[] }, { accessFlags := 18, nameIndex := 35, descriptorIndex := 32, attributes := #[] }, { accessFlags := 4122, nameIndex := 12, descriptorIndex := 13, attributes := #[] }])
  fields := #[{ name := "EXCLUSIVE", type := (.object "com/example/padlock/padlock/lock/Access"), accessFlags := 16409, slot := 0, constantValue := 0 }, { name := "SHARED", type := (.object "com/example/padlock/padlock/lock/Access"), accessFlags := 16409, slot := 1, constantValue := 0 }, { name := "nodePrefix", type := (.object "java/lang/String"), accessFlags := 18, slot := 3, constantValue := 0 }, { name := "title", type := (.object "java/lang/String"), accessFlags := 18, slot := 4, constantValue := 0 }, { name := "$VALUES", type := (.array (.object "com/example/padlock/padlock/lock/Access")), accessFlags := 4122, slot := 2, constantValue := 0 }]
  methods := #[k7m0]
  instanceTypes := #[(.object "java/lang/String"), .int, .int, (.object "java/lang/String"), (.object "java/lang/String")]
  staticTypes := #[(.object "com/example/padlock/padlock/lock/Access"), (.object "com/example/padlock/padlock/lock/Access"), (.array (.object "com/example/padlock/padlock/lock/Access"))]
  resolved := Array.replicate 155 none
  statics := some 0 }

def pool8 : Array CpInfo := pool [(1, u "java/lang/Cloneable"), (0, .class_ 1), (0, u "java/lang/Object"), (0, .class_ 3)] 3

/-- java/lang/Cloneable -/
def k8 : Class := { plain "java/lang/Cloneable" (some 0) with
  accessFlags := 1537
  interfaces := #[]
  cf := some (fileOf pool8 2 #[] #[] 1537 4 #[] #[])
  fields := #[]
  methods := #[]
  instanceTypes := #[]
  staticTypes := #[]
  resolved := Array.replicate 8 none
  statics := none }

/-- the primitive byte -/
def k9 : Class := { plain "byte" none with kind := .primitive 'B', accessFlags := 0x411 }
/-- [B -/
def k10 : Class := { plain "[B" (some 0) with kind := .array 9 .byte, interfaces := #[8, 4], accessFlags := 1041 }

/-- the primitive int -/
def k11 : Class := { plain "int" none with kind := .primitive 'I', accessFlags := 0x411 }
/-- [I -/
def k12 : Class := { plain "[I" (some 0) with kind := .array 11 .int, interfaces := #[8, 4], accessFlags := 1041 }

def heap : Heap := #[{ cls := 7, slots := #[.ref 1, .ref 2, .null], vm := .statics 7 },
  { cls := 7, slots := #[.null, .int 0, .int 0, .null, .null], vm := .none },
  { cls := 7, slots := #[.null, .int 1, .int 0, .null, .null], vm := .none }]
def classes : Array Class := #[k0, k1, k2, k3, k4, k5, k6, k7, k8, k9, k10, k11, k12]
def interned : List (Array UInt16 × Addr) := []
def slotsUsed : Nat := 13
def theMethod : MethodId := ⟨1, 2⟩
def args0 : Array Value := #[.int 5, .int 6]
def aboutOver (below : List Frame) : State where
  vm := { classes := classes, interned := interned.toArray }
  heap := heap
  slotsUsed := slotsUsed
  threads := #[{ frames := .invoking theMethod args0 :: below }]
def below0 : List Frame := [.native { method := ⟨0, 0⟩, args := #[] }]
def about1 : State := aboutOver below0
def p0 : Program := .bare "" "" ""
def e0 : Env := launch0.env 0 0 0
theorem w_frames : about1.frames = Frame.invoking theMethod args0 :: below0 := rfl
set_option maxRecDepth 65536 in
theorem w_args : argsFit about1.vm theMethod args0 = true := by decide +kernel
set_option maxRecDepth 65536 in
theorem w_heap : heapFits about1 = true := by decide +kernel
set_option maxRecDepth 65536 in
theorem w_runnable : about1.curStatus? = some .runnable := by decide +kernel
set_option maxRecDepth 65536 in
theorem w_alone : about1.alone = true := by decide +kernel
set_option maxRecDepth 65536 in
theorem w_named : about1.methodNamed? x = some theMethod := by decide +kernel
set_option maxRecDepth 65536 in
theorem w_hears : about1.hears theMethod below0 = true := by decide +kernel
set_option maxRecDepth 65536 in
theorem w_ripe : about1.ripe theMethod args0 below0 = true := by decide +kernel
theorem w_running : about1.status = .running := rfl
set_option maxRecDepth 65536 in
theorem w_room : about1.hasRoom e0.platform room_1 = true :=
  launch0.hasRoom_least _ room_1 (by decide +kernel) (by decide +kernel) (by decide +kernel) (by decide +kernel) (by decide +kernel) (by decide +kernel)
theorem allAtoms_all (ts : List Jvm.Cond) (a : Array Jvm.Value) (st : Jvm.State) : (allAtoms ts).before a st = ts.all (fun c => c.before a st) := by
  induction ts with
  | nil => rfl
  | cons c t ih =>
    show (Jvm.Cond.and c (allAtoms t)).before a st = _
    rw [Jvm.Cond.before_and, ih, List.all_cons]
def words1 : List Jvm.Cond := Jvm.Cond.code x code maxLocals ret :: tables_1
/-- a 'code' word, met by the world's own term for the bytes: nothing is compared byte by byte -/
theorem code_word {y : MethodName} {bytes : ByteArray} {mx : Nat} {rt : Option FieldType} {a : Array Value} {s : State} {m : MethodId} {meth : Method} {c : Code} (h1 : s.methodNamed? y = some m) (h2 : s.vm.method? m = some meth) (h3 : meth.code = some c) (h4 : c.code = bytes)
    (h5 : (c.maxLocals == mx && c.exceptionTable.isEmpty && decide (c.maxStack ≤ mostOperands) && decide (meth.sig.returnType = rt) && !meth.locks && decide (parseMethodDescriptor y.desc = some meth.sig)) = true) : (Jvm.Cond.code y bytes mx rt).before a s = true := by
  simp only [Bool.and_eq_true, beq_iff_eq, Bool.not_eq_true', decide_eq_true_eq] at h5
  obtain ⟨⟨⟨⟨⟨g1, g2⟩, g3⟩, g4⟩, g5⟩, g6⟩ := h5
  simp [Cond.before, Cond.holds, Cond.value, h1, h2, h3, h4, g1, g2, g3, g4, g5, g6]
def isCode : Jvm.Cond → Bool
  | .code _ _ _ _ => true
  | _ => false
theorem all_split {L : List Jvm.Cond} {P : Jvm.Cond → Bool} (h1 : L.all (fun c => isCode c || P c) = true) (h2 : ∀ c ∈ L.filter isCode, P c = true) : L.all P = true := by
  refine List.all_eq_true.mpr fun c hc => ?_
  have h := List.all_eq_true.mp h1 c hc
  rcases Bool.eq_false_or_eq_true (isCode c) with hi | hi
  · exact h2 c (List.mem_filter.mpr ⟨hc, hi⟩)
  · simpa [hi] using h
set_option maxRecDepth 65536 in
theorem w_c0 : (Jvm.Cond.code x code maxLocals ret).before args0 about1 = true := code_word (m := ⟨1, 2⟩) (meth := k1m2) (c := k1c2) (by decide +kernel) rfl rfl rfl (by decide +kernel)
set_option maxRecDepth 65536 in
theorem w_c1 : (Jvm.Cond.code ({ cls := "com/example/padlock/padlock/lock/AccessConflictsWithPinLaw", name := "pick", desc := "(I)Lcom/example/padlock/padlock/lock/Access;" } : Jvm.MethodName) method_2_code (1 : Nat) (Option.some (Jvm.ClassFile.FieldType.object "com/example/padlock/padlock/lock/Access"))).before args0 about1 = true := code_word (m := ⟨1, 1⟩) (meth := k1m1) (c := k1c1) (by decide +kernel) rfl rfl rfl (by decide +kernel)
set_option maxRecDepth 65536 in
theorem w_c2 : (Jvm.Cond.code ({ cls := "com/example/padlock/padlock/lock/Access", name := "conflictsWith", desc := "(Lcom/example/padlock/padlock/lock/Access;)Z" } : Jvm.MethodName) prog_5_method_7_code (2 : Nat) (Option.some Jvm.ClassFile.FieldType.boolean)).before args0 about1 = true := code_word (m := ⟨7, 0⟩) (meth := k7m0) (c := k7c0) (by decide +kernel) rfl rfl rfl (by decide +kernel)
def codes1 : List Jvm.Cond := [Jvm.Cond.code x code maxLocals ret, Jvm.Cond.code ({ cls := "com/example/padlock/padlock/lock/AccessConflictsWithPinLaw", name := "pick", desc := "(I)Lcom/example/padlock/padlock/lock/Access;" } : Jvm.MethodName) method_2_code (1 : Nat) (Option.some (Jvm.ClassFile.FieldType.object "com/example/padlock/padlock/lock/Access")), Jvm.Cond.code ({ cls := "com/example/padlock/padlock/lock/Access", name := "conflictsWith", desc := "(Lcom/example/padlock/padlock/lock/Access;)Z" } : Jvm.MethodName) prog_5_method_7_code (2 : Nat) (Option.some Jvm.ClassFile.FieldType.boolean)]
set_option maxRecDepth 65536 in
theorem codes_eq : words1.filter isCode = codes1 := rfl
theorem w_codes : ∀ c ∈ words1.filter isCode, c.before args0 about1 = true := by
  rw [codes_eq]
  intro c hc
  simp only [codes1, List.mem_cons, List.not_mem_nil, or_false] at hc
  rcases hc with rfl | rfl | rfl
  · exact w_c0
  · exact w_c1
  · exact w_c2
set_option maxRecDepth 65536 in
theorem w_t1 : words1.all (fun c => isCode c || c.before args0 about1) = true := by decide +kernel
theorem w_tables : (allAtoms (Jvm.Cond.code x code maxLocals ret :: tables_1)).before args0 about1 = true := by
  rw [allAtoms_all]
  show words1.all (fun c => c.before args0 about1) = true
  refine all_split ?_ w_codes
  rw [w_t1]
set_option maxRecDepth 65536 in
theorem w_case : (Jvm.Cond.and given_1 narrow_1).before args0 about1 = true := by decide +kernel
theorem w_applies : (headSpec (Jvm.Cond.code x code maxLocals ret :: tables_1) room_1).applies x e0.platform about1 = true :=
  (Spec.applies_iff w_frames).mpr ⟨w_running, w_runnable, w_alone, w_named, w_hears, w_ripe, w_room, w_tables⟩
theorem atStart : AtStart classFile x code maxLocals ret World_1 tables_1 room_1 Calls_1 rest_1 Pre_1 launch0 p0 e0 about1 theMethod args0 below0 :=
  ⟨lists_1, trivial, launch0.admits_env _ _ _, launch0.least_env, fairChoices_fair.cas, fairChoices_fair.clock, w_frames, w_args, w_heap, w_applies, trivial, trivial, w_case⟩
end start1
theorem witness_1 : WitnessClaimed_1 := ⟨start1.p0, start1.e0, start1.about1, start1.theMethod, start1.args0, start1.below0, start1.atStart⟩
end Jvm.Pilot.@@N@@
