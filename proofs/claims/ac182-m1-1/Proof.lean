import JvmDerived
import JvmDerived.Pilot.@@N@@Statement
import JvmDerived.Pilot.@@N@@Code
set_option linter.unusedVariables false
set_option linter.unusedSimpArgs false
namespace Jvm.Pilot.@@N@@
open Jvm Jvm.ClassFile Sem Op Lib Jvm.Free Jvm.Stand Jvm.LawKit Jvm.RoadKit Bundle Jvm.Pilot.@@N@@.Jvm.D
/-- the run from U comes to a return whose value, heap and written places Q takes; it has made at most kc cells of ks slots -/
def own_Go (p : Program) (e : Env) (below : List Frame) (s : State) (Q : Option Value → Heap → List Loc → Prop) (kc ks : Nat) (U : State) : Prop :=
  ∃ t o, Steps p.tables e below U t ∧ t.status = .running ∧ Ended t below o ∧ ∃ v L, o = .returned v ∧ Q v t.heap L ∧ FrameEnd s o t L kc ks
section OwnKit
variable {p : Program} {l : Launch} {e : Env} {R : Room} {s : State} {m : MethodId} {args : Array Value} {below : List Frame} {meth : Method} {c : Code} {T : State} {locs : List Loc} {cells slots kc ks : Nat} {Z : State} {a0 : Array Value} {h : Heap} {Q : Option Value → Heap → List Loc → Prop}
theorem own_go {U U' : State} (f : ∀ t, Steps p.tables e below U' t → Steps p.tables e below U t) (g : own_Go p e below s Q kc ks U') : own_Go p e below s Q kc ks U := by
  obtain ⟨t, o, a, r⟩ := g
  exact ⟨t, o, f t a, r⟩
theorem own_end (X : Stand p l e R s m args below meth c T locs cells slots) (hlk : meth.locks = false) (eT : T.heap = h) {v : Option Value} (hv : meth.sig.returnType = none → v = none) (hc : cells ≤ kc) (hs : slots ≤ ks) (hq : Q v h locs) {U : State}
    (hst : ∀ fs, (∀ (f : JFrame) (acts : List Action), f.method = m → f.locked = none → f.entered = [] → (doReturn e (T.setTop f) acts v).1 = T.setFrames fs) → Steps p.tables e below U (T.setFrames fs)) : own_Go p e below s Q kc ks U := by
  obtain ⟨fs, hr, hrun, hended, hW, hsame⟩ := X.leave (v := v) hv hlk
  refine ⟨_, _, hst fs hr, hrun, hended, v, locs, rfl, ?_, ⟨v, rfl⟩, hW, hsame.mono hc hs⟩
  show Q v T.heap locs
  rw [eT]; exact hq
theorem own_retN (X : Stand p l e R s m args below meth c T locs cells slots) (hx : p.tables.exec = Jvm.exec) (hlk : meth.locks = false) (eT : T.heap = h) {pc : Nat} {Ls : Array Slot} {z : Int32} {t : FieldType} {rest : List Value} (hret : meth.sig.returnType = some t) (ht : t = .boolean ∨ t = .byte ∨ t = .char ∨ t = .short)
    (hd : decode c.code pc = .ok (.ireturn, 1)) (hc : cells ≤ kc) (hs : slots ≤ ks) (hq : Q (some (.int (nar t z))) h locs) : own_Go p e below s Q kc ks (T.setTop (mkF m pc Ls (.int z :: rest))) :=
  own_end X hlk eT (fun q => by rw [hret] at q; cases q) hc hs hq fun fs hr => retN X hx hret ht hd hr
theorem own_retI (X : Stand p l e R s m args below meth c T locs cells slots) (hx : p.tables.exec = Jvm.exec) (hlk : meth.locks = false) (eT : T.heap = h) {pc : Nat} {Ls : Array Slot} {z : Int32} {rest : List Value} (hret : meth.sig.returnType = some .int)
    (hd : decode c.code pc = .ok (.ireturn, 1)) (hc : cells ≤ kc) (hs : slots ≤ ks) (hq : Q (some (.int z)) h locs) : own_Go p e below s Q kc ks (T.setTop (mkF m pc Ls (.int z :: rest))) :=
  own_end X hlk eT (fun q => by rw [hret] at q; cases q) hc hs hq fun fs hr => retOut X hx hret rfl (Or.inl ⟨rfl, Or.inl rfl, z, rfl⟩) hd hr
theorem own_retJ (X : Stand p l e R s m args below meth c T locs cells slots) (hx : p.tables.exec = Jvm.exec) (hlk : meth.locks = false) (eT : T.heap = h) {pc : Nat} {Ls : Array Slot} {z : Int64} {rest : List Value} (hret : meth.sig.returnType = some .long)
    (hd : decode c.code pc = .ok (.lreturn, 1)) (hc : cells ≤ kc) (hs : slots ≤ ks) (hq : Q (some (.long z)) h locs) : own_Go p e below s Q kc ks (T.setTop (mkF m pc Ls (.long z :: rest))) :=
  own_end X hlk eT (fun q => by rw [hret] at q; cases q) hc hs hq fun fs hr => retOut X hx hret rfl (Or.inr (Or.inl ⟨rfl, rfl, z, rfl⟩)) hd hr
theorem own_retA (X : Stand p l e R s m args below meth c T locs cells slots) (hx : p.tables.exec = Jvm.exec) (hlk : meth.locks = false) (eT : T.heap = h) {pc : Nat} {Ls : Array Slot} {v : Value} {t : FieldType} {rest : List Value} (hret : meth.sig.returnType = some t) (ht : t.isReference = true) (hv : v.isRef = true)
    (hd : decode c.code pc = .ok (.areturn, 1)) (hc : cells ≤ kc) (hs : slots ≤ ks) (hq : Q (some v) h locs) : own_Go p e below s Q kc ks (T.setTop (mkF m pc Ls (v :: rest))) :=
  own_end X hlk eT (fun q => by rw [hret] at q; cases q) hc hs hq fun fs hr => retOut X hx hret (by cases t <;> first | (cases ht; done) | (rcases ref_cases hv with rfl | ⟨_, rfl⟩ <;> rfl)) (Or.inr (Or.inr (Or.inr (Or.inr ⟨rfl, ht, hv⟩)))) hd hr
theorem own_retV (X : Stand p l e R s m args below meth c T locs cells slots) (hx : p.tables.exec = Jvm.exec) (hlk : meth.locks = false) (eT : T.heap = h) {pc : Nat} {Ls : Array Slot} (hret : meth.sig.returnType = none)
    (hd : decode c.code pc = .ok (.return_, 1)) (hc : cells ≤ kc) (hs : slots ≤ ks) (hq : Q none h locs) : own_Go p e below s Q kc ks (T.setTop (mkF m pc Ls [])) :=
  own_end X hlk eT (fun _ => rfl) hc hs hq fun fs hr => X.returnOut hx hret hd hr
/-- a body's contract out of its walk -/
theorem own_met {y : MethodName} {bytes : ByteArray} {maxL : Nat} {ret : Option FieldType} {ws : List Jvm.Cond} {rm : Room} {as' : Array Value} (kc ks : Nat) (hpl : plainFor y = true)
    (body : ∀ (p : Program) (e : Env) (s : State) (m : MethodId) (below : List Frame) (meth : Method) (c : Code) (T : State), Stand p l e rm s m as' below meth c T [] 0 0 → p.tables.exec = Jvm.exec → c.code = bytes → c.maxLocals = maxL → meth.sig.returnType = ret → meth.locks = false → Z.Warmed39 s.vm → s.vm.findClass y.cls = some m.cls → meth.name = y.name → T.heap = h →
      own_Go p e below s Q kc ks (T.setTop (entryFrame m as' maxL))) :
    MetFree l y (head1 (Jvm.Cond.code y bytes maxL ret :: ws) rm) (fun a U => a = as' ∧ Z.Warmed39 U.vm ∧ U.heap = h) (fun _ _ _ _ _ => True) (fun _ U o U' => ∃ v L, o = .returned v ∧ Q v U'.heap L ∧ FrameEnd U o U' L kc ks) := by
  refine MetFree.of_bodySF hpl hisR ?_
  intro p e s m args below meth c s₁ Bd hml hP hK
  obtain ⟨rfl, hZ, hh⟩ := hP
  obtain ⟨t, o, h1, h2, h3, h4⟩ := body p e s m below meth c s₁ (Stand.of_body Bd) Bd.exec Bd.bytes hml Bd.returns Bd.notSynchronized hZ (findClass_of_methodNamed Bd.named) (name_of_methodNamed Bd.named Bd.method).1 (by rw [← hh, Bd.state]; rfl)
  exact ⟨t, o, h1, h2, h3, h4⟩
abbrev own_Met (l : Launch) (Z : State) (h : Heap) (y : MethodName) (bytes : ByteArray) (maxL : Nat) (ret : Option FieldType) (rm : Room) (as' : Array Value) (Q : Option Value → Heap → List Loc → Prop) : Prop :=
  MetFree l y (head1 [Jvm.Cond.code y bytes maxL ret] rm) (fun a U => a = as' ∧ Z.Warmed39 U.vm ∧ U.heap = h) (fun _ _ _ _ _ => True) (fun _ U o U' => ∃ v L, o = .returned v ∧ Q v U'.heap L ∧ FrameEnd U o U' L rm.cells rm.slots)
abbrev own_MF (l : Launch) (Z : State) (h : Heap) (y : MethodName) (bytes : ByteArray) (maxL : Nat) (ret : Option FieldType) (rm : Room) (as' : Array Value) (Q : Option Value → Heap → List Loc → Prop) (ws : List Jvm.Cond) : Prop :=
  MetFree l y (head1 (Jvm.Cond.code y bytes maxL ret :: ws) rm) (fun a U => a = as' ∧ Z.Warmed39 U.vm ∧ U.heap = h) (fun _ _ _ _ _ => True) (fun _ U o U' => ∃ v L, o = .returned v ∧ Q v U'.heap L ∧ FrameEnd U o U' L rm.cells rm.slots)
theorem own_callS {y : MethodName} {bytes : ByteArray} {maxL : Nat} {ret : Option FieldType} {rm : Room} {as' : Array Value} {own : String} {index : Nat} (X : Stand p l e R s m args below meth c T locs cells slots) (hx : p.tables.exec = Jvm.exec) (hZ : Z.Warmed39 s.vm) (hown : s.vm.findClass own = some m.cls)
    (w1 : (Jvm.Cond.methodLink own index y).before a0 Z = true) (w2 : (Jvm.Cond.static y).before a0 Z = true) (w3 : (Jvm.Cond.initialized y.cls).before a0 Z = true) (w4 : (Jvm.Cond.code y bytes maxL ret).before a0 Z = true) (hM : own_Met l Z h y bytes maxL ret rm as' Q) (W : Nat) (nc ns : Nat) 
    (hc : cells + nc ≤ R.cells) (hs : slots + ns ≤ R.slots) (eT : T.heap = h) {g : JFrame} (hg : g.method = m) (hsize : g.locals.size = c.maxLocals)
    (argsL rest : List Value) (hlen : ∀ sig, parseMethodDescriptor y.desc = some sig → argsL.length = sig.parameters.length) (hstack : g.stack = argsL.reverse ++ rest) (has : argsL.toArray = as') (hdg : decode c.code g.pc = .ok (.invokestatic index, 3))
    (hy : y.cls ≠ "java/lang/invoke/MethodHandle" ∧ y.cls ≠ "java/lang/invoke/VarHandle" := by decide) (hf : rm.frames + 1 ≤ R.frames := by decide) (hl : W + (maxL + 11) + rm.locals ≤ R.locals := by decide) (hW : 2 * g.monitorRoom + (rest.map fun v => v.category).sum ≤ W := by exact Nat.le_of_eq rfl) (hnc : rm.cells = nc := by rfl) (hns : rm.slots = ns := by rfl) :
    ∃ v T' L, Stand p l e R s m args below meth c T' (locs ++ L) (cells + nc) (slots + ns) ∧ Q v T'.heap L ∧ ∀ target, Steps p.tables e below (T'.setTop { g with pc := g.pc + 3, stack := v.toList ++ rest }) target → Steps p.tables e below (T.setTop g) target := by
  subst hnc hns
  obtain ⟨v, _, ⟨T', L', k', n'⟩, -, X', ⟨L, hQ, h1, h2, h3⟩, st⟩ := Jvm.LawKit.callS X hx hown (mvT hZ w1) (mvT hZ w2) (mvT hZ w3) (mvT hZ w4) hy (backOf (W := W) hM hZ w4 w3 hf hl) hg hsize hlen hstack hW hdg (fun _ _ => ⟨has, eT, hc, hs⟩)
  dsimp only [Pt.U, Pt.locs, Pt.cells, Pt.slots] at X' hQ h1 h2 h3 st
  subst h1 h2 h3
  exact ⟨v, T', L, X', hQ, st⟩
theorem own_callI {y : MethodName} {bytes : ByteArray} {maxL : Nat} {rm : Room} {as' : Array Value} {own : String} {index : Nat} (X : Stand p l e R s m args below meth c T locs cells slots) (hx : p.tables.exec = Jvm.exec) (hZ : Z.Warmed39 s.vm) (hown : s.vm.findClass own = some m.cls)
    (w1 : (Jvm.Cond.methodLink own index y).before a0 Z = true) (w2 : (Jvm.Cond.instanceMethod y).before a0 Z = true) (w3 : (Jvm.Cond.initialized y.cls).before a0 Z = true) (w4 : (Jvm.Cond.code y bytes maxL none).before a0 Z = true) (hM : own_Met l Z h y bytes maxL none rm as' Q) (W : Nat) (nc ns : Nat) (hy1 : y.name = "<init>")
    (hc : cells + nc ≤ R.cells) (hs : slots + ns ≤ R.slots) (eT : T.heap = h) {g : JFrame} (hg : g.method = m) (hsize : g.locals.size = c.maxLocals)
    (a : Addr) (argsL rest : List Value) (hlen : ∀ sig, parseMethodDescriptor y.desc = some sig → argsL.length = sig.parameters.length) (hstack : g.stack = argsL.reverse ++ .ref a :: rest) (has : (Value.ref a :: argsL).toArray = as') (hdg : decode c.code g.pc = .ok (.invokespecial index, 3))
    (hy : y.cls ≠ "java/lang/invoke/MethodHandle" ∧ y.cls ≠ "java/lang/invoke/VarHandle" := by decide) (hf : rm.frames + 1 ≤ R.frames := by decide) (hl : W + (maxL + 11) + rm.locals ≤ R.locals := by decide) (hW : 2 * g.monitorRoom + (rest.map fun v => v.category).sum ≤ W := by exact Nat.le_of_eq rfl) (hnc : rm.cells = nc := by rfl) (hns : rm.slots = ns := by rfl) :
    ∃ v T' L, Stand p l e R s m args below meth c T' (locs ++ L) (cells + nc) (slots + ns) ∧ Q v T'.heap L ∧ ∀ target, Steps p.tables e below (T'.setTop { g with pc := g.pc + 3, stack := v.toList ++ rest }) target → Steps p.tables e below (T.setTop g) target := by
  subst hnc hns
  obtain ⟨v, _, ⟨T', L', k', n'⟩, -, X', ⟨L, hQ, h1, h2, h3⟩, st⟩ := X.specialBack hx hy1 hown (mvT hZ w1) (mvT hZ w2) (mvT hZ w4) hy (backOf (W := W) hM hZ w4 w3 hf hl) hg hsize (Steps.refl _) (a := a) (argsL := argsL) (rest := rest) hlen hstack hW hdg (fun _ _ => ⟨has, eT, hc, hs⟩)
  dsimp only [Pt.U, Pt.locs, Pt.cells, Pt.slots] at X' hQ h1 h2 h3 st
  subst h1 h2 h3
  exact ⟨v, T', L, X', hQ, fun _ k => st.trans k⟩
theorem own_callV {y z : MethodName} {bytes : ByteArray} {maxL : Nat} {ret : Option FieldType} {rm : Room} {as' : Array Value} {own C : String} {index : Nat} (X : Stand p l e R s m args below meth c T locs cells slots) (hx : p.tables.exec = Jvm.exec) (hZ : Z.Warmed39 s.vm) (hown : s.vm.findClass own = some m.cls)
    (w1 : (Jvm.Cond.methodLink own index y).before a0 Z = true) (wd : (Jvm.Cond.declares y).before a0 Z = true) (nf : NotFace s y) (wsel : (Jvm.Cond.selects C y z).before a0 Z = true) (w2 : (Jvm.Cond.instanceMethod z).before a0 Z = true) (w3 : (Jvm.Cond.initialized z.cls).before a0 Z = true) (w4 : (Jvm.Cond.code z bytes maxL ret).before a0 Z = true) (hM : own_Met l Z h z bytes maxL ret rm as' Q) (W : Nat) (nc ns : Nat) 
    (hc : cells + nc ≤ R.cells) (hs : slots + ns ≤ R.slots) (eT : T.heap = h) {a : Addr} (E : Exa Z h a C) {g : JFrame} (hg : g.method = m) (hsize : g.locals.size = c.maxLocals)
    (argsL rest : List Value) (hlen : ∀ sig, parseMethodDescriptor y.desc = some sig → argsL.length = sig.parameters.length) (hstack : g.stack = argsL.reverse ++ .ref a :: rest) (has : (Value.ref a :: argsL).toArray = as') (hdg : decode c.code g.pc = .ok (.invokevirtual index, 3))
    (hy : y.cls ≠ "java/lang/invoke/MethodHandle" ∧ y.cls ≠ "java/lang/invoke/VarHandle" := by decide) (hf : rm.frames + 1 ≤ R.frames := by decide) (hl : W + (maxL + 11) + rm.locals ≤ R.locals := by decide) (hW : 2 * g.monitorRoom + (rest.map fun v => v.category).sum ≤ W := by exact Nat.le_of_eq rfl) (hnc : rm.cells = nc := by rfl) (hns : rm.slots = ns := by rfl) :
    ∃ v T' L, Stand p l e R s m args below meth c T' (locs ++ L) (cells + nc) (slots + ns) ∧ Q v T'.heap L ∧ ∀ target, Steps p.tables e below (T'.setTop { g with pc := g.pc + 3, stack := v.toList ++ rest }) target → Steps p.tables e below (T.setTop g) target := by
  subst hnc hns
  obtain ⟨cq, kq, qa, qb, qc⟩ := isOf hZ eT E
  obtain ⟨v, _, ⟨T', L', k', n'⟩, -, X', ⟨L, hQ, h1, h2, h3⟩, st⟩ := X.virtualBack hx hown (mvT hZ w1) (mvT hZ wd) nf (mvT hZ wsel) (mvT hZ w2) hy (backOf (W := W) hM hZ w4 w3 hf hl) qa qc hg hsize (Steps.refl _) (argsL := argsL) (rest := rest) hlen hstack hW hdg (fun _ _ => ⟨has, eT, hc, hs⟩)
  dsimp only [Pt.U, Pt.locs, Pt.cells, Pt.slots] at X' hQ h1 h2 h3 st
  subst h1 h2 h3
  exact ⟨v, T', L, X', hQ, fun _ k => st.trans k⟩
theorem own_callP {y : MethodName} {bytes : ByteArray} {maxL : Nat} {ret : Option FieldType} {rm : Room} {as' : Array Value} {own C : String} {index : Nat} (X : Stand p l e R s m args below meth c T locs cells slots) (hx : p.tables.exec = Jvm.exec) (hZ : Z.Warmed39 s.vm) (hown : s.vm.findClass own = some m.cls)
    (w1 : (Jvm.Cond.methodLink own index y).before a0 Z = true) (w2 : (Jvm.Cond.instanceMethod y).before a0 Z = true) (wsel : (Jvm.Cond.selects y.cls y y).before a0 Z = true) (wp : (Jvm.Cond.privateMethod y).before a0 Z = true) (w3 : (Jvm.Cond.initialized y.cls).before a0 Z = true) (w4 : (Jvm.Cond.code y bytes maxL ret).before a0 Z = true) (hM : own_Met l Z h y bytes maxL ret rm as' Q) (W : Nat) (nc ns : Nat) 
    (hc : cells + nc ≤ R.cells) (hs : slots + ns ≤ R.slots) (eT : T.heap = h) {a : Addr} (E : Exa Z h a C) {g : JFrame} (hg : g.method = m) (hsize : g.locals.size = c.maxLocals)
    (argsL rest : List Value) (hlen : ∀ sig, parseMethodDescriptor y.desc = some sig → argsL.length = sig.parameters.length) (hstack : g.stack = argsL.reverse ++ .ref a :: rest) (has : (Value.ref a :: argsL).toArray = as') (hdg : decode c.code g.pc = .ok (.invokevirtual index, 3))
    (hy : y.cls ≠ "java/lang/invoke/MethodHandle" ∧ y.cls ≠ "java/lang/invoke/VarHandle" := by decide) (hf : rm.frames + 1 ≤ R.frames := by decide) (hl : W + (maxL + 11) + rm.locals ≤ R.locals := by decide) (hW : 2 * g.monitorRoom + (rest.map fun v => v.category).sum ≤ W := by exact Nat.le_of_eq rfl) (hnc : rm.cells = nc := by rfl) (hns : rm.slots = ns := by rfl) :
    ∃ v T' L, Stand p l e R s m args below meth c T' (locs ++ L) (cells + nc) (slots + ns) ∧ Q v T'.heap L ∧ ∀ target, Steps p.tables e below (T'.setTop { g with pc := g.pc + 3, stack := v.toList ++ rest }) target → Steps p.tables e below (T.setTop g) target := by
  subst hnc hns
  obtain ⟨cq, q1, q2⟩ := E.cell
  obtain ⟨v, _, ⟨T', L', k', n'⟩, -, X', ⟨L, hQ, h1, h2, h3⟩, st⟩ := X.privateBack hx hown (mvT hZ w1) (mvT hZ w2) (mvT hZ wsel) (Cond.privateMethod_at (mvP hZ wp (args := #[]))) (mvT hZ w4) hy (backOf (W := W) hM hZ w4 w3 hf hl) hg hsize (Steps.refl _) (a := a) (by rw [eT]; exact q1) q2 (argsL := argsL) (rest := rest) hlen hstack hW hdg (fun _ _ => ⟨has, eT, hc, hs⟩)
  dsimp only [Pt.U, Pt.locs, Pt.cells, Pt.slots] at X' hQ h1 h2 h3 st
  subst h1 h2 h3
  exact ⟨v, T', L, X', hQ, fun _ k => st.trans k⟩
theorem own_callF {xi y : MethodName} {bytes : ByteArray} {maxL : Nat} {ret : Option FieldType} {rm : Room} {as' : Array Value} {own C : String} {index count : Nat} (X : Stand p l e R s m args below meth c T locs cells slots) (hx : p.tables.exec = Jvm.exec) (hZ : Z.Warmed39 s.vm) (hown : s.vm.findClass own = some m.cls)
    (w1 : (Jvm.Cond.methodLink own index xi).before a0 Z = true) (wd : (Jvm.Cond.declares xi).before a0 Z = true) (wfa : (Jvm.Cond.interfaceMethod xi.cls xi.cls xi.name xi.desc).before a0 Z = true) (wsel : (Jvm.Cond.selects C xi y).before a0 Z = true) (w2 : (Jvm.Cond.instanceMethod y).before a0 Z = true) (wp : (Jvm.Cond.publicMethod y).before a0 Z = true) (wu : (Jvm.Cond.unhidden C xi.name xi.desc).before a0 Z = true) (wk : (Jvm.Cond.castable C xi.cls).before a0 Z = true) (w3 : (Jvm.Cond.initialized y.cls).before a0 Z = true) (w4 : (Jvm.Cond.code y bytes maxL ret).before a0 Z = true) (hfk : ((Jvm.Cond.interfaceMethod xi.cls xi.cls xi.name xi.desc).onTables && (Jvm.Cond.interfaceMethod xi.cls xi.cls xi.name xi.desc).keepsFace) = true) (hM : own_Met l Z h y bytes maxL ret rm as' Q) (W : Nat) (nc ns : Nat) 
    (hc : cells + nc ≤ R.cells) (hs : slots + ns ≤ R.slots) (eT : T.heap = h) {a : Addr} (E : Exa Z h a C) {g : JFrame} (hg : g.method = m) (hsize : g.locals.size = c.maxLocals)
    (argsL rest : List Value) (hlen : ∀ sig, parseMethodDescriptor xi.desc = some sig → argsL.length = sig.parameters.length) (hstack : g.stack = argsL.reverse ++ .ref a :: rest) (has : (Value.ref a :: argsL).toArray = as') (hdg : decode c.code g.pc = .ok (.invokeinterface index count, 5))
    (hy : xi.cls ≠ "java/lang/invoke/MethodHandle" ∧ xi.cls ≠ "java/lang/invoke/VarHandle" := by decide) (hf : rm.frames + 1 ≤ R.frames := by decide) (hl : W + (maxL + 11) + rm.locals ≤ R.locals := by decide) (hW : 2 * g.monitorRoom + (rest.map fun v => v.category).sum ≤ W := by exact Nat.le_of_eq rfl) (hnc : rm.cells = nc := by rfl) (hns : rm.slots = ns := by rfl) :
    ∃ v T' L, Stand p l e R s m args below meth c T' (locs ++ L) (cells + nc) (slots + ns) ∧ Q v T'.heap L ∧ ∀ target, Steps p.tables e below (T'.setTop { g with pc := g.pc + 5, stack := v.toList ++ rest }) target → Steps p.tables e below (T.setTop g) target := by
  subst hnc hns
  obtain ⟨cq, kq, qa, qb, qc⟩ := isOf hZ eT E
  obtain ⟨v, _, ⟨T', L', k', n'⟩, -, X', ⟨L, hQ, h1, h2, h3⟩, st⟩ := X.interfaceBack hx hown (mvT hZ w1) (mvT hZ wd) (mvT hZ wfa hfk) (mvT hZ wsel) (mvT hZ w2) (mvT hZ wp) (mvT hZ wu) (mvT hZ wk) hy (backOf (W := W) hM hZ w4 w3 hf hl) qa qb qc hg hsize (Steps.refl _) (argsL := argsL) (rest := rest) hlen hstack hW hdg (fun _ _ => ⟨has, eT, hc, hs⟩)
  dsimp only [Pt.U, Pt.locs, Pt.cells, Pt.slots] at X' hQ h1 h2 h3 st
  subst h1 h2 h3
  exact ⟨v, T', L, X', hQ, fun _ k => st.trans k⟩
theorem own_callU {y z : MethodName} {bytes : ByteArray} {maxL : Nat} {ret : Option FieldType} {rm : Room} {as' : Array Value} {own owner C : String} {index : Nat} (X : Stand p l e R s m args below meth c T locs cells slots) (hx : p.tables.exec = Jvm.exec) (hZ : Z.Warmed39 s.vm) (hown : s.vm.findClass own = some m.cls)
    (w1 : (Jvm.Cond.methodLink own index y).before a0 Z = true) (wsm : (Jvm.Cond.sameMethod y.cls owner y.name y.desc).before a0 Z = true) (wd : (Jvm.Cond.declares ⟨owner, y.name, y.desc⟩).before a0 Z = true) (wsel : (Jvm.Cond.selects C y z).before a0 Z = true) (w2 : (Jvm.Cond.instanceMethod z).before a0 Z = true) (w3 : (Jvm.Cond.initialized z.cls).before a0 Z = true) (w4 : (Jvm.Cond.code z bytes maxL ret).before a0 Z = true) (hM : own_Met l Z h z bytes maxL ret rm as' Q) (W : Nat) (nc ns : Nat) 
    (hc : cells + nc ≤ R.cells) (hs : slots + ns ≤ R.slots) (eT : T.heap = h) {a : Addr} (E : Exa Z h a C) {g : JFrame} (hg : g.method = m) (hsize : g.locals.size = c.maxLocals)
    (argsL rest : List Value) (hlen : ∀ sig, parseMethodDescriptor y.desc = some sig → argsL.length = sig.parameters.length) (hstack : g.stack = argsL.reverse ++ .ref a :: rest) (has : (Value.ref a :: argsL).toArray = as') (hdg : decode c.code g.pc = .ok (.invokevirtual index, 3))
    (howner : owner ≠ "java/lang/invoke/MethodHandle" ∧ owner ≠ "java/lang/invoke/VarHandle" := by decide) (hf : rm.frames + 1 ≤ R.frames := by decide) (hl : W + (maxL + 11) + rm.locals ≤ R.locals := by decide) (hW : 2 * g.monitorRoom + (rest.map fun v => v.category).sum ≤ W := by exact Nat.le_of_eq rfl) (hnc : rm.cells = nc := by rfl) (hns : rm.slots = ns := by rfl) :
    ∃ v T' L, Stand p l e R s m args below meth c T' (locs ++ L) (cells + nc) (slots + ns) ∧ Q v T'.heap L ∧ ∀ target, Steps p.tables e below (T'.setTop { g with pc := g.pc + 3, stack := v.toList ++ rest }) target → Steps p.tables e below (T.setTop g) target := by
  subst hnc hns
  obtain ⟨cq, kq, qa, qb, qc⟩ := isOf hZ eT E
  obtain ⟨v, _, ⟨T', L', k', n'⟩, -, X', ⟨L, hQ, h1, h2, h3⟩, st⟩ := X.virtualBackUp hx hown (mvT hZ w1) (mvT hZ wsm) (mvT hZ wd) howner (mvT hZ wsel) (mvT hZ w2) (backOf (W := W) hM hZ w4 w3 hf hl) qa qc hg hsize (Steps.refl _) (argsL := argsL) (rest := rest) hlen hstack hW hdg (fun _ _ => ⟨has, eT, hc, hs⟩)
  dsimp only [Pt.U, Pt.locs, Pt.cells, Pt.slots] at X' hQ h1 h2 h3 st
  subst h1 h2 h3
  exact ⟨v, T', L, X', hQ, fun _ k => st.trans k⟩
theorem own_callIB {y : MethodName} {bytes : ByteArray} {maxL : Nat} {as' : Array Value} {own : String} {index : Nat} (X : Stand p l e R s m args below meth c T locs cells slots) (hx : p.tables.exec = Jvm.exec) (hZ : Z.Warmed39 s.vm) (hown : s.vm.findClass own = some m.cls)
    (w1 : (Jvm.Cond.methodLink own index y).before a0 Z = true) (w2 : (Jvm.Cond.instanceMethod y).before a0 Z = true) (w3 : (Jvm.Cond.initialized y.cls).before a0 Z = true) (w4 : (Jvm.Cond.code y bytes maxL none).before a0 Z = true) (W nc ns : Nat) (hB : Back l R p e below s args y 3 W (fun A a => a = as' ∧ A.U.heap = h ∧ A.cells + nc ≤ R.cells ∧ A.slots + ns ≤ R.slots) (fun A _ v B => ∃ L, Q v B.U.heap L ∧ B.locs = A.locs ++ L ∧ B.cells = A.cells + nc ∧ B.slots = A.slots + ns)) (hy1 : y.name = "<init>")
    (hc : cells + nc ≤ R.cells) (hs : slots + ns ≤ R.slots) (eT : T.heap = h) {g : JFrame} (hg : g.method = m) (hsize : g.locals.size = c.maxLocals)
    (a : Addr) (argsL rest : List Value) (hlen : ∀ sig, parseMethodDescriptor y.desc = some sig → argsL.length = sig.parameters.length) (hstack : g.stack = argsL.reverse ++ .ref a :: rest) (has : (Value.ref a :: argsL).toArray = as') (hdg : decode c.code g.pc = .ok (.invokespecial index, 3))
    (hy : y.cls ≠ "java/lang/invoke/MethodHandle" ∧ y.cls ≠ "java/lang/invoke/VarHandle" := by decide) (hW : 2 * g.monitorRoom + (rest.map fun v => v.category).sum ≤ W := by exact Nat.le_of_eq rfl) :
    ∃ v T' L, Stand p l e R s m args below meth c T' (locs ++ L) (cells + nc) (slots + ns) ∧ Q v T'.heap L ∧ ∀ target, Steps p.tables e below (T'.setTop { g with pc := g.pc + 3, stack := v.toList ++ rest }) target → Steps p.tables e below (T.setTop g) target := by
  obtain ⟨v, _, ⟨T', L', k', n'⟩, -, X', ⟨L, hQ, h1, h2, h3⟩, st⟩ := X.specialBack hx hy1 hown (mvT hZ w1) (mvT hZ w2) (mvT hZ w4) hy hB hg hsize (Steps.refl _) (a := a) (argsL := argsL) (rest := rest) hlen hstack hW hdg (fun _ _ => ⟨has, eT, hc, hs⟩)
  dsimp only [Pt.U, Pt.locs, Pt.cells, Pt.slots] at X' hQ h1 h2 h3 st
  subst h1 h2 h3
  exact ⟨v, T', L, X', hQ, fun _ k => st.trans k⟩
theorem own_callVB {y z : MethodName} {bytes : ByteArray} {maxL : Nat} {ret : Option FieldType} {as' : Array Value} {own C : String} {index : Nat} (X : Stand p l e R s m args below meth c T locs cells slots) (hx : p.tables.exec = Jvm.exec) (hZ : Z.Warmed39 s.vm) (hown : s.vm.findClass own = some m.cls)
    (w1 : (Jvm.Cond.methodLink own index y).before a0 Z = true) (wd : (Jvm.Cond.declares y).before a0 Z = true) (nf : NotFace s y) (wsel : (Jvm.Cond.selects C y z).before a0 Z = true) (w2 : (Jvm.Cond.instanceMethod z).before a0 Z = true) (w3 : (Jvm.Cond.initialized z.cls).before a0 Z = true) (w4 : (Jvm.Cond.code z bytes maxL ret).before a0 Z = true) (W nc ns : Nat) (hB : Back l R p e below s args z 3 W (fun A a => a = as' ∧ A.U.heap = h ∧ A.cells + nc ≤ R.cells ∧ A.slots + ns ≤ R.slots) (fun A _ v B => ∃ L, Q v B.U.heap L ∧ B.locs = A.locs ++ L ∧ B.cells = A.cells + nc ∧ B.slots = A.slots + ns)) 
    (hc : cells + nc ≤ R.cells) (hs : slots + ns ≤ R.slots) (eT : T.heap = h) {a : Addr} (E : Exa Z h a C) {g : JFrame} (hg : g.method = m) (hsize : g.locals.size = c.maxLocals)
    (argsL rest : List Value) (hlen : ∀ sig, parseMethodDescriptor y.desc = some sig → argsL.length = sig.parameters.length) (hstack : g.stack = argsL.reverse ++ .ref a :: rest) (has : (Value.ref a :: argsL).toArray = as') (hdg : decode c.code g.pc = .ok (.invokevirtual index, 3))
    (hy : y.cls ≠ "java/lang/invoke/MethodHandle" ∧ y.cls ≠ "java/lang/invoke/VarHandle" := by decide) (hW : 2 * g.monitorRoom + (rest.map fun v => v.category).sum ≤ W := by exact Nat.le_of_eq rfl) :
    ∃ v T' L, Stand p l e R s m args below meth c T' (locs ++ L) (cells + nc) (slots + ns) ∧ Q v T'.heap L ∧ ∀ target, Steps p.tables e below (T'.setTop { g with pc := g.pc + 3, stack := v.toList ++ rest }) target → Steps p.tables e below (T.setTop g) target := by
  obtain ⟨cq, kq, qa, qb, qc⟩ := isOf hZ eT E
  obtain ⟨v, _, ⟨T', L', k', n'⟩, -, X', ⟨L, hQ, h1, h2, h3⟩, st⟩ := X.virtualBack hx hown (mvT hZ w1) (mvT hZ wd) nf (mvT hZ wsel) (mvT hZ w2) hy hB qa qc hg hsize (Steps.refl _) (argsL := argsL) (rest := rest) hlen hstack hW hdg (fun _ _ => ⟨has, eT, hc, hs⟩)
  dsimp only [Pt.U, Pt.locs, Pt.cells, Pt.slots] at X' hQ h1 h2 h3 st
  subst h1 h2 h3
  exact ⟨v, T', L, X', hQ, fun _ k => st.trans k⟩
/-- the start's heap stands in h unchanged -/
theorem own_oldExt {h' : Heap} (O : Ext Z.heap h) (E : Ext h h') : Ext Z.heap h' := ⟨Nat.le_trans O.1 E.1, fun x c q => E.2 x c (O.2 x c q)⟩
theorem own_oldKeep {h' : Heap} {ws : List Addr} (O : Ext Z.heap h) (K : Keep h h' ws) (q : ∀ x ∈ ws, Z.heap.size ≤ x) : Ext Z.heap h' :=
  ⟨Nat.le_trans O.1 K.1, fun x c r => K.2.1 x c (O.2 x c r) fun z => absurd (Array.getElem?_eq_some_iff.mp r).1 (Nat.not_lt.mpr (q x z))⟩
theorem own_oldWr {h' : Heap} {a : Addr} {sl : Nat} {v : Value} (O : Ext Z.heap h) (W : Wr h h' a sl v) (q : Z.heap.size ≤ a) : Ext Z.heap h' := own_oldKeep O (Keep.of_wr W) (allS q all0)
theorem own_keepTrans {h0 h' : Heap} {ws : List Addr} (K : Keep h0 h ws) (K' : Keep h h' []) : Keep h0 h' ws := K.trans K' fun x q => nomatch q
theorem own_insKeep {h' : Heap} {ws : List Addr} {a : Addr} {C : String} {b : Bool} (F : Ins Z h a C b) (K : Keep h h' ws) : Ins Z h' a C b := by
  obtain ⟨cell, cT, h1, h2, h3⟩ := F
  obtain ⟨c', q1, q2, q3, -⟩ := K.2.2 a cell h1
  exact ⟨c', cT, q1, h2, by rw [q2, q3]; exact h3⟩
theorem own_cat1 {v : Value} (r : v.isRef = true) : v.category = 1 := by cases v <;> simp [Value.isRef, Value.category] at r ⊢
theorem own_fitsRef {v : Value} (t : FieldType) (r : v.isRef = true) (ht : t.isReference = true) : fits t v = true := by
  cases t <;> first | (cases ht; done) | (rcases ref_cases r with rfl | ⟨_, rfl⟩ <;> rfl)
theorem own_narRef {v : Value} (t : FieldType) (r : v.isRef = true) (ht : t.isReference = true) : narrow t v = v := by
  cases t <;> first | (cases ht; done) | (rcases ref_cases r with rfl | ⟨_, rfl⟩ <;> rfl)
theorem own_keepSub {h0 : Heap} {ws ws' : List Addr} (K : Keep h0 h ws) (q : ∀ x ∈ ws, x ∈ ws') : Keep h0 h ws' := ⟨K.1, fun x c r z => K.2.1 x c r fun u => z (q x u), K.2.2⟩
theorem own_neTy {a b : Addr} {k k' : ClassId} {ty ty' : FieldType} {z z' : Int32} {vs vs' : List Value} {d d' : Value} (F : Arv Z h a k ty z vs d) (G : Arv Z h b k' ty' z' vs' d') (hn : ty ≠ ty') : a ≠ b := by
  rintro rfl
  obtain ⟨c, A, -⟩ := F
  obtain ⟨c', A', -⟩ := G
  cases A.1.symm.trans A'.1
  obtain ⟨-, k1, q1, cm1, r1⟩ := A.2.1
  obtain ⟨-, k2, q2, cm2, r2⟩ := A'.2.1
  cases q1.symm.trans q2
  rw [r1] at r2
  cases r2
  exact hn rfl
theorem own_catR (a : Addr) : (Value.ref a).category = 1 := rfl
theorem own_catN : Value.null.category = 1 := rfl
theorem own_catI (a : Int32) : (Value.int a).category = 1 := rfl
theorem own_catJ (a : Int64) : (Value.long a).category = 2 := rfl
end OwnKit
/-- no String constant's text is asked of the start -/
def own_L (Z : State) (a0 : Array Value) : Prop := True
def own_J (Z : State) (vm : Vm) (h : Heap) : Prop := True
theorem own_Jwarm {Z s : State} {vm vm' : Vm} {h : Heap} {a0 : Array Value} (L : own_L Z a0) (hZ : Z.Warmed39 vm) (hJ : own_J Z vm h) (hW : (s.setVm vm).WarmedH vm') : own_J Z vm' h := trivial
theorem own_Jext {Z : State} {vm : Vm} {h h' : Heap} (hJ : own_J Z vm h) (E : Ext h h') : own_J Z vm h' := trivial
theorem own_Jany {Z : State} {vm : Vm} {h : Heap} (hJ : own_J Z vm h) (h' : Heap) : own_J Z vm h' := trivial
/-- the run from U comes to a return whose value, heap and written places Q takes; it has made at most kc cells of ks slots; String constants may have been resolved on the way -/
def own_GoW (p : Program) (e : Env) (below : List Frame) (s Z : State) (Q : Option Value → Heap → List Loc → Prop) (kc ks : Nat) (U : State) : Prop :=
  ∃ t o, Steps p.tables e below U t ∧ t.status = .running ∧ Ended t below o ∧ ∃ v L, o = .returned v ∧ (Q v t.heap L ∧ own_J Z t.vm t.heap) ∧ ReturnedEndW s o t L kc ks
section OwnKitW
variable {p : Program} {l : Launch} {e : Env} {R : Room} {s : State} {vm0 : Vm} {m : MethodId} {args : Array Value} {below : List Frame} {meth : Method} {c : Code} {T : State} {locs : List Loc} {cells slots kc ks : Nat} {Z : State} {a0 : Array Value} {h : Heap} {Q : Option Value → Heap → List Loc → Prop}
theorem own_since {vm : Vm} {k k' : Nat} (hS : s.Since vm k) (q : k ≤ k') : s.Since vm k' := ⟨hS.1, fun j p hj hp => ⟨(hS.2 j p hj hp).1, Nat.lt_of_lt_of_le (hS.2 j p hj hp).2 q⟩⟩
theorem own_goW {U U' : State} (f : ∀ t, Steps p.tables e below U' t → Steps p.tables e below U t) (g : own_GoW p e below s Z Q kc ks U') : own_GoW p e below s Z Q kc ks U := by
  obtain ⟨t, o, a, r⟩ := g
  exact ⟨t, o, f t a, r⟩
theorem own_sameMono {L : List Loc} {k n : Nat} {t : State} (hq : s.sameButNew t L k n) (hc : k ≤ kc) (hs : n ≤ ks) : s.sameButNew t L kc ks := hq.mono hc hs
theorem own_endW (X : Stand p l e R (s.setVm vm0) m args below meth c T locs cells slots) (hS : s.Since vm0 h.size) (hL : own_L Z a0) (hZ : Z.Warmed39 (s.setVm vm0).vm) (hJ : own_J Z vm0 h) (hlk : meth.locks = false) (eT : T.heap = h) {v : Option Value} (hv : meth.sig.returnType = none → v = none) (hc : cells ≤ kc) (hs : slots ≤ ks) (hq : Q v h locs) {U : State}
    (hst : ∀ fs, (∀ (f : JFrame) (acts : List Action), f.method = m → f.locked = none → f.entered = [] → (doReturn e (T.setTop f) acts v).1 = T.setFrames fs) → Steps p.tables e below U (T.setFrames fs)) : own_GoW p e below s Z Q kc ks U := by
  obtain ⟨fs, hr, hrun, hended, h1, h2, h3, h4⟩ := X.leaveW hS (by rw [eT]; exact Nat.le_refl _) (v := v) hv hlk
  refine ⟨_, _, hst fs hr, hrun, hended, v, locs, rfl, ⟨?_, ?_⟩, h1, h2, h3, own_sameMono h4 hc hs⟩
  · show Q v T.heap locs
    rw [eT]; exact hq
  · show own_J Z T.vm T.heap
    rw [eT]; exact own_Jwarm hL hZ hJ X.warmed
theorem own_retNW (X : Stand p l e R (s.setVm vm0) m args below meth c T locs cells slots) (hS : s.Since vm0 h.size) (hL : own_L Z a0) (hZ : Z.Warmed39 (s.setVm vm0).vm) (hJ : own_J Z vm0 h) (hx : p.tables.exec = Jvm.exec) (hlk : meth.locks = false) (eT : T.heap = h) {pc : Nat} {Ls : Array Slot} {z : Int32} {t : FieldType} {rest : List Value} (hret : meth.sig.returnType = some t) (ht : t = .boolean ∨ t = .byte ∨ t = .char ∨ t = .short)
    (hd : decode c.code pc = .ok (.ireturn, 1)) (hc : cells ≤ kc) (hs : slots ≤ ks) (hq : Q (some (.int (nar t z))) h locs) : own_GoW p e below s Z Q kc ks (T.setTop (mkF m pc Ls (.int z :: rest))) :=
  own_endW X hS hL hZ hJ hlk eT (fun q => by rw [hret] at q; cases q) hc hs hq fun fs hr => retN X hx hret ht hd hr
theorem own_retIW (X : Stand p l e R (s.setVm vm0) m args below meth c T locs cells slots) (hS : s.Since vm0 h.size) (hL : own_L Z a0) (hZ : Z.Warmed39 (s.setVm vm0).vm) (hJ : own_J Z vm0 h) (hx : p.tables.exec = Jvm.exec) (hlk : meth.locks = false) (eT : T.heap = h) {pc : Nat} {Ls : Array Slot} {z : Int32} {rest : List Value} (hret : meth.sig.returnType = some .int)
    (hd : decode c.code pc = .ok (.ireturn, 1)) (hc : cells ≤ kc) (hs : slots ≤ ks) (hq : Q (some (.int z)) h locs) : own_GoW p e below s Z Q kc ks (T.setTop (mkF m pc Ls (.int z :: rest))) :=
  own_endW X hS hL hZ hJ hlk eT (fun q => by rw [hret] at q; cases q) hc hs hq fun fs hr => retOut X hx hret rfl (Or.inl ⟨rfl, Or.inl rfl, z, rfl⟩) hd hr
theorem own_retJW (X : Stand p l e R (s.setVm vm0) m args below meth c T locs cells slots) (hS : s.Since vm0 h.size) (hL : own_L Z a0) (hZ : Z.Warmed39 (s.setVm vm0).vm) (hJ : own_J Z vm0 h) (hx : p.tables.exec = Jvm.exec) (hlk : meth.locks = false) (eT : T.heap = h) {pc : Nat} {Ls : Array Slot} {z : Int64} {rest : List Value} (hret : meth.sig.returnType = some .long)
    (hd : decode c.code pc = .ok (.lreturn, 1)) (hc : cells ≤ kc) (hs : slots ≤ ks) (hq : Q (some (.long z)) h locs) : own_GoW p e below s Z Q kc ks (T.setTop (mkF m pc Ls (.long z :: rest))) :=
  own_endW X hS hL hZ hJ hlk eT (fun q => by rw [hret] at q; cases q) hc hs hq fun fs hr => retOut X hx hret rfl (Or.inr (Or.inl ⟨rfl, rfl, z, rfl⟩)) hd hr
theorem own_retAW (X : Stand p l e R (s.setVm vm0) m args below meth c T locs cells slots) (hS : s.Since vm0 h.size) (hL : own_L Z a0) (hZ : Z.Warmed39 (s.setVm vm0).vm) (hJ : own_J Z vm0 h) (hx : p.tables.exec = Jvm.exec) (hlk : meth.locks = false) (eT : T.heap = h) {pc : Nat} {Ls : Array Slot} {v : Value} {t : FieldType} {rest : List Value} (hret : meth.sig.returnType = some t) (ht : t.isReference = true) (hv : v.isRef = true)
    (hd : decode c.code pc = .ok (.areturn, 1)) (hc : cells ≤ kc) (hs : slots ≤ ks) (hq : Q (some v) h locs) : own_GoW p e below s Z Q kc ks (T.setTop (mkF m pc Ls (v :: rest))) :=
  own_endW X hS hL hZ hJ hlk eT (fun q => by rw [hret] at q; cases q) hc hs hq fun fs hr => retOut X hx hret (by cases t <;> first | (cases ht; done) | (rcases ref_cases hv with rfl | ⟨_, rfl⟩ <;> rfl)) (Or.inr (Or.inr (Or.inr (Or.inr ⟨rfl, ht, hv⟩)))) hd hr
theorem own_retVW (X : Stand p l e R (s.setVm vm0) m args below meth c T locs cells slots) (hS : s.Since vm0 h.size) (hL : own_L Z a0) (hZ : Z.Warmed39 (s.setVm vm0).vm) (hJ : own_J Z vm0 h) (hx : p.tables.exec = Jvm.exec) (hlk : meth.locks = false) (eT : T.heap = h) {pc : Nat} {Ls : Array Slot} (hret : meth.sig.returnType = none)
    (hd : decode c.code pc = .ok (.return_, 1)) (hc : cells ≤ kc) (hs : slots ≤ ks) (hq : Q none h locs) : own_GoW p e below s Z Q kc ks (T.setTop (mkF m pc Ls [])) :=
  own_endW X hS hL hZ hJ hlk eT (fun _ => rfl) hc hs hq fun fs hr => X.returnOut hx hret hd hr
theorem own_metW {y : MethodName} {bytes : ByteArray} {maxL : Nat} {ret : Option FieldType} {ws : List Jvm.Cond} {rm : Room} {as' : Array Value} (kc ks : Nat) (hpl : plainFor y = true)
    (body : ∀ (p : Program) (e : Env) (s : State) (vm0 : Vm) (m : MethodId) (below : List Frame) (meth : Method) (c : Code) (T : State), Stand p l e rm (s.setVm vm0) m as' below meth c T [] 0 0 → s.Since vm0 h.size → own_J Z vm0 h → own_J Z s.vm s.heap → Z.Warmed39 s.vm → IB s vm0 [] → s.heap = h → p.tables.exec = Jvm.exec → c.code = bytes → c.maxLocals = maxL → meth.sig.returnType = ret → meth.locks = false → Z.Warmed39 (s.setVm vm0).vm → (s.setVm vm0).vm.findClass y.cls = some m.cls → meth.name = y.name → T.heap = h →
      own_GoW p e below s Z Q kc ks (T.setTop (entryFrame m as' maxL))) :
    MetFree l y (head1 (Jvm.Cond.code y bytes maxL ret :: ws) rm) (fun a U => a = as' ∧ Z.Warmed39 U.vm ∧ U.heap = h ∧ own_J Z U.vm U.heap) (fun _ _ _ _ _ => True) (fun _ U o U' => ∃ v L, o = .returned v ∧ (Q v U'.heap L ∧ own_J Z U'.vm U'.heap) ∧ ReturnedEndW U o U' L kc ks) := by
  refine MetFree.of_bodySF hpl hisR ?_
  intro p e s m args below meth c s₁ Bd hml hP hK
  obtain ⟨rfl, hZ, hh, hJ⟩ := hP
  obtain ⟨t, o, h1, h2, h3, h4⟩ := body p e s s.vm m below meth c s₁ (Stand.of_body Bd) ((State.WarmedH.refl s).since _) (by rw [← hh]; exact hJ) hJ hZ IB.start hh Bd.exec Bd.bytes hml Bd.returns Bd.notSynchronized hZ (findClass_of_methodNamed Bd.named) (name_of_methodNamed Bd.named Bd.method).1 (by rw [← hh, Bd.state]; rfl)
  exact ⟨t, o, h1, h2, h3, h4⟩
abbrev own_MetW (l : Launch) (Z : State) (h : Heap) (y : MethodName) (bytes : ByteArray) (maxL : Nat) (ret : Option FieldType) (rm : Room) (as' : Array Value) (Q : Option Value → Heap → List Loc → Prop) : Prop :=
  MetFree l y (head1 [Jvm.Cond.code y bytes maxL ret] rm) (fun a U => a = as' ∧ Z.Warmed39 U.vm ∧ U.heap = h ∧ own_J Z U.vm U.heap) (fun _ _ _ _ _ => True) (fun _ U o U' => ∃ v L, o = .returned v ∧ (Q v U'.heap L ∧ own_J Z U'.vm U'.heap) ∧ ReturnedEndW U o U' L rm.cells rm.slots)
end OwnKitW
section OwnBackJ
variable {p : Program} {l : Launch} {e : Env} {R : Room} {s : State} {vm0 : Vm} {m : MethodId} {args : Array Value} {below : List Frame} {meth : Method} {c : Code} {T : State} {locs : List Loc} {cells slots kc ks : Nat} {Z : State} {a0 : Array Value} {h : Heap} {Q : Option Value → Heap → List Loc → Prop}
theorem own_backJ {y : MethodName} {bytes : ByteArray} {maxL : Nat} {ret : Option FieldType} {rm : Room} {len W : Nat} {as' : Array Value} (hM : own_MetW l Z h y bytes maxL ret rm as' Q) (L : own_L Z a0)
    (hZ : Z.Warmed39 s.vm) (hJ : own_J Z s.vm h) (wc : (Jvm.Cond.code y bytes maxL ret).before a0 Z = true) (wz : (Jvm.Cond.initialized y.cls).before a0 Z = true) (hf : rm.frames + 1 ≤ R.frames) (hl : W + (maxL + 11) + rm.locals ≤ R.locals) :
    BackS l R p e below s args y len W (fun A a => a = as' ∧ A.U.heap = h ∧ A.cells + rm.cells ≤ R.cells ∧ A.slots + rm.slots ≤ R.slots)
      (fun A _ v B => ∃ L, (Q v B.U.heap L ∧ own_J Z B.U.vm B.U.heap) ∧ B.locs = A.locs ++ L ∧ B.cells = A.cells + rm.cells ∧ B.slots = A.slots + rm.slots) :=
  BackS.of_freeW (bytes := bytes) (maxL := maxL) (ret := ret) (E := fun _ _ o t L k n => k = rm.cells ∧ n = rm.slots ∧ ∃ v, o = .returned v ∧ (Q v t.heap L ∧ own_J Z t.vm t.heap)) hM hf hl
    (fun m meth c A a Y hp => have hU : Z.Warmed39 A.U.vm := wtrans hZ Y.warmed
      ⟨by show (Jvm.Cond.and _ .tt).before a A.U = true; rw [Cond.before_and, mv hU wc]; rfl, mv hU wc, mv hU wz, hp.2.2.1, hp.2.2.2⟩)
    (fun m meth c A a g mk Y hp => ⟨hp.1, wtrans hZ Y.warmed, hp.2.1, by
      have q : own_J Z A.U.vm h := own_Jwarm (s := s) L hZ hJ Y.warmed
      rw [← hp.2.1] at q; exact q⟩) (fun _ _ _ _ _ _ _ _ _ => trivial)
    (fun _ _ _ _ ⟨v, L, h1, h2, h3⟩ => ⟨L, _, _, h3, rfl, rfl, v, h1, h2⟩)
    (fun m meth c A a g mk v t L k n Y hp _ _ ⟨e1, e2, v', e3, e4⟩ => by cases e3; subst e1 e2; exact ⟨L, e4, rfl, rfl, rfl⟩)
end OwnBackJ
section OwnKitW2
variable {p : Program} {l : Launch} {e : Env} {R : Room} {s : State} {vm0 : Vm} {m : MethodId} {args : Array Value} {below : List Frame} {meth : Method} {c : Code} {T : State} {locs : List Loc} {cells slots kc ks : Nat} {Z : State} {a0 : Array Value} {h : Heap} {Q : Option Value → Heap → List Loc → Prop}
theorem own_callSW {y : MethodName} {bytes : ByteArray} {maxL : Nat} {ret : Option FieldType} {rm : Room} {as' : Array Value} {own : String} {index : Nat} (X : Stand p l e R (s.setVm vm0) m args below meth c T locs cells slots) (hS : s.Since vm0 h.size) (hL : own_L Z a0) (hJ : own_J Z vm0 h) (hx : p.tables.exec = Jvm.exec) (hZ : Z.Warmed39 (s.setVm vm0).vm) (hown : (s.setVm vm0).vm.findClass own = some m.cls)
    (w1 : (Jvm.Cond.methodLink own index y).before a0 Z = true) (w2 : (Jvm.Cond.static y).before a0 Z = true) (w3 : (Jvm.Cond.initialized y.cls).before a0 Z = true) (w4 : (Jvm.Cond.code y bytes maxL ret).before a0 Z = true) (hM : own_MetW l Z h y bytes maxL ret rm as' Q) (W : Nat) (nc ns : Nat) 
    (hc : cells + nc ≤ R.cells) (hs : slots + ns ≤ R.slots) (eT : T.heap = h) {g : JFrame} (hg : g.method = m) (hsize : g.locals.size = c.maxLocals)
    (argsL rest : List Value) (hlen : ∀ sig, parseMethodDescriptor y.desc = some sig → argsL.length = sig.parameters.length) (hstack : g.stack = argsL.reverse ++ rest) (has : argsL.toArray = as') (hdg : decode c.code g.pc = .ok (.invokestatic index, 3))
    (hy : y.cls ≠ "java/lang/invoke/MethodHandle" ∧ y.cls ≠ "java/lang/invoke/VarHandle" := by decide) (hf : rm.frames + 1 ≤ R.frames := by decide) (hl : W + (maxL + 11) + rm.locals ≤ R.locals := by decide) (hW : 2 * g.monitorRoom + (rest.map fun v => v.category).sum ≤ W := by exact Nat.le_of_eq rfl) (hnc : rm.cells = nc := by rfl) (hns : rm.slots = ns := by rfl) :
    ∃ v T' L, Stand p l e R (s.setVm T'.vm) m args below meth c T' (locs ++ L) (cells + nc) (slots + ns) ∧ s.Since T'.vm T'.heap.size ∧ Z.Warmed39 (s.setVm T'.vm).vm ∧ (s.setVm T'.vm).vm.findClass own = some m.cls ∧ Q v T'.heap L ∧ own_J Z T'.vm T'.heap ∧ ∀ target, Steps p.tables e below (T'.setTop { g with pc := g.pc + 3, stack := v.toList ++ rest }) target → Steps p.tables e below (T.setTop g) target := by
  subst hnc hns
  obtain ⟨v, _, ⟨T', L', k', n'⟩, -, X', hS', hgr, ⟨L, ⟨hQ, hJ'⟩, h1, h2, h3⟩, st⟩ := callSS X hx hown (mvT hZ w1) (mvT hZ w2) (mvT hZ w3) (mvT hZ w4) hy (own_backJ (W := W) hM hL hZ hJ w4 w3 hf hl) hg hsize hlen hstack hW hdg (fun _ _ => ⟨has, eT, hc, hs⟩)
  dsimp only [Pt.U, Pt.locs, Pt.cells, Pt.slots] at X' hS' hgr hQ hJ' h1 h2 h3 st
  subst h1 h2 h3
  have hS2 : s.Since T'.vm T'.heap.size := hS.trans hS' (by rw [← eT]; exact hgr)
  exact ⟨v, T', L, X', hS2, State.Warmed39.trans (t := s.setVm vm0) hZ hS'.1, by rw [show (s.setVm T'.vm).vm = T'.vm from rfl, hS'.1.alike.findClass]; exact hown, hQ, hJ', fun _ k => st.trans k⟩
theorem own_callIW {y : MethodName} {bytes : ByteArray} {maxL : Nat} {rm : Room} {as' : Array Value} {own : String} {index : Nat} (X : Stand p l e R (s.setVm vm0) m args below meth c T locs cells slots) (hS : s.Since vm0 h.size) (hL : own_L Z a0) (hJ : own_J Z vm0 h) (hx : p.tables.exec = Jvm.exec) (hZ : Z.Warmed39 (s.setVm vm0).vm) (hown : (s.setVm vm0).vm.findClass own = some m.cls)
    (w1 : (Jvm.Cond.methodLink own index y).before a0 Z = true) (w2 : (Jvm.Cond.instanceMethod y).before a0 Z = true) (w3 : (Jvm.Cond.initialized y.cls).before a0 Z = true) (w4 : (Jvm.Cond.code y bytes maxL none).before a0 Z = true) (hM : own_MetW l Z h y bytes maxL none rm as' Q) (W : Nat) (nc ns : Nat) (hy1 : y.name = "<init>")
    (hc : cells + nc ≤ R.cells) (hs : slots + ns ≤ R.slots) (eT : T.heap = h) {g : JFrame} (hg : g.method = m) (hsize : g.locals.size = c.maxLocals)
    (a : Addr) (argsL rest : List Value) (hlen : ∀ sig, parseMethodDescriptor y.desc = some sig → argsL.length = sig.parameters.length) (hstack : g.stack = argsL.reverse ++ .ref a :: rest) (has : (Value.ref a :: argsL).toArray = as') (hdg : decode c.code g.pc = .ok (.invokespecial index, 3))
    (hy : y.cls ≠ "java/lang/invoke/MethodHandle" ∧ y.cls ≠ "java/lang/invoke/VarHandle" := by decide) (hf : rm.frames + 1 ≤ R.frames := by decide) (hl : W + (maxL + 11) + rm.locals ≤ R.locals := by decide) (hW : 2 * g.monitorRoom + (rest.map fun v => v.category).sum ≤ W := by exact Nat.le_of_eq rfl) (hnc : rm.cells = nc := by rfl) (hns : rm.slots = ns := by rfl) :
    ∃ v T' L, Stand p l e R (s.setVm T'.vm) m args below meth c T' (locs ++ L) (cells + nc) (slots + ns) ∧ s.Since T'.vm T'.heap.size ∧ Z.Warmed39 (s.setVm T'.vm).vm ∧ (s.setVm T'.vm).vm.findClass own = some m.cls ∧ Q v T'.heap L ∧ own_J Z T'.vm T'.heap ∧ ∀ target, Steps p.tables e below (T'.setTop { g with pc := g.pc + 3, stack := v.toList ++ rest }) target → Steps p.tables e below (T.setTop g) target := by
  subst hnc hns
  obtain ⟨v, _, ⟨T', L', k', n'⟩, -, X', hS', hgr, ⟨L, ⟨hQ, hJ'⟩, h1, h2, h3⟩, st⟩ := X.specialBackS hx hy1 hown (mvT hZ w1) (mvT hZ w2) (mvT hZ w4) hy (own_backJ (W := W) hM hL hZ hJ w4 w3 hf hl) hg hsize (Steps.refl _) (a := a) (argsL := argsL) (rest := rest) hlen hstack hW hdg (fun _ _ => ⟨has, eT, hc, hs⟩)
  dsimp only [Pt.U, Pt.locs, Pt.cells, Pt.slots] at X' hS' hgr hQ hJ' h1 h2 h3 st
  subst h1 h2 h3
  have hS2 : s.Since T'.vm T'.heap.size := hS.trans hS' (by rw [← eT]; exact hgr)
  exact ⟨v, T', L, X', hS2, State.Warmed39.trans (t := s.setVm vm0) hZ hS'.1, by rw [show (s.setVm T'.vm).vm = T'.vm from rfl, hS'.1.alike.findClass]; exact hown, hQ, hJ', fun _ k => st.trans k⟩
theorem own_callVW {y z : MethodName} {bytes : ByteArray} {maxL : Nat} {ret : Option FieldType} {rm : Room} {as' : Array Value} {own C : String} {index : Nat} (X : Stand p l e R (s.setVm vm0) m args below meth c T locs cells slots) (hS : s.Since vm0 h.size) (hL : own_L Z a0) (hJ : own_J Z vm0 h) (hx : p.tables.exec = Jvm.exec) (hZ : Z.Warmed39 (s.setVm vm0).vm) (hown : (s.setVm vm0).vm.findClass own = some m.cls)
    (w1 : (Jvm.Cond.methodLink own index y).before a0 Z = true) (wd : (Jvm.Cond.declares y).before a0 Z = true) (nf : NotFace (s.setVm vm0) y) (wsel : (Jvm.Cond.selects C y z).before a0 Z = true) (w2 : (Jvm.Cond.instanceMethod z).before a0 Z = true) (w3 : (Jvm.Cond.initialized z.cls).before a0 Z = true) (w4 : (Jvm.Cond.code z bytes maxL ret).before a0 Z = true) (hM : own_MetW l Z h z bytes maxL ret rm as' Q) (W : Nat) (nc ns : Nat) 
    (hc : cells + nc ≤ R.cells) (hs : slots + ns ≤ R.slots) (eT : T.heap = h) {a : Addr} (E : Exa Z h a C) {g : JFrame} (hg : g.method = m) (hsize : g.locals.size = c.maxLocals)
    (argsL rest : List Value) (hlen : ∀ sig, parseMethodDescriptor y.desc = some sig → argsL.length = sig.parameters.length) (hstack : g.stack = argsL.reverse ++ .ref a :: rest) (has : (Value.ref a :: argsL).toArray = as') (hdg : decode c.code g.pc = .ok (.invokevirtual index, 3))
    (hy : y.cls ≠ "java/lang/invoke/MethodHandle" ∧ y.cls ≠ "java/lang/invoke/VarHandle" := by decide) (hf : rm.frames + 1 ≤ R.frames := by decide) (hl : W + (maxL + 11) + rm.locals ≤ R.locals := by decide) (hW : 2 * g.monitorRoom + (rest.map fun v => v.category).sum ≤ W := by exact Nat.le_of_eq rfl) (hnc : rm.cells = nc := by rfl) (hns : rm.slots = ns := by rfl) :
    ∃ v T' L, Stand p l e R (s.setVm T'.vm) m args below meth c T' (locs ++ L) (cells + nc) (slots + ns) ∧ s.Since T'.vm T'.heap.size ∧ Z.Warmed39 (s.setVm T'.vm).vm ∧ (s.setVm T'.vm).vm.findClass own = some m.cls ∧ Q v T'.heap L ∧ own_J Z T'.vm T'.heap ∧ ∀ target, Steps p.tables e below (T'.setTop { g with pc := g.pc + 3, stack := v.toList ++ rest }) target → Steps p.tables e below (T.setTop g) target := by
  subst hnc hns
  obtain ⟨cq, kq, qa, qb, qc⟩ := isOf hZ eT E
  obtain ⟨v, _, ⟨T', L', k', n'⟩, -, X', hS', hgr, ⟨L, ⟨hQ, hJ'⟩, h1, h2, h3⟩, st⟩ := X.virtualBackS hx hown (mvT hZ w1) (mvT hZ wd) nf (mvT hZ wsel) (mvT hZ w2) hy (own_backJ (W := W) hM hL hZ hJ w4 w3 hf hl) qa qc hg hsize (Steps.refl _) (argsL := argsL) (rest := rest) hlen hstack hW hdg (fun _ _ => ⟨has, eT, hc, hs⟩)
  dsimp only [Pt.U, Pt.locs, Pt.cells, Pt.slots] at X' hS' hgr hQ hJ' h1 h2 h3 st
  subst h1 h2 h3
  have hS2 : s.Since T'.vm T'.heap.size := hS.trans hS' (by rw [← eT]; exact hgr)
  exact ⟨v, T', L, X', hS2, State.Warmed39.trans (t := s.setVm vm0) hZ hS'.1, by rw [show (s.setVm T'.vm).vm = T'.vm from rfl, hS'.1.alike.findClass]; exact hown, hQ, hJ', fun _ k => st.trans k⟩
theorem own_callPW {y : MethodName} {bytes : ByteArray} {maxL : Nat} {ret : Option FieldType} {rm : Room} {as' : Array Value} {own C : String} {index : Nat} (X : Stand p l e R (s.setVm vm0) m args below meth c T locs cells slots) (hS : s.Since vm0 h.size) (hL : own_L Z a0) (hJ : own_J Z vm0 h) (hx : p.tables.exec = Jvm.exec) (hZ : Z.Warmed39 (s.setVm vm0).vm) (hown : (s.setVm vm0).vm.findClass own = some m.cls)
    (w1 : (Jvm.Cond.methodLink own index y).before a0 Z = true) (w2 : (Jvm.Cond.instanceMethod y).before a0 Z = true) (wsel : (Jvm.Cond.selects y.cls y y).before a0 Z = true) (wp : (Jvm.Cond.privateMethod y).before a0 Z = true) (w3 : (Jvm.Cond.initialized y.cls).before a0 Z = true) (w4 : (Jvm.Cond.code y bytes maxL ret).before a0 Z = true) (hM : own_MetW l Z h y bytes maxL ret rm as' Q) (W : Nat) (nc ns : Nat) 
    (hc : cells + nc ≤ R.cells) (hs : slots + ns ≤ R.slots) (eT : T.heap = h) {a : Addr} (E : Exa Z h a C) {g : JFrame} (hg : g.method = m) (hsize : g.locals.size = c.maxLocals)
    (argsL rest : List Value) (hlen : ∀ sig, parseMethodDescriptor y.desc = some sig → argsL.length = sig.parameters.length) (hstack : g.stack = argsL.reverse ++ .ref a :: rest) (has : (Value.ref a :: argsL).toArray = as') (hdg : decode c.code g.pc = .ok (.invokevirtual index, 3))
    (hy : y.cls ≠ "java/lang/invoke/MethodHandle" ∧ y.cls ≠ "java/lang/invoke/VarHandle" := by decide) (hf : rm.frames + 1 ≤ R.frames := by decide) (hl : W + (maxL + 11) + rm.locals ≤ R.locals := by decide) (hW : 2 * g.monitorRoom + (rest.map fun v => v.category).sum ≤ W := by exact Nat.le_of_eq rfl) (hnc : rm.cells = nc := by rfl) (hns : rm.slots = ns := by rfl) :
    ∃ v T' L, Stand p l e R (s.setVm T'.vm) m args below meth c T' (locs ++ L) (cells + nc) (slots + ns) ∧ s.Since T'.vm T'.heap.size ∧ Z.Warmed39 (s.setVm T'.vm).vm ∧ (s.setVm T'.vm).vm.findClass own = some m.cls ∧ Q v T'.heap L ∧ own_J Z T'.vm T'.heap ∧ ∀ target, Steps p.tables e below (T'.setTop { g with pc := g.pc + 3, stack := v.toList ++ rest }) target → Steps p.tables e below (T.setTop g) target := by
  subst hnc hns
  obtain ⟨cq, q1, q2⟩ := E.cell
  obtain ⟨v, _, ⟨T', L', k', n'⟩, -, X', hS', hgr, ⟨L, ⟨hQ, hJ'⟩, h1, h2, h3⟩, st⟩ := X.privateBackS hx hown (mvT hZ w1) (mvT hZ w2) (mvT hZ wsel) (Cond.privateMethod_at (mvP hZ wp (args := #[]))) (mvT hZ w4) hy (own_backJ (W := W) hM hL hZ hJ w4 w3 hf hl) hg hsize (Steps.refl _) (a := a) (by rw [eT]; exact q1) q2 (argsL := argsL) (rest := rest) hlen hstack hW hdg (fun _ _ => ⟨has, eT, hc, hs⟩)
  dsimp only [Pt.U, Pt.locs, Pt.cells, Pt.slots] at X' hS' hgr hQ hJ' h1 h2 h3 st
  subst h1 h2 h3
  have hS2 : s.Since T'.vm T'.heap.size := hS.trans hS' (by rw [← eT]; exact hgr)
  exact ⟨v, T', L, X', hS2, State.Warmed39.trans (t := s.setVm vm0) hZ hS'.1, by rw [show (s.setVm T'.vm).vm = T'.vm from rfl, hS'.1.alike.findClass]; exact hown, hQ, hJ', fun _ k => st.trans k⟩
theorem own_callFW {xi y : MethodName} {bytes : ByteArray} {maxL : Nat} {ret : Option FieldType} {rm : Room} {as' : Array Value} {own C : String} {index count : Nat} (X : Stand p l e R (s.setVm vm0) m args below meth c T locs cells slots) (hS : s.Since vm0 h.size) (hL : own_L Z a0) (hJ : own_J Z vm0 h) (hx : p.tables.exec = Jvm.exec) (hZ : Z.Warmed39 (s.setVm vm0).vm) (hown : (s.setVm vm0).vm.findClass own = some m.cls)
    (w1 : (Jvm.Cond.methodLink own index xi).before a0 Z = true) (wd : (Jvm.Cond.declares xi).before a0 Z = true) (wfa : (Jvm.Cond.interfaceMethod xi.cls xi.cls xi.name xi.desc).before a0 Z = true) (wsel : (Jvm.Cond.selects C xi y).before a0 Z = true) (w2 : (Jvm.Cond.instanceMethod y).before a0 Z = true) (wp : (Jvm.Cond.publicMethod y).before a0 Z = true) (wu : (Jvm.Cond.unhidden C xi.name xi.desc).before a0 Z = true) (wk : (Jvm.Cond.castable C xi.cls).before a0 Z = true) (w3 : (Jvm.Cond.initialized y.cls).before a0 Z = true) (w4 : (Jvm.Cond.code y bytes maxL ret).before a0 Z = true) (hfk : ((Jvm.Cond.interfaceMethod xi.cls xi.cls xi.name xi.desc).onTables && (Jvm.Cond.interfaceMethod xi.cls xi.cls xi.name xi.desc).keepsFace) = true) (hM : own_MetW l Z h y bytes maxL ret rm as' Q) (W : Nat) (nc ns : Nat) 
    (hc : cells + nc ≤ R.cells) (hs : slots + ns ≤ R.slots) (eT : T.heap = h) {a : Addr} (E : Exa Z h a C) {g : JFrame} (hg : g.method = m) (hsize : g.locals.size = c.maxLocals)
    (argsL rest : List Value) (hlen : ∀ sig, parseMethodDescriptor xi.desc = some sig → argsL.length = sig.parameters.length) (hstack : g.stack = argsL.reverse ++ .ref a :: rest) (has : (Value.ref a :: argsL).toArray = as') (hdg : decode c.code g.pc = .ok (.invokeinterface index count, 5))
    (hy : xi.cls ≠ "java/lang/invoke/MethodHandle" ∧ xi.cls ≠ "java/lang/invoke/VarHandle" := by decide) (hf : rm.frames + 1 ≤ R.frames := by decide) (hl : W + (maxL + 11) + rm.locals ≤ R.locals := by decide) (hW : 2 * g.monitorRoom + (rest.map fun v => v.category).sum ≤ W := by exact Nat.le_of_eq rfl) (hnc : rm.cells = nc := by rfl) (hns : rm.slots = ns := by rfl) :
    ∃ v T' L, Stand p l e R (s.setVm T'.vm) m args below meth c T' (locs ++ L) (cells + nc) (slots + ns) ∧ s.Since T'.vm T'.heap.size ∧ Z.Warmed39 (s.setVm T'.vm).vm ∧ (s.setVm T'.vm).vm.findClass own = some m.cls ∧ Q v T'.heap L ∧ own_J Z T'.vm T'.heap ∧ ∀ target, Steps p.tables e below (T'.setTop { g with pc := g.pc + 5, stack := v.toList ++ rest }) target → Steps p.tables e below (T.setTop g) target := by
  subst hnc hns
  obtain ⟨cq, kq, qa, qb, qc⟩ := isOf hZ eT E
  obtain ⟨v, _, ⟨T', L', k', n'⟩, -, X', hS', hgr, ⟨L, ⟨hQ, hJ'⟩, h1, h2, h3⟩, st⟩ := X.interfaceBackS hx hown (mvT hZ w1) (mvT hZ wd) (mvT hZ wfa hfk) (mvT hZ wsel) (mvT hZ w2) (mvT hZ wp) (mvT hZ wu) (mvT hZ wk) hy (own_backJ (W := W) hM hL hZ hJ w4 w3 hf hl) qa qb qc hg hsize (Steps.refl _) (argsL := argsL) (rest := rest) hlen hstack hW hdg (fun _ _ => ⟨has, eT, hc, hs⟩)
  dsimp only [Pt.U, Pt.locs, Pt.cells, Pt.slots] at X' hS' hgr hQ hJ' h1 h2 h3 st
  subst h1 h2 h3
  have hS2 : s.Since T'.vm T'.heap.size := hS.trans hS' (by rw [← eT]; exact hgr)
  exact ⟨v, T', L, X', hS2, State.Warmed39.trans (t := s.setVm vm0) hZ hS'.1, by rw [show (s.setVm T'.vm).vm = T'.vm from rfl, hS'.1.alike.findClass]; exact hown, hQ, hJ', fun _ k => st.trans k⟩
theorem own_callUW {y z : MethodName} {bytes : ByteArray} {maxL : Nat} {ret : Option FieldType} {rm : Room} {as' : Array Value} {own owner C : String} {index : Nat} (X : Stand p l e R (s.setVm vm0) m args below meth c T locs cells slots) (hS : s.Since vm0 h.size) (hL : own_L Z a0) (hJ : own_J Z vm0 h) (hx : p.tables.exec = Jvm.exec) (hZ : Z.Warmed39 (s.setVm vm0).vm) (hown : (s.setVm vm0).vm.findClass own = some m.cls)
    (w1 : (Jvm.Cond.methodLink own index y).before a0 Z = true) (wsm : (Jvm.Cond.sameMethod y.cls owner y.name y.desc).before a0 Z = true) (wd : (Jvm.Cond.declares ⟨owner, y.name, y.desc⟩).before a0 Z = true) (wsel : (Jvm.Cond.selects C y z).before a0 Z = true) (w2 : (Jvm.Cond.instanceMethod z).before a0 Z = true) (w3 : (Jvm.Cond.initialized z.cls).before a0 Z = true) (w4 : (Jvm.Cond.code z bytes maxL ret).before a0 Z = true) (hM : own_MetW l Z h z bytes maxL ret rm as' Q) (W : Nat) (nc ns : Nat) 
    (hc : cells + nc ≤ R.cells) (hs : slots + ns ≤ R.slots) (eT : T.heap = h) {a : Addr} (E : Exa Z h a C) {g : JFrame} (hg : g.method = m) (hsize : g.locals.size = c.maxLocals)
    (argsL rest : List Value) (hlen : ∀ sig, parseMethodDescriptor y.desc = some sig → argsL.length = sig.parameters.length) (hstack : g.stack = argsL.reverse ++ .ref a :: rest) (has : (Value.ref a :: argsL).toArray = as') (hdg : decode c.code g.pc = .ok (.invokevirtual index, 3))
    (howner : owner ≠ "java/lang/invoke/MethodHandle" ∧ owner ≠ "java/lang/invoke/VarHandle" := by decide) (hf : rm.frames + 1 ≤ R.frames := by decide) (hl : W + (maxL + 11) + rm.locals ≤ R.locals := by decide) (hW : 2 * g.monitorRoom + (rest.map fun v => v.category).sum ≤ W := by exact Nat.le_of_eq rfl) (hnc : rm.cells = nc := by rfl) (hns : rm.slots = ns := by rfl) :
    ∃ v T' L, Stand p l e R (s.setVm T'.vm) m args below meth c T' (locs ++ L) (cells + nc) (slots + ns) ∧ s.Since T'.vm T'.heap.size ∧ Z.Warmed39 (s.setVm T'.vm).vm ∧ (s.setVm T'.vm).vm.findClass own = some m.cls ∧ Q v T'.heap L ∧ own_J Z T'.vm T'.heap ∧ ∀ target, Steps p.tables e below (T'.setTop { g with pc := g.pc + 3, stack := v.toList ++ rest }) target → Steps p.tables e below (T.setTop g) target := by
  subst hnc hns
  obtain ⟨cq, kq, qa, qb, qc⟩ := isOf hZ eT E
  obtain ⟨v, _, ⟨T', L', k', n'⟩, -, X', hS', hgr, ⟨L, ⟨hQ, hJ'⟩, h1, h2, h3⟩, st⟩ := X.virtualBackUpS hx hown (mvT hZ w1) (mvT hZ wsm) (mvT hZ wd) howner (mvT hZ wsel) (mvT hZ w2) (own_backJ (W := W) hM hL hZ hJ w4 w3 hf hl) qa qc hg hsize (Steps.refl _) (argsL := argsL) (rest := rest) hlen hstack hW hdg (fun _ _ => ⟨has, eT, hc, hs⟩)
  dsimp only [Pt.U, Pt.locs, Pt.cells, Pt.slots] at X' hS' hgr hQ hJ' h1 h2 h3 st
  subst h1 h2 h3
  have hS2 : s.Since T'.vm T'.heap.size := hS.trans hS' (by rw [← eT]; exact hgr)
  exact ⟨v, T', L, X', hS2, State.Warmed39.trans (t := s.setVm vm0) hZ hS'.1, by rw [show (s.setVm T'.vm).vm = T'.vm from rfl, hS'.1.alike.findClass]; exact hown, hQ, hJ', fun _ k => st.trans k⟩
end OwnKitW2
theorem own_fd0 : parseFieldDescriptor "D" = some .double := by decide +kernel
theorem own_fd1 : parseFieldDescriptor "Lcom/example/nudo/nudo/FollowingDistance;" = some (.object "com/example/nudo/nudo/FollowingDistance") := by decide +kernel
theorem ow0 {Z : State} {a0 : Array Value} (hw : ∀ d ∈ tables_1, d.before a0 Z = true) : (Jvm.Cond.constant "com/example/nudo/nudo/VehicleClassesMeanReactionTimePinLaw" (7 : Nat) (65535 : Int32)).before a0 Z = true := hw _ (List.mem_of_getElem? (i := 0) rfl)
theorem ow1 {Z : State} {a0 : Array Value} (hw : ∀ d ∈ tables_1, d.before a0 Z = true) : (Jvm.Cond.constantDouble "com/example/nudo/nudo/VehicleClassesMeanReactionTimePinLaw" (8 : Nat) (4643211215818981376 : UInt64)).before a0 Z = true := hw _ (List.mem_of_getElem? (i := 1) rfl)
theorem ow2 {Z : State} {a0 : Array Value} (hw : ∀ d ∈ tables_1, d.before a0 Z = true) : (Jvm.Cond.classLink "com/example/nudo/nudo/VehicleClassesMeanReactionTimePinLaw" (10 : Nat) "com/example/nudo/nudo/VehicleClasses").before a0 Z = true := hw _ (List.mem_of_getElem? (i := 2) rfl)
theorem ow3 {Z : State} {a0 : Array Value} (hw : ∀ d ∈ tables_1, d.before a0 Z = true) : (Jvm.Cond.instantiable "com/example/nudo/nudo/VehicleClasses" (4 : Nat)).before a0 Z = true := hw _ (List.mem_of_getElem? (i := 3) rfl)
theorem ow4 {Z : State} {a0 : Array Value} (hw : ∀ d ∈ tables_1, d.before a0 Z = true) : (Jvm.Cond.initialized "com/example/nudo/nudo/VehicleClasses").before a0 Z = true := hw _ (List.mem_of_getElem? (i := 4) rfl)
theorem ow5 {Z : State} {a0 : Array Value} (hw : ∀ d ∈ tables_1, d.before a0 Z = true) : (Jvm.Cond.methodLink "com/example/nudo/nudo/VehicleClassesMeanReactionTimePinLaw" (12 : Nat) ({ cls := "com/example/nudo/nudo/VehicleClasses", name := "<init>", desc := "(DDD)V" } : Jvm.MethodName)).before a0 Z = true := hw _ (List.mem_of_getElem? (i := 5) rfl)
theorem ow6 {Z : State} {a0 : Array Value} (hw : ∀ d ∈ tables_1, d.before a0 Z = true) : (Jvm.Cond.instanceMethod ({ cls := "com/example/nudo/nudo/VehicleClasses", name := "<init>", desc := "(DDD)V" } : Jvm.MethodName)).before a0 Z = true := hw _ (List.mem_of_getElem? (i := 6) rfl)
theorem ow7 {Z : State} {a0 : Array Value} (hw : ∀ d ∈ tables_1, d.before a0 Z = true) : (Jvm.Cond.code ({ cls := "com/example/nudo/nudo/VehicleClasses", name := "<init>", desc := "(DDD)V" } : Jvm.MethodName) prog_50_method_1_code (7 : Nat) (Option.none : Option Jvm.ClassFile.FieldType)).before a0 Z = true := hw _ (List.mem_of_getElem? (i := 7) rfl)
theorem ow8 {Z : State} {a0 : Array Value} (hw : ∀ d ∈ tables_1, d.before a0 Z = true) : (Jvm.Cond.methodLink "com/example/nudo/nudo/VehicleClasses" (1 : Nat) ({ cls := "java/lang/Object", name := "<init>", desc := "()V" } : Jvm.MethodName)).before a0 Z = true := hw _ (List.mem_of_getElem? (i := 8) rfl)
theorem ow9 {Z : State} {a0 : Array Value} (hw : ∀ d ∈ tables_1, d.before a0 Z = true) : (Jvm.Cond.instanceMethod ({ cls := "java/lang/Object", name := "<init>", desc := "()V" } : Jvm.MethodName)).before a0 Z = true := hw _ (List.mem_of_getElem? (i := 9) rfl)
theorem ow10 {Z : State} {a0 : Array Value} (hw : ∀ d ∈ tables_1, d.before a0 Z = true) : (Jvm.Cond.code ({ cls := "java/lang/Object", name := "<init>", desc := "()V" } : Jvm.MethodName) object_method_1_code (1 : Nat) (Option.none : Option Jvm.ClassFile.FieldType)).before a0 Z = true := hw _ (List.mem_of_getElem? (i := 10) rfl)
theorem ow11 {Z : State} {a0 : Array Value} (hw : ∀ d ∈ tables_1, d.before a0 Z = true) : (Jvm.Cond.stringLink "com/example/nudo/nudo/VehicleClasses" (7 : Nat) "human-driven reaction time").before a0 Z = true := hw _ (List.mem_of_getElem? (i := 11) rfl)
theorem ow12 {Z : State} {a0 : Array Value} (hw : ∀ d ∈ tables_1, d.before a0 Z = true) : (Jvm.Cond.initialized "java/lang/String").before a0 Z = true := hw _ (List.mem_of_getElem? (i := 12) rfl)
theorem ow13 {Z : State} {a0 : Array Value} (hw : ∀ d ∈ tables_1, d.before a0 Z = true) : (Jvm.Cond.instantiable "java/lang/String" (4 : Nat)).before a0 Z = true := hw _ (List.mem_of_getElem? (i := 13) rfl)
theorem ow14 {Z : State} {a0 : Array Value} (hw : ∀ d ∈ tables_1, d.before a0 Z = true) : (Jvm.Cond.arrayClass Jvm.ClassFile.FieldType.byte).before a0 Z = true := hw _ (List.mem_of_getElem? (i := 14) rfl)
theorem ow15 {Z : State} {a0 : Array Value} (hw : ∀ d ∈ tables_1, d.before a0 Z = true) : (Jvm.Cond.laysFinal "java/lang/String" "java/lang/String" "value" "[B").before a0 Z = true := hw _ (List.mem_of_getElem? (i := 15) rfl)
theorem ow16 {Z : State} {a0 : Array Value} (hw : ∀ d ∈ tables_1, d.before a0 Z = true) : (Jvm.Cond.laysFinal "java/lang/String" "java/lang/String" "coder" "B").before a0 Z = true := hw _ (List.mem_of_getElem? (i := 16) rfl)
theorem ow17 {Z : State} {a0 : Array Value} (hw : ∀ d ∈ tables_1, d.before a0 Z = true) : (Jvm.Cond.soleField "java/lang/String" "value").before a0 Z = true := hw _ (List.mem_of_getElem? (i := 17) rfl)
theorem ow18 {Z : State} {a0 : Array Value} (hw : ∀ d ∈ tables_1, d.before a0 Z = true) : (Jvm.Cond.soleField "java/lang/String" "coder").before a0 Z = true := hw _ (List.mem_of_getElem? (i := 18) rfl)
theorem ow19 {Z : State} {a0 : Array Value} (hw : ∀ d ∈ tables_1, d.before a0 Z = true) : (Jvm.Cond.methodLink "com/example/nudo/nudo/VehicleClasses" (9 : Nat) ({ cls := "com/example/nudo/nudo/Link", name := "requirePositive", desc := "(DLjava/lang/String;)D" } : Jvm.MethodName)).before a0 Z = true := hw _ (List.mem_of_getElem? (i := 19) rfl)
theorem ow20 {Z : State} {a0 : Array Value} (hw : ∀ d ∈ tables_1, d.before a0 Z = true) : (Jvm.Cond.static ({ cls := "com/example/nudo/nudo/Link", name := "requirePositive", desc := "(DLjava/lang/String;)D" } : Jvm.MethodName)).before a0 Z = true := hw _ (List.mem_of_getElem? (i := 20) rfl)
theorem ow21 {Z : State} {a0 : Array Value} (hw : ∀ d ∈ tables_1, d.before a0 Z = true) : (Jvm.Cond.initialized "com/example/nudo/nudo/Link").before a0 Z = true := hw _ (List.mem_of_getElem? (i := 21) rfl)
theorem ow22 {Z : State} {a0 : Array Value} (hw : ∀ d ∈ tables_1, d.before a0 Z = true) : (Jvm.Cond.code ({ cls := "com/example/nudo/nudo/Link", name := "requirePositive", desc := "(DLjava/lang/String;)D" } : Jvm.MethodName) prog_27_method_20_code (3 : Nat) (Option.some Jvm.ClassFile.FieldType.double)).before a0 Z = true := hw _ (List.mem_of_getElem? (i := 22) rfl)
theorem ow23 {Z : State} {a0 : Array Value} (hw : ∀ d ∈ tables_1, d.before a0 Z = true) : (Jvm.Cond.methodLink "com/example/nudo/nudo/Link" (98 : Nat) ({ cls := "java/lang/Double", name := "isInfinite", desc := "(D)Z" } : Jvm.MethodName)).before a0 Z = true := hw _ (List.mem_of_getElem? (i := 23) rfl)
theorem ow24 {Z : State} {a0 : Array Value} (hw : ∀ d ∈ tables_1, d.before a0 Z = true) : (Jvm.Cond.static ({ cls := "java/lang/Double", name := "isInfinite", desc := "(D)Z" } : Jvm.MethodName)).before a0 Z = true := hw _ (List.mem_of_getElem? (i := 24) rfl)
theorem ow25 {Z : State} {a0 : Array Value} (hw : ∀ d ∈ tables_1, d.before a0 Z = true) : (Jvm.Cond.initialized "java/lang/Double").before a0 Z = true := hw _ (List.mem_of_getElem? (i := 25) rfl)
theorem ow26 {Z : State} {a0 : Array Value} (hw : ∀ d ∈ tables_1, d.before a0 Z = true) : (Jvm.Cond.code ({ cls := "java/lang/Double", name := "isInfinite", desc := "(D)Z" } : Jvm.MethodName) jdk_117_method_7_code (2 : Nat) (Option.some Jvm.ClassFile.FieldType.boolean)).before a0 Z = true := hw _ (List.mem_of_getElem? (i := 26) rfl)
theorem ow27 {Z : State} {a0 : Array Value} (hw : ∀ d ∈ tables_1, d.before a0 Z = true) : (Jvm.Cond.methodLink "java/lang/Double" (38 : Nat) ({ cls := "java/lang/Math", name := "abs", desc := "(D)D" } : Jvm.MethodName)).before a0 Z = true := hw _ (List.mem_of_getElem? (i := 27) rfl)
theorem ow28 {Z : State} {a0 : Array Value} (hw : ∀ d ∈ tables_1, d.before a0 Z = true) : (Jvm.Cond.static ({ cls := "java/lang/Math", name := "abs", desc := "(D)D" } : Jvm.MethodName)).before a0 Z = true := hw _ (List.mem_of_getElem? (i := 28) rfl)
theorem ow29 {Z : State} {a0 : Array Value} (hw : ∀ d ∈ tables_1, d.before a0 Z = true) : (Jvm.Cond.initialized "java/lang/Math").before a0 Z = true := hw _ (List.mem_of_getElem? (i := 29) rfl)
theorem ow30 {Z : State} {a0 : Array Value} (hw : ∀ d ∈ tables_1, d.before a0 Z = true) : (Jvm.Cond.code ({ cls := "java/lang/Math", name := "abs", desc := "(D)D" } : Jvm.MethodName) jdk_29_method_64_code (2 : Nat) (Option.some Jvm.ClassFile.FieldType.double)).before a0 Z = true := hw _ (List.mem_of_getElem? (i := 30) rfl)
theorem ow31 {Z : State} {a0 : Array Value} (hw : ∀ d ∈ tables_1, d.before a0 Z = true) : (Jvm.Cond.constantDouble "java/lang/Double" (111 : Nat) (9218868437227405311 : UInt64)).before a0 Z = true := hw _ (List.mem_of_getElem? (i := 31) rfl)
theorem ow32 {Z : State} {a0 : Array Value} (hw : ∀ d ∈ tables_1, d.before a0 Z = true) : (Jvm.Cond.stringLink "com/example/nudo/nudo/VehicleClasses" (15 : Nat) "automated reaction time").before a0 Z = true := hw _ (List.mem_of_getElem? (i := 32) rfl)
theorem ow33 {Z : State} {a0 : Array Value} (hw : ∀ d ∈ tables_1, d.before a0 Z = true) : (Jvm.Cond.fieldLink "com/example/nudo/nudo/VehicleClasses" (17 : Nat) "com/example/nudo/nudo/VehicleClasses" "humanReactionTime" "D").before a0 Z = true := hw _ (List.mem_of_getElem? (i := 33) rfl)
theorem ow34 {Z : State} {a0 : Array Value} (hw : ∀ d ∈ tables_1, d.before a0 Z = true) : (Jvm.Cond.laysFinal "com/example/nudo/nudo/VehicleClasses" "com/example/nudo/nudo/VehicleClasses" "humanReactionTime" "D").before a0 Z = true := hw _ (List.mem_of_getElem? (i := 34) rfl)
theorem ow35 {Z : State} {a0 : Array Value} (hw : ∀ d ∈ tables_1, d.before a0 Z = true) : (Jvm.Cond.fieldLink "com/example/nudo/nudo/VehicleClasses" (23 : Nat) "com/example/nudo/nudo/VehicleClasses" "automatedReactionTime" "D").before a0 Z = true := hw _ (List.mem_of_getElem? (i := 35) rfl)
theorem ow36 {Z : State} {a0 : Array Value} (hw : ∀ d ∈ tables_1, d.before a0 Z = true) : (Jvm.Cond.laysFinal "com/example/nudo/nudo/VehicleClasses" "com/example/nudo/nudo/VehicleClasses" "automatedReactionTime" "D").before a0 Z = true := hw _ (List.mem_of_getElem? (i := 36) rfl)
theorem ow37 {Z : State} {a0 : Array Value} (hw : ∀ d ∈ tables_1, d.before a0 Z = true) : (Jvm.Cond.fieldLink "com/example/nudo/nudo/VehicleClasses" (26 : Nat) "com/example/nudo/nudo/VehicleClasses" "vehicleLength" "D").before a0 Z = true := hw _ (List.mem_of_getElem? (i := 37) rfl)
theorem ow38 {Z : State} {a0 : Array Value} (hw : ∀ d ∈ tables_1, d.before a0 Z = true) : (Jvm.Cond.laysFinal "com/example/nudo/nudo/VehicleClasses" "com/example/nudo/nudo/VehicleClasses" "vehicleLength" "D").before a0 Z = true := hw _ (List.mem_of_getElem? (i := 38) rfl)
theorem ow39 {Z : State} {a0 : Array Value} (hw : ∀ d ∈ tables_1, d.before a0 Z = true) : (Jvm.Cond.classLink "com/example/nudo/nudo/VehicleClasses" (29 : Nat) "com/example/nudo/nudo/FollowingDistance").before a0 Z = true := hw _ (List.mem_of_getElem? (i := 39) rfl)
theorem ow40 {Z : State} {a0 : Array Value} (hw : ∀ d ∈ tables_1, d.before a0 Z = true) : (Jvm.Cond.instantiable "com/example/nudo/nudo/FollowingDistance" (1 : Nat)).before a0 Z = true := hw _ (List.mem_of_getElem? (i := 40) rfl)
theorem ow41 {Z : State} {a0 : Array Value} (hw : ∀ d ∈ tables_1, d.before a0 Z = true) : (Jvm.Cond.initialized "com/example/nudo/nudo/FollowingDistance").before a0 Z = true := hw _ (List.mem_of_getElem? (i := 41) rfl)
theorem ow42 {Z : State} {a0 : Array Value} (hw : ∀ d ∈ tables_1, d.before a0 Z = true) : (Jvm.Cond.methodLink "com/example/nudo/nudo/VehicleClasses" (31 : Nat) ({ cls := "com/example/nudo/nudo/FollowingDistance", name := "<init>", desc := "(D)V" } : Jvm.MethodName)).before a0 Z = true := hw _ (List.mem_of_getElem? (i := 42) rfl)
theorem ow43 {Z : State} {a0 : Array Value} (hw : ∀ d ∈ tables_1, d.before a0 Z = true) : (Jvm.Cond.instanceMethod ({ cls := "com/example/nudo/nudo/FollowingDistance", name := "<init>", desc := "(D)V" } : Jvm.MethodName)).before a0 Z = true := hw _ (List.mem_of_getElem? (i := 43) rfl)
theorem ow44 {Z : State} {a0 : Array Value} (hw : ∀ d ∈ tables_1, d.before a0 Z = true) : (Jvm.Cond.code ({ cls := "com/example/nudo/nudo/FollowingDistance", name := "<init>", desc := "(D)V" } : Jvm.MethodName) prog_20_method_1_code (3 : Nat) (Option.none : Option Jvm.ClassFile.FieldType)).before a0 Z = true := hw _ (List.mem_of_getElem? (i := 44) rfl)
theorem ow45 {Z : State} {a0 : Array Value} (hw : ∀ d ∈ tables_1, d.before a0 Z = true) : (Jvm.Cond.methodLink "com/example/nudo/nudo/FollowingDistance" (1 : Nat) ({ cls := "java/lang/Object", name := "<init>", desc := "()V" } : Jvm.MethodName)).before a0 Z = true := hw _ (List.mem_of_getElem? (i := 45) rfl)
theorem ow46 {Z : State} {a0 : Array Value} (hw : ∀ d ∈ tables_1, d.before a0 Z = true) : (Jvm.Cond.methodLink "com/example/nudo/nudo/FollowingDistance" (7 : Nat) ({ cls := "java/lang/Double", name := "isInfinite", desc := "(D)Z" } : Jvm.MethodName)).before a0 Z = true := hw _ (List.mem_of_getElem? (i := 46) rfl)
theorem ow47 {Z : State} {a0 : Array Value} (hw : ∀ d ∈ tables_1, d.before a0 Z = true) : (Jvm.Cond.fieldLink "com/example/nudo/nudo/FollowingDistance" (22 : Nat) "com/example/nudo/nudo/FollowingDistance" "vehicleLength" "D").before a0 Z = true := hw _ (List.mem_of_getElem? (i := 47) rfl)
theorem ow48 {Z : State} {a0 : Array Value} (hw : ∀ d ∈ tables_1, d.before a0 Z = true) : (Jvm.Cond.laysFinal "com/example/nudo/nudo/FollowingDistance" "com/example/nudo/nudo/FollowingDistance" "vehicleLength" "D").before a0 Z = true := hw _ (List.mem_of_getElem? (i := 48) rfl)
theorem ow49 {Z : State} {a0 : Array Value} (hw : ∀ d ∈ tables_1, d.before a0 Z = true) : (Jvm.Cond.fieldLink "com/example/nudo/nudo/VehicleClasses" (34 : Nat) "com/example/nudo/nudo/VehicleClasses" "distance" "Lcom/example/nudo/nudo/FollowingDistance;").before a0 Z = true := hw _ (List.mem_of_getElem? (i := 49) rfl)
theorem ow50 {Z : State} {a0 : Array Value} (hw : ∀ d ∈ tables_1, d.before a0 Z = true) : (Jvm.Cond.laysFinal "com/example/nudo/nudo/VehicleClasses" "com/example/nudo/nudo/VehicleClasses" "distance" "Lcom/example/nudo/nudo/FollowingDistance;").before a0 Z = true := hw _ (List.mem_of_getElem? (i := 50) rfl)
theorem ow51 {Z : State} {a0 : Array Value} (hw : ∀ d ∈ tables_1, d.before a0 Z = true) : (Jvm.Cond.methodLink "com/example/nudo/nudo/VehicleClassesMeanReactionTimePinLaw" (15 : Nat) ({ cls := "com/example/nudo/nudo/VehicleClasses", name := "meanReactionTime", desc := "(II)D" } : Jvm.MethodName)).before a0 Z = true := hw _ (List.mem_of_getElem? (i := 51) rfl)
theorem ow52 {Z : State} {a0 : Array Value} (hw : ∀ d ∈ tables_1, d.before a0 Z = true) : (Jvm.Cond.declares ({ cls := "com/example/nudo/nudo/VehicleClasses", name := "meanReactionTime", desc := "(II)D" } : Jvm.MethodName)).before a0 Z = true := hw _ (List.mem_of_getElem? (i := 52) rfl)
theorem ow53 {Z : State} {a0 : Array Value} (hw : ∀ d ∈ tables_1, d.before a0 Z = true) : (Jvm.Cond.instanceMethod ({ cls := "com/example/nudo/nudo/VehicleClasses", name := "meanReactionTime", desc := "(II)D" } : Jvm.MethodName)).before a0 Z = true := hw _ (List.mem_of_getElem? (i := 53) rfl)
theorem ow54 {Z : State} {a0 : Array Value} (hw : ∀ d ∈ tables_1, d.before a0 Z = true) : (Jvm.Cond.selects "com/example/nudo/nudo/VehicleClasses" ({ cls := "com/example/nudo/nudo/VehicleClasses", name := "meanReactionTime", desc := "(II)D" } : Jvm.MethodName) ({ cls := "com/example/nudo/nudo/VehicleClasses", name := "meanReactionTime", desc := "(II)D" } : Jvm.MethodName)).before a0 Z = true := hw _ (List.mem_of_getElem? (i := 54) rfl)
theorem ow55 {Z : State} {a0 : Array Value} (hw : ∀ d ∈ tables_1, d.before a0 Z = true) : (Jvm.Cond.code ({ cls := "com/example/nudo/nudo/VehicleClasses", name := "meanReactionTime", desc := "(II)D" } : Jvm.MethodName) prog_50_method_4_code (5 : Nat) (Option.some Jvm.ClassFile.FieldType.double)).before a0 Z = true := hw _ (List.mem_of_getElem? (i := 55) rfl)
theorem ow56 {Z : State} {a0 : Array Value} (hw : ∀ d ∈ tables_1, d.before a0 Z = true) : (Jvm.Cond.constant "com/example/nudo/nudo/VehicleClassesMeanReactionTimePinLaw" (19 : Nat) (2147483647 : Int32)).before a0 Z = true := hw _ (List.mem_of_getElem? (i := 56) rfl)
theorem ow57 {Z : State} {a0 : Array Value} (hw : ∀ d ∈ tables_1, d.before a0 Z = true) : (Jvm.Cond.methodLink "com/example/nudo/nudo/VehicleClassesMeanReactionTimePinLaw" (20 : Nat) ({ cls := "java/lang/Math", name := "max", desc := "(II)I" } : Jvm.MethodName)).before a0 Z = true := hw _ (List.mem_of_getElem? (i := 57) rfl)
theorem ow58 {Z : State} {a0 : Array Value} (hw : ∀ d ∈ tables_1, d.before a0 Z = true) : (Jvm.Cond.static ({ cls := "java/lang/Math", name := "max", desc := "(II)I" } : Jvm.MethodName)).before a0 Z = true := hw _ (List.mem_of_getElem? (i := 58) rfl)
theorem ow59 {Z : State} {a0 : Array Value} (hw : ∀ d ∈ tables_1, d.before a0 Z = true) : (Jvm.Cond.code ({ cls := "java/lang/Math", name := "max", desc := "(II)I" } : Jvm.MethodName) jdk_29_method_65_code (2 : Nat) (Option.some Jvm.ClassFile.FieldType.int)).before a0 Z = true := hw _ (List.mem_of_getElem? (i := 59) rfl)
theorem ow60 {Z : State} {a0 : Array Value} (hw : ∀ d ∈ tables_1, d.before a0 Z = true) : (Jvm.Cond.constantLong "com/example/nudo/nudo/VehicleClassesMeanReactionTimePinLaw" (26 : Nat) (2147483647 : Int64)).before a0 Z = true := hw _ (List.mem_of_getElem? (i := 60) rfl)
theorem own_sn0 {Z : State} {a0 : Array Value} (hw : ∀ d ∈ tables_1, d.before a0 Z = true) : Jvm.RoadKit.slotOf Z "com/example/nudo/nudo/VehicleClasses" "automatedReactionTime" "D" ≠ Jvm.RoadKit.slotOf Z "com/example/nudo/nudo/VehicleClasses" "humanReactionTime" "D" := slot_ne (Or.inr (ow36 hw)) (Or.inr (ow34 hw)) (by decide +kernel) (t := .double) (t' := .double) own_fd0 own_fd0
theorem own_sn1 {Z : State} {a0 : Array Value} (hw : ∀ d ∈ tables_1, d.before a0 Z = true) : Jvm.RoadKit.slotOf Z "com/example/nudo/nudo/VehicleClasses" "vehicleLength" "D" ≠ Jvm.RoadKit.slotOf Z "com/example/nudo/nudo/VehicleClasses" "humanReactionTime" "D" := slot_ne (Or.inr (ow38 hw)) (Or.inr (ow34 hw)) (by decide +kernel) (t := .double) (t' := .double) own_fd0 own_fd0
theorem own_sn2 {Z : State} {a0 : Array Value} (hw : ∀ d ∈ tables_1, d.before a0 Z = true) : Jvm.RoadKit.slotOf Z "com/example/nudo/nudo/VehicleClasses" "distance" "Lcom/example/nudo/nudo/FollowingDistance;" ≠ Jvm.RoadKit.slotOf Z "com/example/nudo/nudo/VehicleClasses" "humanReactionTime" "D" := slot_ne (Or.inr (ow50 hw)) (Or.inr (ow34 hw)) (by decide +kernel) (t := (.object "com/example/nudo/nudo/FollowingDistance")) (t' := .double) own_fd1 own_fd0
theorem own_sn3 {Z : State} {a0 : Array Value} (hw : ∀ d ∈ tables_1, d.before a0 Z = true) : Jvm.RoadKit.slotOf Z "com/example/nudo/nudo/VehicleClasses" "vehicleLength" "D" ≠ Jvm.RoadKit.slotOf Z "com/example/nudo/nudo/VehicleClasses" "automatedReactionTime" "D" := slot_ne (Or.inr (ow38 hw)) (Or.inr (ow36 hw)) (by decide +kernel) (t := .double) (t' := .double) own_fd0 own_fd0
theorem own_sn4 {Z : State} {a0 : Array Value} (hw : ∀ d ∈ tables_1, d.before a0 Z = true) : Jvm.RoadKit.slotOf Z "com/example/nudo/nudo/VehicleClasses" "distance" "Lcom/example/nudo/nudo/FollowingDistance;" ≠ Jvm.RoadKit.slotOf Z "com/example/nudo/nudo/VehicleClasses" "automatedReactionTime" "D" := slot_ne (Or.inr (ow50 hw)) (Or.inr (ow36 hw)) (by decide +kernel) (t := (.object "com/example/nudo/nudo/FollowingDistance")) (t' := .double) own_fd1 own_fd0
theorem own_sn5 {Z : State} {a0 : Array Value} (hw : ∀ d ∈ tables_1, d.before a0 Z = true) : Jvm.RoadKit.slotOf Z "com/example/nudo/nudo/VehicleClasses" "distance" "Lcom/example/nudo/nudo/FollowingDistance;" ≠ Jvm.RoadKit.slotOf Z "com/example/nudo/nudo/VehicleClasses" "vehicleLength" "D" := slot_ne (Or.inr (ow50 hw)) (Or.inr (ow38 hw)) (by decide +kernel) (t := (.object "com/example/nudo/nudo/FollowingDistance")) (t' := .double) own_fd1 own_fd0
theorem own_Lhw {Z : State} {a0 : Array Value} (hw : ∀ d ∈ tables_1, d.before a0 Z = true) : own_L Z a0 := trivial

theorem own_pd_0 : parseMethodDescriptor "(D)D" = some ⟨[.double], some .double⟩ := by decide +kernel
theorem own_pd_1 : parseMethodDescriptor "(D)Z" = some ⟨[.double], some .boolean⟩ := by decide +kernel
theorem own_pd_2 : parseMethodDescriptor "(DLjava/lang/String;)D" = some ⟨[.double, (.object "java/lang/String")], some .double⟩ := by decide +kernel
theorem own_pd_3 : parseMethodDescriptor "(D)V" = some ⟨[.double], none⟩ := by decide +kernel
theorem own_pd_4 : parseMethodDescriptor "(II)D" = some ⟨[.int, .int], some .double⟩ := by decide +kernel
theorem own_pd_5 : parseMethodDescriptor "(II)I" = some ⟨[.int, .int], some .int⟩ := by decide +kernel
theorem own_pd_6 : parseMethodDescriptor "(DDD)V" = some ⟨[.double, .double, .double], none⟩ := by decide +kernel
theorem own_pn_0 : plainName "java/lang/Double" = true := by first | (simp [plainName, overriddenIn]; done) | decide +kernel
theorem own_pn_1 : plainName "com/example/nudo/nudo/Link" = true := by first | (simp [plainName, overriddenIn]; done) | decide +kernel
theorem own_pn_2 : plainName "com/example/nudo/nudo/FollowingDistance" = true := by first | (simp [plainName, overriddenIn]; done) | decide +kernel
theorem own_pn_3 : plainName "com/example/nudo/nudo/VehicleClasses" = true := by first | (simp [plainName, overriddenIn]; done) | decide +kernel
theorem own_pn_4 : plainName "com/example/nudo/nudo/VehicleClassesMeanReactionTimePinLaw" = true := by first | (simp [plainName, overriddenIn]; done) | decide +kernel
theorem own_wS {Z : State} {a0 : Array Value} (hw : ∀ d ∈ tables_1, d.before a0 Z = true) : ∀ a ∈ Bundle.stringAtoms, a.before a0 Z = true := by
  intro d hd
  simp only [Bundle.stringAtoms, List.mem_cons, List.not_mem_nil, or_false] at hd
  rcases hd with rfl | rfl | rfl | rfl | rfl | rfl | rfl
  · exact (ow12 hw)
  · exact (ow13 hw)
  · exact (ow14 hw)
  · exact (ow15 hw)
  · exact (ow16 hw)
  · exact (ow17 hw)
  · exact (ow18 hw)
theorem own_pop2 {tb : Tables} [Ours tb] {e : Env} {below : List Frame} {T target : State} {m : MethodId} {c : Code} {g : JFrame} (h : At T m c below) (hx : tb.exec = Jvm.exec) (hg : g.method = m) {v : UInt64} {rest : List Value} (hd : decode c.code g.pc = .ok (.pop2, 1)) (hs : g.stack = .double v :: rest)
    (hr : Steps tb e below (T.setTop { g with pc := g.pc + 1, stack := rest }) target) : Steps tb e below (T.setTop g) target := by
  subst hg
  jvm_step h [h.top, hx, hd, hs, Value.category]
  exact hr
section
variable {p : Program} {l : Launch} {e : Env} {R : Room} {s : State} {m : MethodId} {args : Array Value} {below : List Frame} {meth : Method} {c : Code} {T : State} {locs : List Loc} {cells slots : Nat} {Z : State} {h : Heap} {Q : Option Value → Heap → List Loc → Prop} {kc ks : Nat}
theorem own_retD (X : Stand p l e R s m args below meth c T locs cells slots) (hx : p.tables.exec = Jvm.exec) (hlk : meth.locks = false) (eT : T.heap = h) {pc : Nat} {Ls : Array Slot} {z : UInt64} {rest : List Value} (hret : meth.sig.returnType = some .double)
    (hd : decode c.code pc = .ok (.dreturn, 1)) (hc : cells ≤ kc) (hs : slots ≤ ks) (hq : Q (some (.double z)) h locs) : own_Go p e below s Q kc ks (T.setTop (mkF m pc Ls (.double z :: rest))) :=
  own_end X hlk eT (fun q => by rw [hret] at q; cases q) hc hs hq fun fs hr => retOut X hx hret rfl (Or.inr (Or.inr (Or.inl ⟨rfl, rfl, z, rfl⟩))) hd hr
end
section FloatBits
open Jvm.FP.Core
abbrev own_zv (a : UInt64) : Int := zval b64 (val64 a)
theorem own_rep (n : Int) (k : Nat) (hn : n.natAbs < 2 ^ 53) (hk : k ≤ 2045) : ∃ V, Jvm.FP.Core.fits b64 V ∧ V ≠ .nan ∧ zval b64 V = n * ((2 ^ k : Nat) : Int) := by
  have hq1 : b64.qmin ≤ (k : Int) - 1074 := by rw [qmin_b64]; omega
  have hq2 : (k : Int) - 1074 ≤ b64.qmax := by rw [show b64.qmax = 971 from by decide]; omega
  obtain ⟨c, q, h1, h2⟩ := round_exact good_b64 (decide (n < 0)) (c := n.natAbs) (q := (k : Int) - 1074) hn hq1 hq2
  refine ⟨_, round_fits good_b64 (.fin (decide (n < 0)) n.natAbs ((k : Int) - 1074)), by rw [h1]; exact Datum.noConfusion, ?_⟩
  rw [h1]
  show signed (decide (n < 0)) (inUnits c q b64.qmin) = _
  rw [h2]
  unfold inUnits
  rw [qmin_b64, show ((k : Int) - 1074 - -1074).toNat = k by omega, signed_mul]
  congr 1
  unfold signed
  by_cases h : n < 0
  · simp [h]; omega
  · simp [h]; omega
theorem own_add_le {a b : UInt64} (ha : DFin a) (hb : DFin b) (n : Int) (k : Nat) (hn : n.natAbs < 2 ^ 53) (hk : k ≤ 2045) (h : own_zv a + own_zv b ≤ n * ((2 ^ k : Nat) : Int)) : own_zv (Jvm.FP.dadd a b) ≤ n * ((2 ^ k : Nat) : Int) := by
  obtain ⟨V, v1, v2, v3⟩ := own_rep n k hn hk
  show zval b64 (val64 (dadd a b)) ≤ _
  rw [val64_dadd, ← v3]
  exact sum_le good_b64 ha hb (val64_fits a) (val64_fits b) v1 v2 (by rw [v3]; exact h)
theorem own_add_ge {a b : UInt64} (ha : DFin a) (hb : DFin b) (n : Int) (k : Nat) (hn : n.natAbs < 2 ^ 53) (hk : k ≤ 2045) (h : n * ((2 ^ k : Nat) : Int) ≤ own_zv a + own_zv b) : n * ((2 ^ k : Nat) : Int) ≤ own_zv (Jvm.FP.dadd a b) := by
  obtain ⟨V, v1, v2, v3⟩ := own_rep n k hn hk
  show _ ≤ zval b64 (val64 (dadd a b))
  rw [val64_dadd, ← v3]
  exact sum_ge good_b64 ha hb (val64_fits a) (val64_fits b) v1 v2 (by rw [v3]; exact h)
theorem own_negF {b : UInt64} (hb : DFin b) : ∃ s c q, negate (val64 b) = .fin s c q := by
  obtain ⟨s, c, q, h⟩ := hb
  exact ⟨_, _, _, by rw [h]; rfl⟩
theorem own_sub_eq {a b : UInt64} (ha : DFin a) (hb : DFin b) (n : Int) (k : Nat) (hn : n.natAbs < 2 ^ 53) (hk : k ≤ 2045) (h : own_zv a - own_zv b = n * ((2 ^ k : Nat) : Int)) : own_zv (Jvm.FP.dsub a b) = n * ((2 ^ k : Nat) : Int) := by
  obtain ⟨V, v1, v2, v3⟩ := own_rep n k hn hk
  have e : zval b64 (val64 a) + zval b64 (negate (val64 b)) = zval b64 V := by
    rw [zval_negate, v3, ← h]; show _ = zval b64 (val64 a) - zval b64 (val64 b); omega
  show zval b64 (val64 (dsub a b)) = _
  rw [val64_dsub, ← v3]
  exact Int.le_antisymm (sum_le good_b64 ha (own_negF hb) (val64_fits a) (negate_fits (val64_fits b)) v1 v2 (Int.le_of_eq e)) (sum_ge good_b64 ha (own_negF hb) (val64_fits a) (negate_fits (val64_fits b)) v1 v2 (Int.le_of_eq e.symm))
theorem own_q2 : (b64.qmin - 2 * b64.qmin).toNat = (-b64.qmin).toNat := by decide
theorem own_one : 2 ^ (b64.qmin - 2 * b64.qmin).toNat = one64 := by rw [own_q2]; exact pow_qmin64
theorem own_mul_le {a b : UInt64} (ha : DFin a) (hb : DFin b) (n : Int) (k : Nat) (hn : n.natAbs < 2 ^ 53) (hk : k ≤ 2045) (h : own_zv a * own_zv b ≤ n * ((2 ^ k : Nat) : Int) * (one64 : Int)) : own_zv (Jvm.FP.dmul a b) ≤ n * ((2 ^ k : Nat) : Int) := by
  obtain ⟨V, v1, v2, v3⟩ := own_rep n k hn hk
  show zval b64 (val64 (dmul a b)) ≤ _
  have fa := val64_fits a; have fb := val64_fits b
  rw [val64_dmul, ← v3]
  unfold own_zv at h
  obtain ⟨s, c, q, e1⟩ := ha
  obtain ⟨t, d, r, e2⟩ := hb
  rw [e1] at fa h ⊢; rw [e2] at fb h ⊢
  obtain ⟨p1, p2, p3⟩ := product_units fa fb
  rw [p1]
  refine zval_round_le good_b64 v1 v2 (e0 := 2 * b64.qmin) (by rw [qmin_b64]; omega) p2 ?_
  rw [p3, own_one, v3, signed_xor]
  exact h
theorem own_mul_ge {a b : UInt64} (ha : DFin a) (hb : DFin b) (n : Int) (k : Nat) (hn : n.natAbs < 2 ^ 53) (hk : k ≤ 2045) (h : n * ((2 ^ k : Nat) : Int) * (one64 : Int) ≤ own_zv a * own_zv b) : n * ((2 ^ k : Nat) : Int) ≤ own_zv (Jvm.FP.dmul a b) := by
  obtain ⟨V, v1, v2, v3⟩ := own_rep n k hn hk
  show _ ≤ zval b64 (val64 (dmul a b))
  have fa := val64_fits a; have fb := val64_fits b
  rw [val64_dmul, ← v3]
  unfold own_zv at h
  obtain ⟨s, c, q, e1⟩ := ha
  obtain ⟨t, d, r, e2⟩ := hb
  rw [e1] at fa h ⊢; rw [e2] at fb h ⊢
  obtain ⟨p1, p2, p3⟩ := product_units fa fb
  rw [p1]
  refine zval_round_ge good_b64 v1 v2 (e0 := 2 * b64.qmin) (by rw [qmin_b64]; omega) p2 ?_
  rw [p3, own_one, v3, signed_xor]
  exact h
def own_N (a : UInt64) : Prop := ∃ c q, val64 a = .fin false c q
theorem own_N.fin {a : UInt64} (h : own_N a) : DFin a := by obtain ⟨c, q, h⟩ := h; exact ⟨_, _, _, h⟩
theorem own_div {a b : UInt64} (ha : own_N a) (hb : own_N b) (hz : 0 < own_zv b) : ∃ A B e e0, 0 < B ∧ e0 ≤ b64.qmin ∧ e0 ≤ e ∧ val64 (Jvm.FP.ddiv a b) = roundRatio b64 false A B e ∧ (inUnits A e e0 : Int) = own_zv a * (one64 : Int) ∧ ((2 ^ (b64.qmin - e0).toNat * B : Nat) : Int) = own_zv b := by
  obtain ⟨c, q, e1⟩ := ha
  obtain ⟨d, r, e2⟩ := hb
  have fa := val64_fits a; have fb := val64_fits b
  unfold own_zv at hz ⊢
  rw [e1] at fa ⊢; rw [e2] at fb hz ⊢
  have hd0 : d ≠ 0 := by
    rintro rfl
    have h1 : zval b64 (.fin false 0 r) = 0 := by show signed false (0 * _) = 0; rw [Nat.zero_mul]; rfl
    omega
  have f1 := fa.2.1; have f2 := fb.2.1; have f3 := fb.2.2.1
  have q1 : b64.qmin = -1074 := qmin_b64
  refine ⟨c, d, q - r, 2 * b64.qmin - r, by omega, by omega, by omega, ?_, ?_, ?_⟩
  · show val64 (ddiv a b) = _
    rw [val64_ddiv, e1, e2]
    show (if d = 0 then _ else _) = _
    rw [if_neg hd0]; rfl
  · show ((c * 2 ^ (q - r - (2 * b64.qmin - r)).toNat : Nat) : Int) = ((c * 2 ^ (q - b64.qmin).toNat : Nat) : Int) * _
    rw [← Int.natCast_mul, ← own_one, Nat.mul_assoc, ← Nat.pow_add]
    congr 3; omega
  · show _ = ((d * 2 ^ (r - b64.qmin).toNat : Nat) : Int)
    rw [Nat.mul_comm]; congr 3; omega
theorem own_zabs {V : Datum} {n k : Nat} (h : zval b64 V = (n : Int) * ((2 ^ k : Nat) : Int)) : zmag b64 V = n * 2 ^ k := by
  have q := congrArg Int.natAbs h
  unfold zval at q
  rw [natAbs_signed] at q
  rw [q, ← Int.natCast_mul]; rfl
theorem own_zrr (A B : Nat) (e : Int) : zval b64 (roundRatio b64 false A B e) = (zmag b64 (roundRatio b64 false A B e) : Int) := by
  unfold zval; rw [sgn_roundRatio]; rfl
theorem own_div_le {a b : UInt64} (ha : own_N a) (hb : own_N b) (hz : 0 < own_zv b) (n k : Nat) (hn : n < 2 ^ 53) (hk : k ≤ 2045) (h : own_zv a * (one64 : Int) ≤ (n : Int) * ((2 ^ k : Nat) : Int) * own_zv b) : own_zv (Jvm.FP.ddiv a b) ≤ (n : Int) * ((2 ^ k : Nat) : Int) := by
  obtain ⟨V, v1, v2, v3⟩ := own_rep n k hn hk
  obtain ⟨A, B, e, e0, hB, h0, h0e, hv, hA, hBz⟩ := own_div ha hb hz
  have q := zmag_roundRatio_le good_b64 (s := false) (A := A) (B := B) hB v1 v2 h0 h0e (by
    rw [own_zabs v3, Nat.mul_assoc]
    rw [← hA, ← hBz] at h
    exact_mod_cast h)
  show zval b64 (val64 _) ≤ _
  rw [hv, own_zrr]
  rw [own_zabs v3] at q
  exact_mod_cast q
theorem own_div_ge {a b : UInt64} (ha : own_N a) (hb : own_N b) (hz : 0 < own_zv b) (n k : Nat) (hn : n < 2 ^ 53) (hk : k ≤ 2045) (h : (n : Int) * ((2 ^ k : Nat) : Int) * own_zv b ≤ own_zv a * (one64 : Int)) : (n : Int) * ((2 ^ k : Nat) : Int) ≤ own_zv (Jvm.FP.ddiv a b) := by
  obtain ⟨V, v1, v2, v3⟩ := own_rep n k hn hk
  obtain ⟨A, B, e, e0, hB, h0, h0e, hv, hA, hBz⟩ := own_div ha hb hz
  have q := zmag_roundRatio_ge good_b64 (s := false) (A := A) (B := B) hB v1 h0 h0e (by
    rw [own_zabs v3, Nat.mul_assoc]
    rw [← hA, ← hBz] at h
    exact_mod_cast h)
  show _ ≤ zval b64 (val64 _)
  rw [hv, own_zrr]
  rw [own_zabs v3] at q
  exact_mod_cast q
theorem own_finOf {a : UInt64} (h : val64 a ≠ .nan) {n k : Nat} (hn : n < 2 ^ 53) (hk : k ≤ 2000) (h1 : own_zv a ≤ (n : Int) * ((2 ^ k : Nat) : Int)) (h2 : -((n : Int) * ((2 ^ k : Nat) : Int)) ≤ own_zv a) : DFin a := by
  unfold own_zv at h1 h2
  cases e : val64 a with
  | nan => exact absurd e h
  | fin s c q => exact ⟨s, c, q, e⟩
  | inf s =>
    exfalso
    rw [e] at h1 h2
    have q : n * 2 ^ k < b64.tails * 2 ^ (b64.exps - 2) := by
      have q1 : n * 2 ^ k < 2 ^ 53 * 2 ^ k := Nat.mul_lt_mul_of_pos_right hn (Nat.two_pow_pos _)
      rw [← Nat.pow_add] at q1
      refine Nat.lt_of_lt_of_le q1 ?_
      rw [show b64.tails * 2 ^ (b64.exps - 2) = 2 ^ (52 + 2046) from by decide +kernel]
      exact Nat.pow_le_pow_right (by decide) (by omega)
    rw [← Int.natCast_mul] at h1 h2
    generalize n * 2 ^ k = N at *
    cases s
    · have : zval b64 (.inf false) = ((b64.tails * 2 ^ (b64.exps - 2) : Nat) : Int) := rfl
      rw [this] at h1 h2
      generalize b64.tails * 2 ^ (b64.exps - 2) = M at *
      omega
    · have : zval b64 (.inf true) = -((b64.tails * 2 ^ (b64.exps - 2) : Nat) : Int) := rfl
      rw [this] at h1 h2
      generalize b64.tails * 2 ^ (b64.exps - 2) = M at *
      omega
def own_t : Nat := 2 ^ 1066
theorem own_tk : (2 ^ 1066 : Nat) = own_t := by decide +kernel
theorem own_t1 : (one64 : Int) = 256 * (own_t : Int) := by decide +kernel
theorem own_tpos : 0 < (own_t : Int) := by decide +kernel
theorem own_zi (a : Int32) : own_zv (Jvm.FP.i2d a) = a.toInt * (256 * (own_t : Int)) := by
  show zval b64 (val64 (i2d a)) = _
  rw [DInt_zval (i2d_int a), own_t1]
theorem own_iN {a : Int32} (h : 0 ≤ a.toInt) : own_N (Jvm.FP.i2d a) := by
  obtain ⟨c, q, e⟩ := l2d_shape a.toInt64
  refine ⟨c, q, ?_⟩
  show val64 (i2d a) = _
  rw [i2d_l2d, e]
  have : ¬ a.toInt64.toInt < 0 := by rw [Int32.toInt_toInt64]; omega
  rw [decide_eq_false this]
theorem own_256N : own_N 4643211215818981376 := ⟨2 ^ 52, -44, by decide +kernel⟩
theorem own_256z : own_zv 4643211215818981376 = 256 * (256 * (own_t : Int)) := by decide +kernel
theorem own_nnE {a b : UInt64} (ha : own_N a) (hb : own_N b) (hz : 0 < own_zv b) : val64 (Jvm.FP.ddiv a b) ≠ .nan := by
  obtain ⟨A, B, e, e0, hB, h0, h0e, hv, hA, hBz⟩ := own_div ha hb hz
  rw [hv]; exact roundRatio_ne_nan _ _ _ _ _
theorem own_divN {a b : UInt64} (ha : own_N a) (hb : own_N b) (hz : 0 < own_zv b) (hf : DFin (Jvm.FP.ddiv a b)) : own_N (Jvm.FP.ddiv a b) := by
  obtain ⟨A, B, e, e0, hB, h0, h0e, hv, hA, hBz⟩ := own_div ha hb hz
  obtain ⟨s, c, q, hs⟩ := hf
  have := sgn_roundRatio b64 false A B e
  rw [← hv, hs] at this
  have hs' : s = false := this
  subst hs'
  exact ⟨c, q, hs⟩
/-- hs / 256.0 -/
theorem own_th {h : Int32} (h1 : 1 ≤ h.toInt) (h2 : h.toInt ≤ 65536) : own_N (Jvm.FP.ddiv (Jvm.FP.i2d h) 4643211215818981376) ∧ own_zv (Jvm.FP.ddiv (Jvm.FP.i2d h) 4643211215818981376) = h.toInt * (own_t : Int) := by
  have hz : 0 < own_zv 4643211215818981376 := by rw [own_256z]; have := own_tpos; omega
  have n1 := own_iN (a := h) (by omega)
  have e : own_zv (Jvm.FP.i2d h) * (one64 : Int) = (h.toInt.toNat : Int) * ((2 ^ 1066 : Nat) : Int) * own_zv 4643211215818981376 := by
    rw [own_zi, own_256z, own_t1, own_tk, Int.toNat_of_nonneg (by omega)]
    generalize (own_t : Int) = t
    grind
  have le := own_div_le n1 own_256N hz h.toInt.toNat 1066 (by omega) (by omega) (Int.le_of_eq e)
  have ge := own_div_ge n1 own_256N hz h.toInt.toNat 1066 (by omega) (by omega) (Int.le_of_eq e.symm)
  have f := own_finOf (own_nnE n1 own_256N hz) (n := h.toInt.toNat) (k := 1066) (by omega) (by omega) le (by
    rw [own_tk] at ge ⊢
    have := own_tpos
    have q : 0 ≤ (h.toInt.toNat : Int) * (own_t : Int) := Int.mul_nonneg (by omega) (by omega)
    omega)
  refine ⟨own_divN n1 own_256N hz f, ?_⟩
  rw [own_tk, Int.toNat_of_nonneg (by omega)] at le ge
  omega
theorem own_nnF {a : UInt64} (h : DFin a) : Jvm.Free.Fl.NoNaN64 a := (Jvm.Free.Fl.fin64_core.mpr h).noNaN
theorem own_nn64 {a : UInt64} (h : val64 a ≠ .nan) : Jvm.Free.Fl.NoNaN64 a := Jvm.Free.Fl.noNaN64_no.mpr ((notNaN_iff a).mpr h)
theorem own_nnv {a : UInt64} (h : Jvm.Free.Fl.NoNaN64 a) : val64 a ≠ .nan := (notNaN_iff a).mp (Jvm.Free.Fl.noNaN64_no.mp h)
theorem own_mulT {u v t : Int} (h : u ≤ v) (ht : 0 < t) : u * t ≤ v * t := Int.mul_le_mul_of_nonneg_right h (by omega)
/-- the two reaction times -/
def own_T (h a : Int32) (th ta : UInt64) : Prop := th = Jvm.FP.ddiv (Jvm.FP.i2d h) 4643211215818981376 ∧ ta = Jvm.FP.ddiv (Jvm.FP.i2d a) 4643211215818981376 ∧ 1 ≤ h.toInt ∧ h.toInt ≤ 65536 ∧ 1 ≤ a.toInt ∧ a.toInt ≤ 65536
def own_X (x n : Int32) : Prop := 1 ≤ n.toInt ∧ 0 ≤ x.toInt ∧ x.toInt ≤ n.toInt
theorem own_dz {h a : Int32} {th ta : UInt64} (H : own_T h a th ta) : own_zv (Jvm.FP.dsub ta th) = (a.toInt - h.toInt) * (own_t : Int) := by
  obtain ⟨rfl, rfl, h1, h2, h3, h4⟩ := H
  have p := own_th h1 h2; have q := own_th h3 h4
  have r := own_sub_eq q.1.fin p.1.fin (a.toInt - h.toInt) 1066 (by omega) (by omega)
  rw [own_tk, q.2, p.2, Int.sub_mul] at r
  rw [Int.sub_mul]
  exact r rfl
theorem own_dfin {h a : Int32} {th ta : UInt64} (H : own_T h a th ta) : DFin (Jvm.FP.dsub ta th) := by
  have z := own_dz H
  obtain ⟨rfl, rfl, h1, h2, h3, h4⟩ := H
  have p := own_th h1 h2; have q := own_th h3 h4
  refine own_finOf (own_nnv (Jvm.Free.Fl.dsub_out (own_nnF q.1.fin) (Jvm.Free.Fl.fin64_core.mpr p.1.fin))) (n := 65536) (k := 1066) (by omega) (by omega) ?_ ?_
  · rw [z, own_tk]; exact own_mulT (by omega) own_tpos
  · rw [z, own_tk, ← Int.neg_mul]; exact own_mulT (by omega) own_tpos
theorem own_sh {x n : Int32} (X : own_X x n) : own_N (Jvm.FP.ddiv (Jvm.FP.i2d x) (Jvm.FP.i2d n)) ∧ 0 ≤ own_zv (Jvm.FP.ddiv (Jvm.FP.i2d x) (Jvm.FP.i2d n)) ∧ own_zv (Jvm.FP.ddiv (Jvm.FP.i2d x) (Jvm.FP.i2d n)) ≤ 256 * (own_t : Int) ∧ (x.toInt = 0 → own_zv (Jvm.FP.ddiv (Jvm.FP.i2d x) (Jvm.FP.i2d n)) = 0) ∧ (x = n → own_zv (Jvm.FP.ddiv (Jvm.FP.i2d x) (Jvm.FP.i2d n)) = 256 * (own_t : Int)) := by
  obtain ⟨h1, h2, h3⟩ := X
  have ht := own_tpos
  have n1 := own_iN h2; have n2 := own_iN (a := n) (by omega)
  have hz : 0 < own_zv (Jvm.FP.i2d n) := by rw [own_zi]; exact Int.mul_pos (by omega) (by omega)
  have le := own_div_le n1 n2 hz 256 1066 (by omega) (by omega)
  have le0 := own_div_le n1 n2 hz 0 1066 (by omega) (by omega)
  have ge := own_div_ge n1 n2 hz 256 1066 (by omega) (by omega)
  have ge0 := own_div_ge n1 n2 hz 0 1066 (by omega) (by omega)
  rw [own_tk, own_zi, own_zi, own_t1] at le le0 ge ge0
  have le' := le (by
    have q := own_mulT (own_mulT h3 (t := 256 * (own_t : Int)) (by omega)) (t := 256 * (own_t : Int)) (by omega)
    rw [Int.mul_comm ((256 : Nat) : Int) (own_t : Int), Int.mul_comm ((own_t : Int) * _)]
    rw [Int.mul_comm (256 : Int) (own_t : Int)] at q ⊢
    exact q)
  have ge' := ge0 (by
    rw [show (((0 : Nat) : Int) * (own_t : Int)) = 0 from Int.zero_mul _, Int.zero_mul]
    exact Int.mul_nonneg (Int.mul_nonneg h2 (by omega)) (by omega))
  have f := own_finOf (own_nnE n1 n2 hz) (n := 256) (k := 1066) (by omega) (by omega) (by rw [own_tk]; exact le') (by rw [own_tk]; omega)
  refine ⟨own_divN n1 n2 hz f, by omega, le', ?_, ?_⟩
  · intro h0
    have := le0 (by rw [h0]; simp)
    omega
  · rintro rfl
    have := ge (by
      rw [Int.mul_comm ((256 : Nat) : Int) (own_t : Int), Int.mul_comm ((own_t : Int) * _), Int.mul_comm (256 : Int) (own_t : Int)]
      exact Int.le_refl _)
    exact Int.le_antisymm le' this
theorem own_sgnMul {S D t O : Int} (s0 : 0 ≤ S) (s1 : S ≤ O) (ht : 0 < t) : (0 ≤ D → 0 ≤ S * (D * t) ∧ S * (D * t) ≤ D * t * O) ∧ (D ≤ 0 → D * t * O ≤ S * (D * t) ∧ S * (D * t) ≤ 0) := by
  constructor
  · intro hD
    have q : 0 ≤ D * t := Int.mul_nonneg hD (by omega)
    exact ⟨Int.mul_nonneg s0 q, by rw [Int.mul_comm (D * t)]; exact Int.mul_le_mul_of_nonneg_right s1 q⟩
  · intro hD
    have q : D * t ≤ 0 := Int.mul_nonpos_of_nonpos_of_nonneg hD (by omega)
    exact ⟨by rw [Int.mul_comm (D * t)]; exact Int.mul_le_mul_of_nonpos_right s1 q, Int.mul_nonpos_of_nonneg_of_nonpos s0 q⟩
theorem own_pr {s d : UInt64} (hs : DFin s) (hd : DFin d) {D : Int} (h1 : -65536 ≤ D) (h2 : D ≤ 65536) (s0 : 0 ≤ own_zv s) (s1 : own_zv s ≤ 256 * (own_t : Int)) (hz : own_zv d = D * (own_t : Int)) :
    DFin (Jvm.FP.dmul s d) ∧ (0 ≤ D → 0 ≤ own_zv (Jvm.FP.dmul s d) ∧ own_zv (Jvm.FP.dmul s d) ≤ D * (own_t : Int)) ∧ (D ≤ 0 → D * (own_t : Int) ≤ own_zv (Jvm.FP.dmul s d) ∧ own_zv (Jvm.FP.dmul s d) ≤ 0) ∧ (own_zv s = 0 → own_zv (Jvm.FP.dmul s d) = 0) ∧ (own_zv s = 256 * (own_t : Int) → own_zv (Jvm.FP.dmul s d) = D * (own_t : Int)) := by
  have ht := own_tpos
  have leD := own_mul_le hs hd D 1066 (by omega) (by omega)
  have geD := own_mul_ge hs hd D 1066 (by omega) (by omega)
  have le0 := own_mul_le hs hd 0 1066 (by omega) (by omega)
  have ge0 := own_mul_ge hs hd 0 1066 (by omega) (by omega)
  rw [own_tk, hz, own_t1] at leD geD le0 ge0
  rw [Int.zero_mul, Int.zero_mul] at le0 ge0
  have sg := own_sgnMul s0 s1 ht (D := D)
  have A1 : 0 ≤ D → 0 ≤ own_zv (Jvm.FP.dmul s d) ∧ own_zv (Jvm.FP.dmul s d) ≤ D * (own_t : Int) := fun hD => ⟨ge0 (sg.1 hD).1, leD (sg.1 hD).2⟩
  have A2 : D ≤ 0 → D * (own_t : Int) ≤ own_zv (Jvm.FP.dmul s d) ∧ own_zv (Jvm.FP.dmul s d) ≤ 0 := fun hD => ⟨geD (sg.2 hD).1, le0 (sg.2 hD).2⟩
  have b1 := own_mulT (v := 65536) h2 ht; have b2 := own_mulT (u := -65536) h1 ht
  refine ⟨?_, A1, A2, ?_, ?_⟩
  · refine own_finOf (own_nnv (Jvm.Free.Fl.dmul_out (Jvm.Free.Fl.fin64_core.mpr hs) (Jvm.Free.Fl.fin64_core.mpr hd))) (n := 65536) (k := 1066) (by omega) (by omega) ?_ ?_
    · rw [own_tk]; rcases Int.le_total 0 D with q | q
      · have := A1 q; omega
      · have := A2 q; omega
    · rw [own_tk]; rcases Int.le_total 0 D with q | q
      · have := A1 q; omega
      · have := A2 q; omega
  · intro e
    rw [e, Int.zero_mul] at le0 ge0
    have := le0 (Int.le_refl _); have := ge0 (Int.le_refl _); omega
  · intro e
    rw [e, Int.mul_comm (256 * (own_t : Int))] at leD geD
    have := leD (Int.le_refl _); have := geD (Int.le_refl _); omega
def own_Good (x n : Int32) (th ta : UInt64) : Prop := Jvm.Free.Fl.NoNaN64 (Jvm.FP.ddiv (Jvm.FP.i2d x) (Jvm.FP.i2d n)) ∧ Jvm.Free.Fl.NoNaN64 (Jvm.FP.dsub ta th) ∧ Jvm.Free.Fl.NoNaN64 (Jvm.FP.dmul (Jvm.FP.ddiv (Jvm.FP.i2d x) (Jvm.FP.i2d n)) (Jvm.FP.dsub ta th)) ∧ Jvm.Free.Fl.NoNaN64 (Jvm.FP.dadd th (Jvm.FP.dmul (Jvm.FP.ddiv (Jvm.FP.i2d x) (Jvm.FP.i2d n)) (Jvm.FP.dsub ta th)))
theorem own_R {h a x n : Int32} {th ta : UInt64} (H : own_T h a th ta) (X : own_X x n) : own_Good x n th ta ∧ DFin (Jvm.FP.dadd th (Jvm.FP.dmul (Jvm.FP.ddiv (Jvm.FP.i2d x) (Jvm.FP.i2d n)) (Jvm.FP.dsub ta th))) ∧ (h.toInt ≤ a.toInt → own_zv th ≤ own_zv (Jvm.FP.dadd th (Jvm.FP.dmul (Jvm.FP.ddiv (Jvm.FP.i2d x) (Jvm.FP.i2d n)) (Jvm.FP.dsub ta th))) ∧ own_zv (Jvm.FP.dadd th (Jvm.FP.dmul (Jvm.FP.ddiv (Jvm.FP.i2d x) (Jvm.FP.i2d n)) (Jvm.FP.dsub ta th))) ≤ own_zv ta) ∧
    (a.toInt ≤ h.toInt → own_zv ta ≤ own_zv (Jvm.FP.dadd th (Jvm.FP.dmul (Jvm.FP.ddiv (Jvm.FP.i2d x) (Jvm.FP.i2d n)) (Jvm.FP.dsub ta th))) ∧ own_zv (Jvm.FP.dadd th (Jvm.FP.dmul (Jvm.FP.ddiv (Jvm.FP.i2d x) (Jvm.FP.i2d n)) (Jvm.FP.dsub ta th))) ≤ own_zv th) ∧
    (x.toInt = 0 → own_zv (Jvm.FP.dadd th (Jvm.FP.dmul (Jvm.FP.ddiv (Jvm.FP.i2d x) (Jvm.FP.i2d n)) (Jvm.FP.dsub ta th))) = own_zv th) ∧ (x = n → own_zv (Jvm.FP.dadd th (Jvm.FP.dmul (Jvm.FP.ddiv (Jvm.FP.i2d x) (Jvm.FP.i2d n)) (Jvm.FP.dsub ta th))) = own_zv ta) := by
  have ht := own_tpos
  have fd := own_dfin H; have zd := own_dz H
  obtain ⟨sN, s0, s1, sz, sn⟩ := own_sh X
  unfold own_Good
  generalize Jvm.FP.ddiv (Jvm.FP.i2d x) (Jvm.FP.i2d n) = s at *
  obtain ⟨rfl, rfl, h1, h2, h3, h4⟩ := H
  have p := own_th h1 h2; have q := own_th h3 h4
  generalize Jvm.FP.ddiv (Jvm.FP.i2d h) 4643211215818981376 = th at *
  generalize Jvm.FP.ddiv (Jvm.FP.i2d a) 4643211215818981376 = ta at *
  generalize Jvm.FP.dsub ta th = d at *
  obtain ⟨fp, pa, pb, pz, pn⟩ := own_pr sN.fin fd (D := a.toInt - h.toInt) (by omega) (by omega) s0 s1 zd
  rw [Int.sub_mul] at pa pb pn
  generalize Jvm.FP.dmul s d = pr at *
  have leH := own_add_le p.1.fin fp h.toInt 1066 (by omega) (by omega)
  have geH := own_add_ge p.1.fin fp h.toInt 1066 (by omega) (by omega)
  have leA := own_add_le p.1.fin fp a.toInt 1066 (by omega) (by omega)
  have geA := own_add_ge p.1.fin fp a.toInt 1066 (by omega) (by omega)
  rw [own_tk, p.2] at leH geH leA geA
  have nn := Jvm.Free.Fl.dadd_out (own_nnF p.1.fin) (Jvm.Free.Fl.fin64_core.mpr fp)
  generalize Jvm.FP.dadd th pr = R at *
  rw [p.2, q.2]
  have b1 := own_mulT (v := 65536) h2 ht; have b2 := own_mulT (v := 65536) h4 ht
  have b3 := own_mulT (u := 1) h1 ht; have b4 := own_mulT (u := 1) h3 ht
  have A1 : h.toInt ≤ a.toInt → h.toInt * (own_t : Int) ≤ own_zv R ∧ own_zv R ≤ a.toInt * (own_t : Int) := fun hD => by
    have := pa (by omega); exact ⟨geH (by omega), leA (by omega)⟩
  have A2 : a.toInt ≤ h.toInt → a.toInt * (own_t : Int) ≤ own_zv R ∧ own_zv R ≤ h.toInt * (own_t : Int) := fun hD => by
    have := pb (by omega); exact ⟨geA (by omega), leH (by omega)⟩
  refine ⟨⟨own_nnF sN.fin, own_nnF fd, own_nnF fp, nn⟩, ?_, A1, A2, ?_, ?_⟩
  · refine own_finOf (own_nnv nn) (n := 65536) (k := 1066) (by omega) (by omega) ?_ ?_
    · rw [own_tk]; rcases Int.le_total h.toInt a.toInt with w | w
      · have := A1 w; omega
      · have := A2 w; omega
    · rw [own_tk]; rcases Int.le_total h.toInt a.toInt with w | w
      · have := A1 w; omega
      · have := A2 w; omega
  · intro e
    have := pz (sz e)
    have := leH (by omega); have := geH (by omega); omega
  · intro e
    have := pn (sn e)
    have := leA (by omega); have := geA (by omega); omega
theorem own_pk {k : Nat} (hk : k ≤ 30) : ((2 ^ k : Nat) : Int) * ((2 ^ (1066 - k) : Nat) : Int) = (own_t : Int) ∧ ((2 ^ (1074 - k) : Nat) : Int) = 256 * ((2 ^ (1066 - k) : Nat) : Int) := by
  constructor
  · rw [← Int.natCast_mul, ← Nat.pow_add, show k + (1066 - k) = 1066 by omega, own_tk]
  · rw [show 1074 - k = 8 + (1066 - k) by omega, Nat.pow_add, Int.natCast_mul]; rfl
theorem own_xm {x n d : Int} (h0 : 0 ≤ x) (h1 : x ≤ n) (hn : n ≤ 1073741824) (d1 : -65536 ≤ d) (d2 : d ≤ 65536) : -70368744177664 ≤ x * d ∧ x * d ≤ 70368744177664 := by
  have q1 : x * d ≤ x * 65536 := Int.mul_le_mul_of_nonneg_left d2 h0
  have q2 : x * (-65536) ≤ x * d := Int.mul_le_mul_of_nonneg_left d1 h0
  omega
theorem own_E {h a x n : Int32} {th ta : UInt64} (H : own_T h a th ta) (X : own_X x n) {k : Nat} (hk : k ≤ 30) (hn : n.toInt = ((2 ^ k : Nat) : Int)) (hn' : n.toInt ≤ 1073741824) :
    DFin (Jvm.FP.dmul (Jvm.FP.dadd th (Jvm.FP.dmul (Jvm.FP.ddiv (Jvm.FP.i2d x) (Jvm.FP.i2d n)) (Jvm.FP.dsub ta th))) 4643211215818981376) ∧ own_zv (Jvm.FP.dmul (Jvm.FP.dmul (Jvm.FP.dadd th (Jvm.FP.dmul (Jvm.FP.ddiv (Jvm.FP.i2d x) (Jvm.FP.i2d n)) (Jvm.FP.dsub ta th))) 4643211215818981376) (Jvm.FP.i2d n)) = (h.toInt * n.toInt + x.toInt * (a.toInt - h.toInt)) * (256 * (own_t : Int)) := by
  have ht := own_tpos
  obtain ⟨k1, k2⟩ := own_pk hk
  have fd := own_dfin H; have zd := own_dz H
  have RR := own_R H X
  obtain ⟨x1, x2, x3⟩ := X
  have n1 := own_iN x2; have n2 := own_iN (a := n) (by omega)
  have hz : 0 < own_zv (Jvm.FP.i2d n) := by rw [own_zi]; exact Int.mul_pos (by omega) (by omega)
  have sL := own_div_le n1 n2 hz (256 * x.toInt.toNat) (1066 - k) (by omega) (by omega)
  have sG := own_div_ge n1 n2 hz (256 * x.toInt.toNat) (1066 - k) (by omega) (by omega)
  have sF := (own_sh ⟨x1, x2, x3⟩).1.fin
  have zn := own_zi n
  have fR := RR.2.1
  rw [own_zi, own_zi, own_t1, Int.natCast_mul, Int.toNat_of_nonneg x2] at sL sG
  clear RR
  generalize Jvm.FP.ddiv (Jvm.FP.i2d x) (Jvm.FP.i2d n) = s at *
  have zs : own_zv s = (256 * x.toInt) * ((2 ^ (1066 - k) : Nat) : Int) := by
    have e : x.toInt * (256 * (own_t : Int)) * (256 * (own_t : Int)) = ((256 : Nat) : Int) * x.toInt * ((2 ^ (1066 - k) : Nat) : Int) * (n.toInt * (256 * (own_t : Int))) := by
      rw [hn, ← k1]
      generalize ((2 ^ k : Nat) : Int) = N
      generalize ((2 ^ (1066 - k) : Nat) : Int) = u
      generalize x.toInt = y
      grind
    exact Int.le_antisymm (sL (Int.le_of_eq e)) (sG (Int.le_of_eq e.symm))
  obtain ⟨rfl, rfl, h1, h2, h3, h4⟩ := H
  have p := own_th h1 h2
  generalize Jvm.FP.ddiv (Jvm.FP.i2d h) 4643211215818981376 = th at *
  generalize Jvm.FP.ddiv (Jvm.FP.i2d a) 4643211215818981376 = ta at *
  generalize Jvm.FP.dsub ta th = d at *
  have xm := own_xm x2 x3 hn' (d := a.toInt - h.toInt) (by omega) (by omega)
  have hm := own_xm (x := n.toInt) (n := n.toInt) (d := h.toInt) (by omega) (by omega) hn' (by omega) (by omega)
  rw [Int.mul_comm n.toInt] at hm
  have pL := own_mul_le sF fd (x.toInt * (a.toInt - h.toInt)) (1066 - k) (by omega) (by omega)
  have pG := own_mul_ge sF fd (x.toInt * (a.toInt - h.toInt)) (1066 - k) (by omega) (by omega)
  have pF := (own_pr sF fd (D := a.toInt - h.toInt) (by omega) (by omega) (by rw [zs]; exact Int.mul_nonneg (by omega) (Int.natCast_nonneg _)) (by
    rw [zs, ← k1, ← hn, ← Int.mul_assoc]
    exact Int.mul_le_mul_of_nonneg_right (by omega) (Int.natCast_nonneg _)) zd).1
  rw [zs, zd, own_t1] at pL pG
  have zp : own_zv (Jvm.FP.dmul s d) = x.toInt * (a.toInt - h.toInt) * ((2 ^ (1066 - k) : Nat) : Int) := by
    have e : 256 * x.toInt * ((2 ^ (1066 - k) : Nat) : Int) * ((a.toInt - h.toInt) * (own_t : Int)) = x.toInt * (a.toInt - h.toInt) * ((2 ^ (1066 - k) : Nat) : Int) * (256 * (own_t : Int)) := by
      generalize ((2 ^ (1066 - k) : Nat) : Int) = u
      generalize x.toInt = y
      generalize a.toInt - h.toInt = D
      generalize (own_t : Int) = t
      grind
    exact Int.le_antisymm (pL (Int.le_of_eq e)) (pG (Int.le_of_eq e.symm))
  generalize Jvm.FP.dmul s d = P at *
  have rL := own_add_le p.1.fin pF (h.toInt * n.toInt + x.toInt * (a.toInt - h.toInt)) (1066 - k) (by omega) (by omega)
  have rG := own_add_ge p.1.fin pF (h.toInt * n.toInt + x.toInt * (a.toInt - h.toInt)) (1066 - k) (by omega) (by omega)
  rw [zp, p.2] at rL rG
  have zr : own_zv (Jvm.FP.dadd th P) = (h.toInt * n.toInt + x.toInt * (a.toInt - h.toInt)) * ((2 ^ (1066 - k) : Nat) : Int) := by
    have e : h.toInt * (own_t : Int) + x.toInt * (a.toInt - h.toInt) * ((2 ^ (1066 - k) : Nat) : Int) = (h.toInt * n.toInt + x.toInt * (a.toInt - h.toInt)) * ((2 ^ (1066 - k) : Nat) : Int) := by
      rw [Int.add_mul, Int.mul_assoc h.toInt, hn, k1]
    exact Int.le_antisymm (rL (Int.le_of_eq e)) (rG (Int.le_of_eq e.symm))
  generalize Jvm.FP.dadd th P = R at *
  generalize hnum : h.toInt * n.toInt + x.toInt * (a.toInt - h.toInt) = num at *
  have num1 : num.natAbs < 2 ^ 53 := by omega
  have mL := own_mul_le fR own_256N.fin num (1074 - k) num1 (by omega)
  have mG := own_mul_ge fR own_256N.fin num (1074 - k) num1 (by omega)
  rw [zr, own_256z, own_t1] at mL mG
  have zm : own_zv (Jvm.FP.dmul R 4643211215818981376) = num * ((2 ^ (1074 - k) : Nat) : Int) := by
    have e : num * ((2 ^ (1066 - k) : Nat) : Int) * (256 * (256 * (own_t : Int))) = num * ((2 ^ (1074 - k) : Nat) : Int) * (256 * (own_t : Int)) := by
      rw [k2]
      generalize ((2 ^ (1066 - k) : Nat) : Int) = u
      generalize (own_t : Int) = t
      grind
    exact Int.le_antisymm (mL (Int.le_of_eq e)) (mG (Int.le_of_eq e.symm))
  have fM : DFin (Jvm.FP.dmul R 4643211215818981376) := by
    refine own_finOf (own_nnv (Jvm.Free.Fl.dmul_out (Jvm.Free.Fl.fin64_core.mpr fR) (Jvm.Free.Fl.fin64_core.mpr own_256N.fin))) (n := num.natAbs) (k := 1074 - k) num1 (by omega) ?_ ?_
    · rw [zm]; exact Int.mul_le_mul_of_nonneg_right (by omega) (Int.natCast_nonneg _)
    · rw [zm, ← Int.neg_mul]; exact Int.mul_le_mul_of_nonneg_right (by omega) (Int.natCast_nonneg _)
  refine ⟨fM, ?_⟩
  generalize Jvm.FP.dmul R 4643211215818981376 = M at *
  have oL := own_mul_le fM n2.fin num 1074 num1 (by omega)
  have oG := own_mul_ge fM n2.fin num 1074 num1 (by omega)
  rw [show ((2 ^ 1074 : Nat) : Int) = 256 * (own_t : Int) from by decide +kernel, zm, zn, own_t1] at oL oG
  have e : num * ((2 ^ (1074 - k) : Nat) : Int) * (n.toInt * (256 * (own_t : Int))) = num * (256 * (own_t : Int)) * (256 * (own_t : Int)) := by
    rw [hn, k2, ← k1]
    generalize ((2 ^ (1066 - k) : Nat) : Int) = u
    generalize ((2 ^ k : Nat) : Int) = N
    grind
  exact Int.le_antisymm (oL (Int.le_of_eq e)) (oG (Int.le_of_eq e.symm))
theorem own_cl0 {x y : UInt64} (hx : DFin x) (hy : DFin y) (h : own_zv x = own_zv y) : cmpValue (Jvm.FP.dcmp x y) .l = (0 : Int32) := by
  rw [show Jvm.FP.dcmp x y = some .eq from dcmp_eq.mpr ⟨hx.ne_nan, hy.ne_nan, h⟩]; rfl
theorem own_cg {x y : UInt64} (hx : DFin x) (hy : DFin y) : (0 : Int32) < cmpValue (Jvm.FP.dcmp x y) .g ↔ own_zv y < own_zv x := by
  rw [show Jvm.FP.dcmp x y = _ from dcmp_zval hx.ne_nan hy.ne_nan, ← compare_gt_iff]
  generalize compare (zval b64 (val64 x)) (zval b64 (val64 y)) = o
  cases o <;> decide
theorem own_cgl {x y : UInt64} (hx : DFin x) (hy : DFin y) : cmpValue (Jvm.FP.dcmp x y) .g < (0 : Int32) ↔ own_zv x < own_zv y := by
  rw [show Jvm.FP.dcmp x y = _ from dcmp_zval hx.ne_nan hy.ne_nan, ← compare_lt_iff]
  generalize compare (zval b64 (val64 x)) (zval b64 (val64 y)) = o
  cases o <;> decide
theorem own_ninf {d : UInt64} (h : Jvm.Free.Fl.Fin64 d) : ¬ (0 : Int32) < cmpValue (Jvm.FP.dcmp (d &&& 0x7fffffffffffffff) 9218868437227405311) .l := by
  have q := mt (Jvm.Free.Fl.gt_max_iff h.noNaN).mp (fun z => z h)
  intro r
  apply q
  revert r
  show (0 : Int32) < cmpValue (Jvm.FP.dcmp (d &&& 0x7fffffffffffffff) Jvm.Free.Fl.maxD) .l → _
  generalize Jvm.FP.dcmp (d &&& 0x7fffffffffffffff) Jvm.Free.Fl.maxD = o
  rcases o with _ | (_ | _ | _) <;> decide
def own_Pos (d : UInt64) : Prop := Jvm.Free.Fl.Fin64 d ∧ (0 : Int32) < cmpValue (Jvm.FP.dcmp d Jvm.FP.dconst0) .l
theorem own_pos1 : own_Pos Jvm.FP.dconst1 := ⟨Jvm.Free.Fl.fin64_core.mpr ((fin_bits _).mpr (by decide)), by decide +kernel⟩
theorem own_posOf {d : UInt64} (h : DFin d) (h0 : 0 < own_zv d) : own_Pos d := by
  refine ⟨Jvm.Free.Fl.fin64_core.mpr h, ?_⟩
  rw [show Jvm.FP.dcmp d Jvm.FP.dconst0 = some .gt from dcmp_gt.mpr ⟨h.ne_nan, by decide +kernel, by rw [show zval b64 (val64 Jvm.FP.dconst0) = 0 from by decide +kernel]; exact h0⟩]; decide
theorem own_Tp {h a : Int32} {th ta : UInt64} (H : own_T h a th ta) : (own_N th ∧ own_zv th = h.toInt * (own_t : Int)) ∧ own_N ta ∧ own_zv ta = a.toInt * (own_t : Int) := by
  obtain ⟨rfl, rfl, h1, h2, h3, h4⟩ := H
  exact ⟨own_th h1 h2, own_th h3 h4⟩
theorem own_posT1 {h a : Int32} {th ta : UInt64} (H : own_T h a th ta) : own_Pos th :=
  own_posOf (own_Tp H).1.1.fin (by rw [(own_Tp H).1.2]; exact Int.mul_pos (by have := H.2.2.1; omega) own_tpos)
theorem own_posT2 {h a : Int32} {th ta : UInt64} (H : own_T h a th ta) : own_Pos ta :=
  own_posOf (own_Tp H).2.1.fin (by rw [(own_Tp H).2.2]; exact Int.mul_pos (by have := H.2.2.2.2.1; omega) own_tpos)
theorem own_mk (p : Int32) : 1 ≤ ((p &&& (65535 : Int32)) + (1 : Int32)).toInt ∧ ((p &&& (65535 : Int32)) + (1 : Int32)).toInt ≤ 65536 := by
  have h1 := c_mask p (65535 : Int32) 16 (by decide) (by decide)
  have h2 := c_iadd (p &&& (65535 : Int32)) (1 : Int32)
  have h3 := rng32 ((p &&& (65535 : Int32)) + (1 : Int32))
  have h4 : (1 : Int32).toInt = 1 := by decide
  omega
theorem own_Tmk (p q : Int32) : own_T ((p &&& (65535 : Int32)) + (1 : Int32)) ((q &&& (65535 : Int32)) + (1 : Int32)) (Jvm.FP.ddiv (Jvm.FP.i2d ((p &&& (65535 : Int32)) + (1 : Int32))) 4643211215818981376) (Jvm.FP.ddiv (Jvm.FP.i2d ((q &&& (65535 : Int32)) + (1 : Int32))) 4643211215818981376) :=
  ⟨rfl, rfl, (own_mk p).1, (own_mk p).2, (own_mk q).1, (own_mk q).2⟩
theorem own_nnTh (p : Int32) : Jvm.Free.Fl.NoNaN64 (Jvm.FP.ddiv (Jvm.FP.i2d ((p &&& (65535 : Int32)) + (1 : Int32))) 4643211215818981376) := own_nnF (own_th (own_mk p).1 (own_mk p).2).1.fin
theorem own_X0 {n : Int32} (h : 1 ≤ n.toInt) : own_X (0 : Int32) n := by
  have z : (0 : Int32).toInt = 0 := by decide
  exact ⟨h, by omega, by omega⟩
theorem own_Xn {n : Int32} (h : 1 ≤ n.toInt) : own_X n n := ⟨h, by omega, by omega⟩
theorem own_1lt {n : Int32} (h : (1 : Int32) < n) : 1 ≤ n.toInt := by
  have q := Int32.lt_iff_toInt_lt.mp h
  have : (1 : Int32).toInt = 1 := by decide
  omega
theorem own_nl {n : Int32} (h : 1 ≤ n.toInt) : ((n.toInt64) + (1 : Int64)).toInt = n.toInt + 1 := by
  have h1 := c_ladd (n.toInt64) (1 : Int64); have h2 := c_i2l n; have h3 := rng32 n; have h4 := rng64 ((n.toInt64) + (1 : Int64))
  have h5 : (1 : Int64).toInt = 1 := by decide
  omega
theorem own_ny {n : Int32} (h : 1 ≤ n.toInt) : ¬ ((n.toInt64) + (1 : Int64)) = (0 : Int64) := by
  intro e
  have h1 := own_nl h
  rw [e, show (0 : Int64).toInt = 0 from by decide] at h1
  omega
theorem own_X2 (a : Int32) {n : Int32} (h : 1 ≤ n.toInt) : own_X ((((a.toInt64) &&& (2147483647 : Int64)) - (((a.toInt64) &&& (2147483647 : Int64)) / ((n.toInt64) + (1 : Int64))) * ((n.toInt64) + (1 : Int64))).toInt32) n := by
  have h1 := c_maskL (a.toInt64) (2147483647 : Int64) 31 (by decide) (by decide)
  have h2 := own_nl h
  have h3 := (c_lrem ((a.toInt64) &&& (2147483647 : Int64)) ((n.toInt64) + (1 : Int64)) (n.toInt + 1) h2).1 (by rw [h1]; exact Int.emod_nonneg _ (by decide))
  generalize (((a.toInt64) &&& (2147483647 : Int64)) - (((a.toInt64) &&& (2147483647 : Int64)) / ((n.toInt64) + (1 : Int64))) * ((n.toInt64) + (1 : Int64))) = z at *
  have h4 := c_l2i z; have h5 := rng32 z.toInt32; have h6 := rng32 n
  have h7 := Int.emod_nonneg ((a.toInt64) &&& (2147483647 : Int64)).toInt (b := n.toInt + 1) (by omega)
  have h8 := Int.emod_lt_of_pos ((a.toInt64) &&& (2147483647 : Int64)).toInt (b := n.toInt + 1) (by omega)
  refine ⟨h, ?_, ?_⟩ <;> omega
theorem own_kk (v : Int32) : 0 ≤ ((v &&& (2147483647 : Int32)) % (31 : Int32)).toInt ∧ ((v &&& (2147483647 : Int32)) % (31 : Int32)).toInt ≤ 30 := by
  have h1 := c_mask v (2147483647 : Int32) 31 (by decide) (by decide)
  have h2 := c_irem (v &&& (2147483647 : Int32)) (31 : Int32) 31 rfl
  omega
theorem own_all31 : ∀ j : Fin 31, ((1 : Int32) <<< ((Int32.ofNat j.val) &&& 31)).toInt = ((2 ^ j.val : Nat) : Int) := by decide +kernel
theorem own_nk {k : Int32} (h0 : 0 ≤ k.toInt) (h1 : k.toInt ≤ 30) : ((1 : Int32) <<< (k &&& 31)).toInt = ((2 ^ k.toInt.toNat : Nat) : Int) := by
  have q := own_all31 ⟨k.toInt.toNat, by omega⟩
  rw [show Int32.ofNat k.toInt.toNat = k from by
    apply Int32.toInt_inj.mp
    rw [Int32.toInt_ofNat_of_lt (by omega)]; omega] at q
  exact q
theorem own_nb {k : Nat} (h : k ≤ 30) : 1 ≤ ((2 ^ k : Nat) : Int) ∧ ((2 ^ k : Nat) : Int) ≤ 1073741824 := by
  have h1 : 0 < 2 ^ k := Nat.two_pow_pos k
  have h2 : 2 ^ k ≤ 2 ^ 30 := Nat.pow_le_pow_right (by decide) h
  omega
def own_K (n : Int32) : Prop := ∃ k : Nat, k ≤ 30 ∧ n.toInt = ((2 ^ k : Nat) : Int)
theorem own_Kmk (v : Int32) : own_K ((1 : Int32) <<< (((v &&& (2147483647 : Int32)) % (31 : Int32)) &&& 31)) :=
  ⟨_, by have := own_kk v; omega, own_nk (own_kk v).1 (own_kk v).2⟩
theorem own_K1 {n : Int32} (K : own_K n) : 1 ≤ n.toInt ∧ n.toInt ≤ 1073741824 := by
  obtain ⟨k, h1, h2⟩ := K
  rw [h2]; exact own_nb h1
theorem own_Kp {n : Int32} (K : own_K n) : (n + (1 : Int32)).toInt = n.toInt + 1 := by
  have h := own_K1 K; have h1 := c_iadd n (1 : Int32); have h3 := rng32 (n + (1 : Int32))
  have h4 : (1 : Int32).toInt = 1 := by decide
  omega
theorem own_Kz {n : Int32} (K : own_K n) : ¬ (n + (1 : Int32)) = (0 : Int32) := by
  intro e
  have h1 := own_Kp K; have h := own_K1 K
  rw [e, show (0 : Int32).toInt = 0 from by decide] at h1
  omega
theorem own_X1 (a : Int32) {n : Int32} (K : own_K n) : own_X ((a &&& (2147483647 : Int32)) % (n + (1 : Int32))) n := by
  have h1 := c_mask a (2147483647 : Int32) 31 (by decide) (by decide)
  have h := own_K1 K; have h2 := own_Kp K
  have q := c_iremV (a &&& (2147483647 : Int32)) (n + (1 : Int32))
  have q1 := q.1 (by rw [h1]; exact Int.emod_nonneg _ (by decide)) (by omega)
  exact ⟨h.1, q1.1, by have := q1.2.1; omega⟩
theorem own_gd {x n : Int32} {th ta : UInt64} (h : n = (0 : Int32) ∨ own_Good x n th ta) (hn : ¬ n = (0 : Int32)) : own_Good x n th ta := h.resolve_left hn
theorem own_Xnz {x n : Int32} (X : own_X x n) : ¬ n = (0 : Int32) := by
  rintro rfl
  have := X.1
  rw [show (0 : Int32).toInt = 0 from by decide] at this
  omega
theorem own_self {h a : Int32} {th ta : UInt64} (H : own_T h a th ta) : cmpValue (Jvm.FP.dcmp th th) .l = (0 : Int32) := own_cl0 (own_Tp H).1.1.fin (own_Tp H).1.1.fin rfl
theorem own_q0 {h a x n : Int32} {th ta : UInt64} (H : own_T h a th ta) (X : own_X x n) (e : x = (0 : Int32)) : cmpValue (Jvm.FP.dcmp (Jvm.FP.dadd th (Jvm.FP.dmul (Jvm.FP.ddiv (Jvm.FP.i2d x) (Jvm.FP.i2d n)) (Jvm.FP.dsub ta th))) th) .l = (0 : Int32) :=
  own_cl0 (own_R H X).2.1 (own_Tp H).1.1.fin ((own_R H X).2.2.2.2.1 (by rw [e]; decide))
theorem own_qn {h a x n : Int32} {th ta : UInt64} (H : own_T h a th ta) (X : own_X x n) (e : x = n) : cmpValue (Jvm.FP.dcmp (Jvm.FP.dadd th (Jvm.FP.dmul (Jvm.FP.ddiv (Jvm.FP.i2d x) (Jvm.FP.i2d n)) (Jvm.FP.dsub ta th))) ta) .l = (0 : Int32) :=
  own_cl0 (own_R H X).2.1 (own_Tp H).2.1.fin ((own_R H X).2.2.2.2.2 e)
theorem own_le {h a x n : Int32} {th ta : UInt64} (H : own_T h a th ta) (X : own_X x n) (c : cmpValue (Jvm.FP.dcmp ta th) .g < (0 : Int32)) :
    ¬ ((0 : Int32) < cmpValue (Jvm.FP.dcmp ta (Jvm.FP.dadd th (Jvm.FP.dmul (Jvm.FP.ddiv (Jvm.FP.i2d x) (Jvm.FP.i2d n)) (Jvm.FP.dsub ta th)))) .g) ∧ ¬ ((0 : Int32) < cmpValue (Jvm.FP.dcmp (Jvm.FP.dadd th (Jvm.FP.dmul (Jvm.FP.ddiv (Jvm.FP.i2d x) (Jvm.FP.i2d n)) (Jvm.FP.dsub ta th))) th) .g) := by
  have p := own_Tp H; have r := own_R H X
  rw [own_cgl p.2.1.fin p.1.1.fin, p.1.2, p.2.2] at c
  have hle : a.toInt ≤ h.toInt := by
    refine Int.le_of_not_gt fun q => ?_
    have := own_mulT (Int.le_of_lt q) own_tpos
    omega
  have := r.2.2.2.1 hle
  rw [own_cg p.2.1.fin r.2.1, own_cg r.2.1 p.1.1.fin]
  omega
theorem own_ge {h a x n : Int32} {th ta : UInt64} (H : own_T h a th ta) (X : own_X x n) (c : ¬ cmpValue (Jvm.FP.dcmp ta th) .g < (0 : Int32)) :
    ¬ ((0 : Int32) < cmpValue (Jvm.FP.dcmp th (Jvm.FP.dadd th (Jvm.FP.dmul (Jvm.FP.ddiv (Jvm.FP.i2d x) (Jvm.FP.i2d n)) (Jvm.FP.dsub ta th)))) .g) ∧ ¬ ((0 : Int32) < cmpValue (Jvm.FP.dcmp (Jvm.FP.dadd th (Jvm.FP.dmul (Jvm.FP.ddiv (Jvm.FP.i2d x) (Jvm.FP.i2d n)) (Jvm.FP.dsub ta th))) ta) .g) := by
  have p := own_Tp H; have r := own_R H X
  rw [own_cgl p.2.1.fin p.1.1.fin, p.1.2, p.2.2] at c
  have hle : h.toInt ≤ a.toInt := by
    refine Int.le_of_not_gt fun q => ?_
    have q2 : (a.toInt + 1) * (own_t : Int) ≤ h.toInt * (own_t : Int) := own_mulT (by omega) own_tpos
    rw [Int.add_mul] at q2
    have := own_tpos
    omega
  have := r.2.2.1 hle
  rw [own_cg p.1.1.fin r.2.1, own_cg r.2.1 p.2.1.fin]
  omega
theorem own_num {h a x n : Int32} {th ta : UInt64} (H : own_T h a th ta) (X : own_X x n) (K : own_K n) : (((h.toInt64) * (n.toInt64)) + ((x.toInt64) * ((a - h).toInt64))).toInt = h.toInt * n.toInt + x.toInt * (a.toInt - h.toInt) ∧ (h.toInt * n.toInt + x.toInt * (a.toInt - h.toInt)).natAbs < 2 ^ 53 := by
  obtain ⟨-, -, h1, h2, h3, h4⟩ := H
  have k := own_K1 K
  obtain ⟨x1, x2, x3⟩ := X
  have xm := own_xm x2 x3 k.2 (d := a.toInt - h.toInt) (by omega) (by omega)
  have hm := own_xm (x := n.toInt) (n := n.toInt) (d := h.toInt) (by omega) (by omega) k.2 (by omega) (by omega)
  rw [Int.mul_comm n.toInt] at hm
  have s1 := c_isub a h; have s2 := rng32 (a - h)
  have s3 : (a - h).toInt = a.toInt - h.toInt := by omega
  have m1 := c_lmul (h.toInt64) (n.toInt64); have m2 := c_lmul (x.toInt64) ((a - h).toInt64)
  rw [c_i2l, c_i2l] at m1 m2
  rw [s3] at m2
  have m3 := rng64 ((h.toInt64) * (n.toInt64)); have m4 := rng64 ((x.toInt64) * ((a - h).toInt64))
  have m5 := c_ladd ((h.toInt64) * (n.toInt64)) ((x.toInt64) * ((a - h).toInt64)); have m6 := rng64 (((h.toInt64) * (n.toInt64)) + ((x.toInt64) * ((a - h).toInt64)))
  omega
theorem own_s1 {h a x n : Int32} {th ta : UInt64} (H : own_T h a th ta) (X : own_X x n) (K : own_K n) :
    Jvm.Free.Fl.NoNaN64 (Jvm.FP.dmul (Jvm.FP.dadd th (Jvm.FP.dmul (Jvm.FP.ddiv (Jvm.FP.i2d x) (Jvm.FP.i2d n)) (Jvm.FP.dsub ta th))) 4643211215818981376) ∧ Jvm.Free.Fl.NoNaN64 (Jvm.FP.dmul (Jvm.FP.dmul (Jvm.FP.dadd th (Jvm.FP.dmul (Jvm.FP.ddiv (Jvm.FP.i2d x) (Jvm.FP.i2d n)) (Jvm.FP.dsub ta th))) 4643211215818981376) (Jvm.FP.i2d n)) ∧
    cmpValue (Jvm.FP.dcmp (Jvm.FP.dmul (Jvm.FP.dmul (Jvm.FP.dadd th (Jvm.FP.dmul (Jvm.FP.ddiv (Jvm.FP.i2d x) (Jvm.FP.i2d n)) (Jvm.FP.dsub ta th))) 4643211215818981376) (Jvm.FP.i2d n)) (Jvm.FP.l2d (((h.toInt64) * (n.toInt64)) + ((x.toInt64) * ((a - h).toInt64))))) .l = (0 : Int32) := by
  obtain ⟨num1, num2⟩ := own_num H X K
  have k := own_K1 K
  obtain ⟨j, hj, hn⟩ := K
  obtain ⟨fM, zM⟩ := own_E H X hj hn k.2
  have fn := (own_iN (a := n) (by omega)).fin
  have nn := Jvm.Free.Fl.dmul_out (Jvm.Free.Fl.fin64_core.mpr fM) (Jvm.Free.Fl.fin64_core.mpr fn)
  refine ⟨own_nnF fM, nn, ?_⟩
  have zl : own_zv (Jvm.FP.l2d (((h.toInt64) * (n.toInt64)) + ((x.toInt64) * ((a - h).toInt64)))) = (h.toInt * n.toInt + x.toInt * (a.toInt - h.toInt)) * (256 * (own_t : Int)) := by
    show zval b64 (val64 (l2d _)) = _
    rw [DInt_zval (l2d_int (by rw [num1]; omega)), num1, own_t1]
  rw [show Jvm.FP.dcmp _ _ = some .eq from dcmp_eq.mpr ⟨own_nnv nn, (l2d_fin _).ne_nan, zM.trans zl.symm⟩]; rfl
end FloatBits
theorem d8_0 : decode jdk_29_method_65_code 0 = .ok (.iload_n 0, 1) := by decide +kernel
theorem d8_1 : decode jdk_29_method_65_code 1 = .ok (.iload_n 1, 1) := by decide +kernel
theorem d8_2 : decode jdk_29_method_65_code 2 = .ok (.if_icmp .lt 7, 3) := by decide +kernel
theorem d8_5 : decode jdk_29_method_65_code 5 = .ok (.iload_n 0, 1) := by decide +kernel
theorem d8_6 : decode jdk_29_method_65_code 6 = .ok (.goto 4, 3) := by decide +kernel
theorem d8_9 : decode jdk_29_method_65_code 9 = .ok (.iload_n 1, 1) := by decide +kernel
theorem d8_10 : decode jdk_29_method_65_code 10 = .ok (.ireturn, 1) := by decide +kernel
def Q_maxi (Z : State) (pa : Int32) (pb : Int32) (h0 : Heap) (v : Option Value) (h : Heap) (L : List Loc) : Prop := (v = some (.int pb) ∧ Fr Z.heap.size L ∧ pa < pb ∧ h = h0) ∨ (v = some (.int pa) ∧ Fr Z.heap.size L ∧ ¬ (pa < pb) ∧ h = h0)
theorem ef_maxi (m : MethodId) (x0 : Int32) (x1 : Int32) : entryFrame m #[(.int x0), (.int x1)] 2 = mkF m 0 #[iv x0, iv x1] [] := by first | (simp [entryFrame, mkF, argsToLocals, Value.category]; done) | rfl
set_option maxRecDepth 65536 in
set_option maxHeartbeats 40000000 in
theorem rm_maxi (l : Launch) (Z : State) (a0 : Array Value) (hw : ∀ d ∈ tables_1, d.before a0 Z = true) (ws : List Jvm.Cond) (pa : Int32) (pb : Int32) (h0 : Heap) (O0 : Ext Z.heap h0) :
    own_MF l Z h0 (⟨"java/lang/Math", "max", "(II)I"⟩ : MethodName) jdk_29_method_65_code 2 (some .int) ({ frames := 0, cells := 0, slots := 0, locals := 0 } : Room) #[(.int pa), (.int pb)] (Q_maxi Z pa pb h0) ws := by
  refine own_met (Q := (Q_maxi Z pa pb h0)) _ _ (Jvm.Free.JP.mathPlain rfl (by decide +kernel)) ?_
  intro p e s m below meth c T X0 hx hby hml hret hlk hZ hown hnm e0
  replace hown : s.vm.findClass "java/lang/Math" = some m.cls := hown
  replace hnm : meth.name = "max" := hnm
  have hml : c.maxLocals = 2 := hml
  have N0 := Fr.nil Z.heap.size
  have K0 := Keep.refl h0 []
  refine own_go (fun _ k => castTop (ef_maxi m pa pb) k) ?_
  show own_Go p e below s _ _ _ (T.setTop (mkF m 0 #[iv pa, iv pb] []))
  refine own_go (fun _ k => XS.iloadN X0.here hx rfl (hb hby d8_0) rfl k) ?_
  show own_Go p e below s _ _ _ (T.setTop (mkF m 1 #[iv pa, iv pb] [(.int pa)]))
  refine own_go (fun _ k => XS.iloadN X0.here hx rfl (hb hby d8_1) rfl k) ?_
  show own_Go p e below s _ _ _ (T.setTop (mkF m 2 #[iv pa, iv pb] [(.int pb), (.int pa)]))
  by_cases hc1 : pa < pb
  · refine own_go (fun _ k => XS.icmpYes X0.here hx rfl (pc0 := 2) (pc' := 9) rfl (hb hby d8_2) rfl (tlt hc1).1 (by decide) (by decide) k) ?_
    show own_Go p e below s _ _ _ (T.setTop (mkF m 9 #[iv pa, iv pb] []))
    refine own_go (fun _ k => XS.iloadN X0.here hx rfl (hb hby d8_9) rfl k) ?_
    show own_Go p e below s _ _ _ (T.setTop (mkF m 10 #[iv pa, iv pb] [(.int pb)]))
    refine own_retI X0 hx hlk e0 hret (hb hby d8_10) (by show _ ≤ 0; omega) (by show _ ≤ 0; omega) ?_
    exact Or.inl ⟨rfl, N0, hc1, rfl⟩
  · refine own_go (fun _ k => XS.icmpNo X0.here hx rfl (hb hby d8_2) rfl (flt hc1).1 k) ?_
    show own_Go p e below s _ _ _ (T.setTop (mkF m 5 #[iv pa, iv pb] []))
    refine own_go (fun _ k => XS.iloadN X0.here hx rfl (hb hby d8_5) rfl k) ?_
    show own_Go p e below s _ _ _ (T.setTop (mkF m 6 #[iv pa, iv pb] [(.int pa)]))
    refine own_go (fun _ k => XS.goto X0.here hx rfl (pc0 := 6) (pc' := 10) rfl (hb hby d8_6) (by decide) (by decide) k) ?_
    show own_Go p e below s _ _ _ (T.setTop (mkF m 10 #[iv pa, iv pb] [(.int pa)]))
    refine own_retI X0 hx hlk e0 hret (hb hby d8_10) (by show _ ≤ 0; omega) (by show _ ≤ 0; omega) ?_
    exact Or.inr (⟨rfl, N0, hc1, rfl⟩)
theorem d4_0 : decode jdk_117_method_7_code 0 = .ok (.dload_n 0, 1) := by decide +kernel
theorem d4_1 : decode jdk_117_method_7_code 1 = .ok (.invokestatic 38, 3) := by decide +kernel
theorem d4_4 : decode jdk_117_method_7_code 4 = .ok (.ldc2_w 111, 3) := by decide +kernel
theorem d4_7 : decode jdk_117_method_7_code 7 = .ok (.dcmp .l, 1) := by decide +kernel
theorem d4_8 : decode jdk_117_method_7_code 8 = .ok (.ifCond .le 7, 3) := by decide +kernel
theorem d4_15 : decode jdk_117_method_7_code 15 = .ok (.iconst 0, 1) := by decide +kernel
theorem d4_16 : decode jdk_117_method_7_code 16 = .ok (.ireturn, 1) := by decide +kernel
def Q_isinf (Z : State) (dd : UInt64) (h0 : Heap) (v : Option Value) (h : Heap) (L : List Loc) : Prop := (v = some (.int (0 : Int32)) ∧ Fr Z.heap.size L ∧ h = h0)
theorem ef_isinf (m : MethodId) (x0 : UInt64) : entryFrame m #[(.double x0)] 2 = mkF m 0 #[.val (.double x0), .second] [] := by first | (simp [entryFrame, mkF, argsToLocals, Value.category]; done) | rfl
set_option maxRecDepth 65536 in
set_option maxHeartbeats 40000000 in
theorem rm_isinf (l : Launch) (Z : State) (a0 : Array Value) (hw : ∀ d ∈ tables_1, d.before a0 Z = true) (ws : List Jvm.Cond) (dd : UInt64) (h0 : Heap) (O0 : Ext Z.heap h0) (hF : Jvm.Free.Fl.Fin64 dd) :
    own_MF l Z h0 (⟨"java/lang/Double", "isInfinite", "(D)Z"⟩ : MethodName) jdk_117_method_7_code 2 (some .boolean) ({ frames := 1, cells := 0, slots := 0, locals := 13 } : Room) #[(.double dd)] (Q_isinf Z dd h0) ws := by
  refine own_met (Q := (Q_isinf Z dd h0)) _ _ (plainFor_of_name own_pn_0) ?_
  intro p e s m below meth c T X0 hx hby hml hret hlk hZ hown hnm e0
  replace hown : s.vm.findClass "java/lang/Double" = some m.cls := hown
  replace hnm : meth.name = "isInfinite" := hnm
  have hml : c.maxLocals = 2 := hml
  have N0 := Fr.nil Z.heap.size
  have K0 := Keep.refl h0 []
  refine own_go (fun _ k => castTop (ef_isinf m dd) k) ?_
  show own_Go p e below s _ _ _ (T.setTop (mkF m 0 #[.val (.double dd), .second] []))
  refine own_go (fun _ k => XS.dloadN X0.here hx rfl (hb hby d4_0) rfl k) ?_
  show own_Go p e below s _ _ _ (T.setTop (mkF m 1 #[.val (.double dd), .second] [(.double dd)]))
  obtain ⟨T1, X1, e1, st1⟩ := natS (y := (⟨"java/lang/Math", "abs", "(D)D"⟩ : MethodName)) X0 hx hZ hown (ow27 hw) (ow28 hw) (ow29 hw) (ow30 hw) (by decide) e0 (W := 0) (F := fun a' => a' = #[.double dd] ∧ Jvm.Free.Fl.NoNaN64 dd) (val := .double (dd &&& 0x7fffffffffffffff)) (fun hc => Jvm.Free.Fl.Abs.absD_pays dd hc (by decide) (by decide)) (g := (mkF m 1 #[.val (.double dd), .second] [(.double dd)])) rfl (by rw [hml]; rfl) (argsL := [.double dd]) (rest := []) (lenOf own_pd_0 rfl) rfl (by show 2 * 0 + _ ≤ _; exact Nat.le_of_eq rfl) (hb hby d4_1) (by show _ ≤ 0; omega) (by show _ ≤ 0; omega) ⟨rfl, hF.noNaN⟩ rfl
  refine own_go st1 ?_
  clear st1 X0 e0
  show own_Go p e below s _ _ _ (T1.setTop (mkF m 4 #[.val (.double dd), .second] [(.double (dd &&& 0x7fffffffffffffff))]))
  refine own_go (X1.ldc2DoubleC hx hown (mvT hZ (ow31 hw)) (g := (mkF m 4 #[.val (.double dd), .second] [(.double (dd &&& 0x7fffffffffffffff))])) rfl (hb hby d4_4)) ?_
  show own_Go p e below s _ _ _ (T1.setTop (mkF m 7 #[.val (.double dd), .second] [(.double (9218868437227405311 : UInt64)), (.double (dd &&& 0x7fffffffffffffff))]))
  refine own_go (fun _ k => XS.dcmpS X1.here hx rfl (hb hby d4_7) rfl rfl k) ?_
  show own_Go p e below s _ _ _ (T1.setTop (mkF m 8 #[.val (.double dd), .second] [(.int (cmpValue (FP.dcmp (dd &&& 0x7fffffffffffffff) (9218868437227405311 : UInt64)) .l))]))
  refine own_go (fun _ k => XS.ifYes X1.here hx rfl (pc0 := 8) (pc' := 15) rfl (hb hby d4_8) rfl ((if0 _ _).trans (flt (own_ninf hF)).2.2.2) (by decide) (by decide) k) ?_
  show own_Go p e below s _ _ _ (T1.setTop (mkF m 15 #[.val (.double dd), .second] []))
  refine own_go (fun _ k => XS.iconst X1.here hx rfl (hb hby d4_15) k) ?_
  show own_Go p e below s _ _ _ (T1.setTop (mkF m 16 #[.val (.double dd), .second] [(.int (0 : Int32))]))
  refine own_retN X1 hx hlk e1 (t := .boolean) hret (by simp) (hb hby d4_16) (by show _ ≤ 0; omega) (by show _ ≤ 0; omega) ?_
  exact ⟨rfl, N0, rfl⟩
theorem d3_0 : decode prog_27_method_20_code 0 = .ok (.dload_n 0, 1) := by decide +kernel
theorem d3_1 : decode prog_27_method_20_code 1 = .ok (.dconst 0, 1) := by decide +kernel
theorem d3_2 : decode prog_27_method_20_code 2 = .ok (.dcmp .l, 1) := by decide +kernel
theorem d3_3 : decode prog_27_method_20_code 3 = .ok (.ifCond .le 10, 3) := by decide +kernel
theorem d3_6 : decode prog_27_method_20_code 6 = .ok (.dload_n 0, 1) := by decide +kernel
theorem d3_7 : decode prog_27_method_20_code 7 = .ok (.invokestatic 98, 3) := by decide +kernel
theorem d3_10 : decode prog_27_method_20_code 10 = .ok (.ifCond .eq 18, 3) := by decide +kernel
theorem d3_28 : decode prog_27_method_20_code 28 = .ok (.dload_n 0, 1) := by decide +kernel
theorem d3_29 : decode prog_27_method_20_code 29 = .ok (.dreturn, 1) := by decide +kernel
def Q_reqpos (Z : State) (dd : UInt64) (zs : Addr) (h0 : Heap) (v : Option Value) (h : Heap) (L : List Loc) : Prop := (v = some (.double dd) ∧ Fr Z.heap.size L ∧ h = h0)
theorem ef_reqpos (m : MethodId) (x0 : UInt64) (x1 : Addr) : entryFrame m #[(.double x0), (.ref x1)] 3 = mkF m 0 #[.val (.double x0), .second, rv x1] [] := by first | (simp [entryFrame, mkF, argsToLocals, Value.category]; done) | rfl
set_option maxRecDepth 65536 in
set_option maxHeartbeats 40000000 in
theorem rm_reqpos (l : Launch) (Z : State) (a0 : Array Value) (hw : ∀ d ∈ tables_1, d.before a0 Z = true) (ws : List Jvm.Cond) (dd : UInt64) (zs : Addr) (h0 : Heap) (O0 : Ext Z.heap h0) (hP : own_Pos dd) :
    own_MF l Z h0 (⟨"com/example/nudo/nudo/Link", "requirePositive", "(DLjava/lang/String;)D"⟩ : MethodName) prog_27_method_20_code 3 (some .double) ({ frames := 2, cells := 0, slots := 0, locals := 26 } : Room) #[(.double dd), (.ref zs)] (Q_reqpos Z dd zs h0) ws := by
  refine own_met (Q := (Q_reqpos Z dd zs h0)) _ _ (plainFor_of_name own_pn_1) ?_
  intro p e s m below meth c T X0 hx hby hml hret hlk hZ hown hnm e0
  replace hown : s.vm.findClass "com/example/nudo/nudo/Link" = some m.cls := hown
  replace hnm : meth.name = "requirePositive" := hnm
  have hml : c.maxLocals = 3 := hml
  have N0 := Fr.nil Z.heap.size
  have K0 := Keep.refl h0 []
  refine own_go (fun _ k => castTop (ef_reqpos m dd zs) k) ?_
  show own_Go p e below s _ _ _ (T.setTop (mkF m 0 #[.val (.double dd), .second, rv zs] []))
  refine own_go (fun _ k => XS.dloadN X0.here hx rfl (hb hby d3_0) rfl k) ?_
  show own_Go p e below s _ _ _ (T.setTop (mkF m 1 #[.val (.double dd), .second, rv zs] [(.double dd)]))
  refine own_go (fun _ k => XS.dconst0 X0.here hx rfl (hb hby d3_1) rfl k) ?_
  show own_Go p e below s _ _ _ (T.setTop (mkF m 2 #[.val (.double dd), .second, rv zs] [(.double FP.dconst0), (.double dd)]))
  refine own_go (fun _ k => XS.dcmpS X0.here hx rfl (hb hby d3_2) rfl rfl k) ?_
  show own_Go p e below s _ _ _ (T.setTop (mkF m 3 #[.val (.double dd), .second, rv zs] [(.int (cmpValue (FP.dcmp dd FP.dconst0) .l))]))
  refine own_go (fun _ k => XS.ifNo X0.here hx rfl (hb hby d3_3) rfl ((if0 _ _).trans (tlt hP.2).2.2.2) k) ?_
  show own_Go p e below s _ _ _ (T.setTop (mkF m 6 #[.val (.double dd), .second, rv zs] []))
  refine own_go (fun _ k => XS.dloadN X0.here hx rfl (hb hby d3_6) rfl k) ?_
  show own_Go p e below s _ _ _ (T.setTop (mkF m 7 #[.val (.double dd), .second, rv zs] [(.double dd)]))
  obtain ⟨v1, T1, L1, X1, hQ1, st1⟩ := own_callS (y := (⟨"java/lang/Double", "isInfinite", "(D)Z"⟩ : MethodName)) X0 hx hZ hown (ow23 hw) (ow24 hw) (ow25 hw) (ow26 hw) (rm_isinf l Z a0 hw [] dd h0 O0 hP.1) 0 0 0 (by show _ ≤ 0; omega) (by show _ ≤ 0; omega) e0 (g := (mkF m 7 #[.val (.double dd), .second, rv zs] [(.double dd)])) rfl (by rw [hml]; rfl) [(.double dd)] [] (lenOf own_pd_1 rfl) rfl rfl (hb hby d3_7)
  obtain ⟨rfl, Nc3, Kc2⟩ := hQ1
  refine own_go st1 ?_
  clear st1 X0 e0
  replace N0 := Fr.app N0 Nc3
  clear Nc3
  show own_Go p e below s _ _ _ (T1.setTop (mkF m 10 #[.val (.double dd), .second, rv zs] [(.int (0 : Int32))]))
  refine own_go (fun _ k => XS.ifYes X1.here hx rfl (pc0 := 10) (pc' := 28) rfl (hb hby d3_10) rfl ((if0 _ _).trans (teq (by decide : (0 : Int32) = (0 : Int32))).1) (by decide) (by decide) k) ?_
  show own_Go p e below s _ _ _ (T1.setTop (mkF m 28 #[.val (.double dd), .second, rv zs] []))
  refine own_go (fun _ k => XS.dloadN X1.here hx rfl (hb hby d3_28) rfl k) ?_
  show own_Go p e below s _ _ _ (T1.setTop (mkF m 29 #[.val (.double dd), .second, rv zs] [(.double dd)]))
  refine own_retD X1 hx hlk Kc2 hret (hb hby d3_29) (by show _ ≤ 0; omega) (by show _ ≤ 0; omega) ?_
  exact ⟨rfl, N0, rfl⟩
theorem d6_0 : decode prog_20_method_1_code 0 = .ok (.aload_n 0, 1) := by decide +kernel
theorem d6_1 : decode prog_20_method_1_code 1 = .ok (.invokespecial 1, 3) := by decide +kernel
theorem d6_4 : decode prog_20_method_1_code 4 = .ok (.dload_n 1, 1) := by decide +kernel
theorem d6_5 : decode prog_20_method_1_code 5 = .ok (.dconst 0, 1) := by decide +kernel
theorem d6_6 : decode prog_20_method_1_code 6 = .ok (.dcmp .l, 1) := by decide +kernel
theorem d6_7 : decode prog_20_method_1_code 7 = .ok (.ifCond .le 10, 3) := by decide +kernel
theorem d6_10 : decode prog_20_method_1_code 10 = .ok (.dload_n 1, 1) := by decide +kernel
theorem d6_11 : decode prog_20_method_1_code 11 = .ok (.invokestatic 7, 3) := by decide +kernel
theorem d6_14 : decode prog_20_method_1_code 14 = .ok (.ifCond .eq 17, 3) := by decide +kernel
theorem d6_31 : decode prog_20_method_1_code 31 = .ok (.aload_n 0, 1) := by decide +kernel
theorem d6_32 : decode prog_20_method_1_code 32 = .ok (.dload_n 1, 1) := by decide +kernel
theorem d6_33 : decode prog_20_method_1_code 33 = .ok (.putfield 22, 3) := by decide +kernel
theorem d6_36 : decode prog_20_method_1_code 36 = .ok (.return_, 1) := by decide +kernel
def Q_foinit (Z : State) (ob : Addr) (dd : UInt64) (h0 : Heap) (v : Option Value) (h : Heap) (L : List Loc) : Prop := (v = none ∧ Fr Z.heap.size L ∧ Keep h0 h [ob] ∧ Exa Z h ob "com/example/nudo/nudo/FollowingDistance")
theorem ef_foinit (m : MethodId) (x0 : Addr) (x1 : UInt64) : entryFrame m #[(.ref x0), (.double x1)] 3 = mkF m 0 #[rv x0, .val (.double x1), .second] [] := by first | (simp [entryFrame, mkF, argsToLocals, Value.category]; done) | rfl
set_option maxRecDepth 65536 in
set_option maxHeartbeats 40000000 in
theorem rm_foinit (l : Launch) (Z : State) (a0 : Array Value) (hw : ∀ d ∈ tables_1, d.before a0 Z = true) (ws : List Jvm.Cond) (ob : Addr) (dd : UInt64) (h0 : Heap) (O0 : Ext Z.heap h0) (fp0 : Exa Z h0 ob "com/example/nudo/nudo/FollowingDistance") (fp1 : Fld Z h0 ob "com/example/nudo/nudo/FollowingDistance" "vehicleLength" "D" (.double (0 : UInt64))) (big_ob : Z.heap.size ≤ ob) (hP : own_Pos dd) :
    own_MF l Z h0 (⟨"com/example/nudo/nudo/FollowingDistance", "<init>", "(D)V"⟩ : MethodName) prog_20_method_1_code 3 none ({ frames := 2, cells := 0, slots := 0, locals := 26 } : Room) #[(.ref ob), (.double dd)] (Q_foinit Z ob dd h0) ws := by
  refine own_met (Q := (Q_foinit Z ob dd h0)) _ _ (plainFor_of_name own_pn_2) ?_
  intro p e s m below meth c T X0 hx hby hml hret hlk hZ hown hnm e0
  replace hown : s.vm.findClass "com/example/nudo/nudo/FollowingDistance" = some m.cls := hown
  replace hnm : meth.name = "<init>" := hnm
  have hml : c.maxLocals = 3 := hml
  have N0 := Fr.nil Z.heap.size
  have K0 := Keep.refl h0 [ob]
  refine own_go (fun _ k => castTop (ef_foinit m ob dd) k) ?_
  show own_Go p e below s _ _ _ (T.setTop (mkF m 0 #[rv ob, .val (.double dd), .second] []))
  refine own_go (fun _ k => XS.aloadN X0.here hx rfl (hb hby d6_0) rfl rfl k) ?_
  show own_Go p e below s _ _ _ (T.setTop (mkF m 1 #[rv ob, .val (.double dd), .second] [(.ref ob)]))
  obtain ⟨T1, X1, e1, st1⟩ := initO X0 hx hZ hown (ow45 hw) (ow9 hw) (ow10 hw) e0 (g := (mkF m 1 #[rv ob, .val (.double dd), .second] [(.ref ob)])) rfl (by rw [hml]; rfl) rfl (hb hby d6_1) (by decide) (W := 0) (by show 2 * 0 + _ ≤ _; exact Nat.le_of_eq rfl) (by decide)
  refine own_go st1 ?_
  clear st1 X0 e0
  show own_Go p e below s _ _ _ (T1.setTop (mkF m 4 #[rv ob, .val (.double dd), .second] []))
  refine own_go (fun _ k => XS.dloadN X1.here hx rfl (hb hby d6_4) rfl k) ?_
  show own_Go p e below s _ _ _ (T1.setTop (mkF m 5 #[rv ob, .val (.double dd), .second] [(.double dd)]))
  refine own_go (fun _ k => XS.dconst0 X1.here hx rfl (hb hby d6_5) rfl k) ?_
  show own_Go p e below s _ _ _ (T1.setTop (mkF m 6 #[rv ob, .val (.double dd), .second] [(.double FP.dconst0), (.double dd)]))
  refine own_go (fun _ k => XS.dcmpS X1.here hx rfl (hb hby d6_6) rfl rfl k) ?_
  show own_Go p e below s _ _ _ (T1.setTop (mkF m 7 #[rv ob, .val (.double dd), .second] [(.int (cmpValue (FP.dcmp dd FP.dconst0) .l))]))
  refine own_go (fun _ k => XS.ifNo X1.here hx rfl (hb hby d6_7) rfl ((if0 _ _).trans (tlt hP.2).2.2.2) k) ?_
  show own_Go p e below s _ _ _ (T1.setTop (mkF m 10 #[rv ob, .val (.double dd), .second] []))
  refine own_go (fun _ k => XS.dloadN X1.here hx rfl (hb hby d6_10) rfl k) ?_
  show own_Go p e below s _ _ _ (T1.setTop (mkF m 11 #[rv ob, .val (.double dd), .second] [(.double dd)]))
  obtain ⟨v2, T2, L2, X2, hQ2, st2⟩ := own_callS (y := (⟨"java/lang/Double", "isInfinite", "(D)Z"⟩ : MethodName)) X1 hx hZ hown (ow46 hw) (ow24 hw) (ow25 hw) (ow26 hw) (rm_isinf l Z a0 hw [] dd h0 O0 hP.1) 0 0 0 (by show _ ≤ 0; omega) (by show _ ≤ 0; omega) e1 (g := (mkF m 11 #[rv ob, .val (.double dd), .second] [(.double dd)])) rfl (by rw [hml]; rfl) [(.double dd)] [] (lenOf own_pd_1 rfl) rfl rfl (hb hby d6_11)
  obtain ⟨rfl, Nc4, Kc3⟩ := hQ2
  refine own_go st2 ?_
  clear st2 X1 e1
  replace N0 := Fr.app N0 Nc4
  clear Nc4
  show own_Go p e below s _ _ _ (T2.setTop (mkF m 14 #[rv ob, .val (.double dd), .second] [(.int (0 : Int32))]))
  refine own_go (fun _ k => XS.ifYes X2.here hx rfl (pc0 := 14) (pc' := 31) rfl (hb hby d6_14) rfl ((if0 _ _).trans (teq (by decide : (0 : Int32) = (0 : Int32))).1) (by decide) (by decide) k) ?_
  show own_Go p e below s _ _ _ (T2.setTop (mkF m 31 #[rv ob, .val (.double dd), .second] []))
  refine own_go (fun _ k => XS.aloadN X2.here hx rfl (hb hby d6_31) rfl rfl k) ?_
  show own_Go p e below s _ _ _ (T2.setTop (mkF m 32 #[rv ob, .val (.double dd), .second] [(.ref ob)]))
  refine own_go (fun _ k => XS.dloadN X2.here hx rfl (hb hby d6_32) rfl k) ?_
  show own_Go p e below s _ _ _ (T2.setTop (mkF m 33 #[rv ob, .val (.double dd), .second] [(.double dd), (.ref ob)]))
  obtain ⟨T5, h5, X5, e5, W5, st5⟩ := putF X2 hx hZ hown (host := "") (Or.inl (ow47 hw)) Via.refl Kc3 fp1 fp0 (Or.inr ⟨(ow48 hw), rfl, hnm⟩) (ow40 hw) (ty := .double) own_fd0 rfl rfl (g := (mkF m 33 #[rv ob, .val (.double dd), .second] [(.double dd), (.ref ob)])) rfl rfl (hb hby d6_33)
  refine own_go st5 ?_
  clear st5 X2 Kc3
  replace N0 := Fr.snoc X5 N0 big_ob
  replace fp0 := fp0.wr W5
  replace fp1 := fp1.same W5
  replace O0 := own_oldWr O0 W5 big_ob
  replace K0 := K0.wr W5 (Or.inl (List.mem_of_getElem? (i := 0) rfl))
  clear W5
  show own_Go p e below s _ _ _ (T5.setTop (mkF m 36 #[rv ob, .val (.double dd), .second] []))
  refine own_retV X5 hx hlk e5 hret (hb hby d6_36) (by show _ ≤ 0; omega) (by show _ ≤ 0; omega) ?_
  exact ⟨rfl, N0, K0, fp0⟩
theorem d1_0 : decode prog_50_method_1_code 0 = .ok (.aload_n 0, 1) := by decide +kernel
theorem d1_1 : decode prog_50_method_1_code 1 = .ok (.invokespecial 1, 3) := by decide +kernel
theorem d1_4 : decode prog_50_method_1_code 4 = .ok (.dload_n 1, 1) := by decide +kernel
theorem d1_5 : decode prog_50_method_1_code 5 = .ok (.ldc 7, 2) := by decide +kernel
theorem d1_7 : decode prog_50_method_1_code 7 = .ok (.invokestatic 9, 3) := by decide +kernel
theorem d1_10 : decode prog_50_method_1_code 10 = .ok (.pop2, 1) := by decide +kernel
theorem d1_11 : decode prog_50_method_1_code 11 = .ok (.dload_n 3, 1) := by decide +kernel
theorem d1_12 : decode prog_50_method_1_code 12 = .ok (.ldc 15, 2) := by decide +kernel
theorem d1_14 : decode prog_50_method_1_code 14 = .ok (.invokestatic 9, 3) := by decide +kernel
theorem d1_17 : decode prog_50_method_1_code 17 = .ok (.pop2, 1) := by decide +kernel
theorem d1_18 : decode prog_50_method_1_code 18 = .ok (.aload_n 0, 1) := by decide +kernel
theorem d1_19 : decode prog_50_method_1_code 19 = .ok (.dload_n 1, 1) := by decide +kernel
theorem d1_20 : decode prog_50_method_1_code 20 = .ok (.putfield 17, 3) := by decide +kernel
theorem d1_23 : decode prog_50_method_1_code 23 = .ok (.aload_n 0, 1) := by decide +kernel
theorem d1_24 : decode prog_50_method_1_code 24 = .ok (.dload_n 3, 1) := by decide +kernel
theorem d1_25 : decode prog_50_method_1_code 25 = .ok (.putfield 23, 3) := by decide +kernel
theorem d1_28 : decode prog_50_method_1_code 28 = .ok (.aload_n 0, 1) := by decide +kernel
theorem d1_29 : decode prog_50_method_1_code 29 = .ok (.dload 5, 2) := by decide +kernel
theorem d1_31 : decode prog_50_method_1_code 31 = .ok (.putfield 26, 3) := by decide +kernel
theorem d1_34 : decode prog_50_method_1_code 34 = .ok (.aload_n 0, 1) := by decide +kernel
theorem d1_35 : decode prog_50_method_1_code 35 = .ok (.new 29, 3) := by decide +kernel
theorem d1_38 : decode prog_50_method_1_code 38 = .ok (.dup, 1) := by decide +kernel
theorem d1_39 : decode prog_50_method_1_code 39 = .ok (.dload 5, 2) := by decide +kernel
theorem d1_41 : decode prog_50_method_1_code 41 = .ok (.invokespecial 31, 3) := by decide +kernel
theorem d1_44 : decode prog_50_method_1_code 44 = .ok (.putfield 34, 3) := by decide +kernel
theorem d1_47 : decode prog_50_method_1_code 47 = .ok (.return_, 1) := by decide +kernel
def Q_vcinit (Z : State) (ob : Addr) (dh : UInt64) (da : UInt64) (dl : UInt64) (h0 : Heap) (v : Option Value) (h : Heap) (L : List Loc) : Prop := (v = none ∧ Fr Z.heap.size L ∧ Keep h0 h [ob] ∧ Exa Z h ob "com/example/nudo/nudo/VehicleClasses" ∧ Fld Z h ob "com/example/nudo/nudo/VehicleClasses" "humanReactionTime" "D" (.double dh) ∧ Fld Z h ob "com/example/nudo/nudo/VehicleClasses" "automatedReactionTime" "D" (.double da))
theorem ef_vcinit (m : MethodId) (x0 : Addr) (x1 : UInt64) (x2 : UInt64) (x3 : UInt64) : entryFrame m #[(.ref x0), (.double x1), (.double x2), (.double x3)] 7 = mkF m 0 #[rv x0, .val (.double x1), .second, .val (.double x2), .second, .val (.double x3), .second] [] := by first | (simp [entryFrame, mkF, argsToLocals, Value.category]; done) | rfl
set_option maxRecDepth 65536 in
set_option maxHeartbeats 40000000 in
theorem rm_vcinit (l : Launch) (Z : State) (a0 : Array Value) (hw : ∀ d ∈ tables_1, d.before a0 Z = true) (ws : List Jvm.Cond) (ob : Addr) (dh : UInt64) (da : UInt64) (dl : UInt64) (h0 : Heap) (O0 : Ext Z.heap h0) (fp0 : Exa Z h0 ob "com/example/nudo/nudo/VehicleClasses") (fp1 : Fld Z h0 ob "com/example/nudo/nudo/VehicleClasses" "humanReactionTime" "D" (.double (0 : UInt64))) (fp2 : Fld Z h0 ob "com/example/nudo/nudo/VehicleClasses" "automatedReactionTime" "D" (.double (0 : UInt64))) (fp3 : Fld Z h0 ob "com/example/nudo/nudo/VehicleClasses" "vehicleLength" "D" (.double (0 : UInt64))) (fp4 : Fld Z h0 ob "com/example/nudo/nudo/VehicleClasses" "distance" "Lcom/example/nudo/nudo/FollowingDistance;" .null) (big_ob : Z.heap.size ≤ ob) (hPh : own_Pos dh) (hPa : own_Pos da) (hPl : own_Pos dl) :
    MetFree l (⟨"com/example/nudo/nudo/VehicleClasses", "<init>", "(DDD)V"⟩ : MethodName) (head1 (Jvm.Cond.code (⟨"com/example/nudo/nudo/VehicleClasses", "<init>", "(DDD)V"⟩ : MethodName) prog_50_method_1_code 7 none :: ws) ({ frames := 3, cells := 5, slots := 205, locals := 42 } : Room)) (fun a U => a = #[(.ref ob), (.double dh), (.double da), (.double dl)] ∧ Z.Warmed39 U.vm ∧ U.heap = h0 ∧ own_J Z U.vm U.heap) (fun _ _ _ _ _ => True) (fun _ U o U' => ∃ v L, o = .returned v ∧ ((Q_vcinit Z ob dh da dl h0) v U'.heap L ∧ own_J Z U'.vm U'.heap) ∧ ReturnedEndW U o U' L ({ frames := 3, cells := 5, slots := 205, locals := 42 } : Room).cells ({ frames := 3, cells := 5, slots := 205, locals := 42 } : Room).slots) := by
  refine own_metW (Q := (Q_vcinit Z ob dh da dl h0)) _ _ (plainFor_of_name own_pn_3) ?_
  intro p e s vm0 m below meth c T X0 hS hJ hJ0 hZ0 hI hs0 hx hby hml hret hlk hZ hown hnm e0
  replace hown : (s.setVm vm0).vm.findClass "com/example/nudo/nudo/VehicleClasses" = some m.cls := hown
  replace hnm : meth.name = "<init>" := hnm
  have hml : c.maxLocals = 7 := hml
  have N0 := Fr.nil Z.heap.size
  have hL := own_Lhw hw
  have K0 := Keep.refl h0 [ob]
  refine own_goW (fun _ k => castTop (ef_vcinit m ob dh da dl) k) ?_
  show own_GoW p e below s _ _ _ _ (T.setTop (mkF m 0 #[rv ob, .val (.double dh), .second, .val (.double da), .second, .val (.double dl), .second] []))
  refine own_goW (fun _ k => XS.aloadN X0.here hx rfl (hb hby d1_0) rfl rfl k) ?_
  show own_GoW p e below s _ _ _ _ (T.setTop (mkF m 1 #[rv ob, .val (.double dh), .second, .val (.double da), .second, .val (.double dl), .second] [(.ref ob)]))
  obtain ⟨T1, X1, e1, st1⟩ := initO X0 hx hZ hown (ow8 hw) (ow9 hw) (ow10 hw) e0 (g := (mkF m 1 #[rv ob, .val (.double dh), .second, .val (.double da), .second, .val (.double dl), .second] [(.ref ob)])) rfl (by rw [hml]; rfl) rfl (hb hby d1_1) (by decide) (W := 0) (by show 2 * 0 + _ ≤ _; exact Nat.le_of_eq rfl) (by decide)
  refine own_goW st1 ?_
  clear st1 X0 e0
  show own_GoW p e below s _ _ _ _ (T1.setTop (mkF m 4 #[rv ob, .val (.double dh), .second, .val (.double da), .second, .val (.double dl), .second] []))
  refine own_goW (fun _ k => XS.dloadN X1.here hx rfl (hb hby d1_4) rfl k) ?_
  show own_GoW p e below s _ _ _ _ (T1.setTop (mkF m 5 #[rv ob, .val (.double dh), .second, .val (.double da), .second, .val (.double dl), .second] [(.double dh)]))
  obtain ⟨b2, T2, h2, k2, X2, e2, E2, hSn, hkn, hZn, hownn, st2⟩ := ldcS X1 hx hZ hown (ow11 hw) (own_wS hw) e1 hS (Nat.le_refl _) (g := (mkF m 5 #[rv ob, .val (.double dh), .second, .val (.double da), .second, .val (.double dl), .second] [(.double dh)])) rfl (hb hby d1_5) (n := 104) (by decide) (by decide) (by show _ ≤ 5; omega) (by show _ ≤ 205; omega)
  refine own_goW st2 ?_
  clear st2 
  replace hS := own_since hSn hkn
  replace hZ := hZn
  replace hown := hownn
  replace hJ : own_J Z T2.vm h2 := trivial
  clear hSn hZn hownn
  replace fp0 := fp0.ext E2
  replace fp1 := fp1.ext E2
  replace fp2 := fp2.ext E2
  replace fp3 := fp3.ext E2
  replace fp4 := fp4.ext E2
  replace O0 := own_oldExt O0 E2
  replace K0 := K0.ext E2
  clear E2
  show own_GoW p e below s _ _ _ _ (T2.setTop (mkF m 7 #[rv ob, .val (.double dh), .second, .val (.double da), .second, .val (.double dl), .second] [(.ref b2), (.double dh)]))
  obtain ⟨v3, T3, L3, X3, hQ3, st3⟩ := own_callS (y := (⟨"com/example/nudo/nudo/Link", "requirePositive", "(DLjava/lang/String;)D"⟩ : MethodName)) X2 hx hZ hown (ow19 hw) (ow20 hw) (ow21 hw) (ow22 hw) (rm_reqpos l Z a0 hw [] dh b2 h2 O0 hPh) 0 0 0 (by show _ ≤ 5; omega) (by show _ ≤ 205; omega) e2 (g := (mkF m 7 #[rv ob, .val (.double dh), .second, .val (.double da), .second, .val (.double dl), .second] [(.ref b2), (.double dh)])) rfl (by rw [hml]; rfl) [(.double dh), (.ref b2)] [] (lenOf own_pd_2 rfl) rfl rfl (hb hby d1_7)
  obtain ⟨rfl, Nc5, Kc4⟩ := hQ3
  refine own_goW st3 ?_
  clear st3 X2 e2
  replace N0 := Fr.app N0 Nc5
  clear Nc5
  show own_GoW p e below s _ _ _ _ (T3.setTop (mkF m 10 #[rv ob, .val (.double dh), .second, .val (.double da), .second, .val (.double dl), .second] [(.double dh)]))
  refine own_goW (fun _ k => own_pop2 X3.here hx rfl (hb hby d1_10) rfl k) ?_
  show own_GoW p e below s _ _ _ _ (T3.setTop (mkF m 11 #[rv ob, .val (.double dh), .second, .val (.double da), .second, .val (.double dl), .second] []))
  refine own_goW (fun _ k => XS.dloadN X3.here hx rfl (hb hby d1_11) rfl k) ?_
  show own_GoW p e below s _ _ _ _ (T3.setTop (mkF m 12 #[rv ob, .val (.double dh), .second, .val (.double da), .second, .val (.double dl), .second] [(.double da)]))
  obtain ⟨b6, T6, h6, k6, X6, e6, E6, hSn, hkn, hZn, hownn, st6⟩ := ldcS X3 hx hZ hown (ow32 hw) (own_wS hw) Kc4 hS (Nat.le_refl _) (g := (mkF m 12 #[rv ob, .val (.double dh), .second, .val (.double da), .second, .val (.double dl), .second] [(.double da)])) rfl (hb hby d1_12) (n := 92) (by decide) (by decide) (by show _ ≤ 5; omega) (by show _ ≤ 205; omega)
  refine own_goW st6 ?_
  clear st6 
  replace hS := own_since hSn hkn
  replace hZ := hZn
  replace hown := hownn
  replace hJ : own_J Z T6.vm h6 := trivial
  clear hSn hZn hownn
  replace fp0 := fp0.ext E6
  replace fp1 := fp1.ext E6
  replace fp2 := fp2.ext E6
  replace fp3 := fp3.ext E6
  replace fp4 := fp4.ext E6
  replace O0 := own_oldExt O0 E6
  replace K0 := K0.ext E6
  clear E6
  show own_GoW p e below s _ _ _ _ (T6.setTop (mkF m 14 #[rv ob, .val (.double dh), .second, .val (.double da), .second, .val (.double dl), .second] [(.ref b6), (.double da)]))
  obtain ⟨v7, T7, L7, X7, hQ7, st7⟩ := own_callS (y := (⟨"com/example/nudo/nudo/Link", "requirePositive", "(DLjava/lang/String;)D"⟩ : MethodName)) X6 hx hZ hown (ow19 hw) (ow20 hw) (ow21 hw) (ow22 hw) (rm_reqpos l Z a0 hw [] da b6 h6 O0 hPa) 0 0 0 (by show _ ≤ 5; omega) (by show _ ≤ 205; omega) e6 (g := (mkF m 14 #[rv ob, .val (.double dh), .second, .val (.double da), .second, .val (.double dl), .second] [(.ref b6), (.double da)])) rfl (by rw [hml]; rfl) [(.double da), (.ref b6)] [] (lenOf own_pd_2 rfl) rfl rfl (hb hby d1_14)
  obtain ⟨rfl, Nc9, Kc8⟩ := hQ7
  refine own_goW st7 ?_
  clear st7 X6 e6
  replace N0 := Fr.app N0 Nc9
  clear Nc9
  show own_GoW p e below s _ _ _ _ (T7.setTop (mkF m 17 #[rv ob, .val (.double dh), .second, .val (.double da), .second, .val (.double dl), .second] [(.double da)]))
  refine own_goW (fun _ k => own_pop2 X7.here hx rfl (hb hby d1_17) rfl k) ?_
  show own_GoW p e below s _ _ _ _ (T7.setTop (mkF m 18 #[rv ob, .val (.double dh), .second, .val (.double da), .second, .val (.double dl), .second] []))
  refine own_goW (fun _ k => XS.aloadN X7.here hx rfl (hb hby d1_18) rfl rfl k) ?_
  show own_GoW p e below s _ _ _ _ (T7.setTop (mkF m 19 #[rv ob, .val (.double dh), .second, .val (.double da), .second, .val (.double dl), .second] [(.ref ob)]))
  refine own_goW (fun _ k => XS.dloadN X7.here hx rfl (hb hby d1_19) rfl k) ?_
  show own_GoW p e below s _ _ _ _ (T7.setTop (mkF m 20 #[rv ob, .val (.double dh), .second, .val (.double da), .second, .val (.double dl), .second] [(.double dh), (.ref ob)]))
  obtain ⟨T10, h10, X10, e10, W10, st10⟩ := putF X7 hx hZ hown (host := "") (Or.inl (ow33 hw)) Via.refl Kc8 fp1 fp0 (Or.inr ⟨(ow34 hw), rfl, hnm⟩) (ow3 hw) (ty := .double) own_fd0 rfl rfl (g := (mkF m 20 #[rv ob, .val (.double dh), .second, .val (.double da), .second, .val (.double dl), .second] [(.double dh), (.ref ob)])) rfl rfl (hb hby d1_20)
  refine own_goW st10 ?_
  clear st10 X7 Kc8
  replace N0 := Fr.snoc X10 N0 big_ob
  replace hJ := own_Jany hJ h10
  replace fp0 := fp0.wr W10
  replace fp1 := fp1.same W10
  replace fp2 := fp2.other W10 (.inr (own_sn0 hw))
  replace fp3 := fp3.other W10 (.inr (own_sn1 hw))
  replace fp4 := fp4.other W10 (.inr (own_sn2 hw))
  replace O0 := own_oldWr O0 W10 big_ob
  replace K0 := K0.wr W10 (Or.inl (List.mem_of_getElem? (i := 0) rfl))
  replace hS := own_since hS (Nat.le_of_eq W10.size.symm)
  clear W10
  show own_GoW p e below s _ _ _ _ (T10.setTop (mkF m 23 #[rv ob, .val (.double dh), .second, .val (.double da), .second, .val (.double dl), .second] []))
  refine own_goW (fun _ k => XS.aloadN X10.here hx rfl (hb hby d1_23) rfl rfl k) ?_
  show own_GoW p e below s _ _ _ _ (T10.setTop (mkF m 24 #[rv ob, .val (.double dh), .second, .val (.double da), .second, .val (.double dl), .second] [(.ref ob)]))
  refine own_goW (fun _ k => XS.dloadN X10.here hx rfl (hb hby d1_24) rfl k) ?_
  show own_GoW p e below s _ _ _ _ (T10.setTop (mkF m 25 #[rv ob, .val (.double dh), .second, .val (.double da), .second, .val (.double dl), .second] [(.double da), (.ref ob)]))
  obtain ⟨T11, h11, X11, e11, W11, st11⟩ := putF X10 hx hZ hown (host := "") (Or.inl (ow35 hw)) Via.refl e10 fp2 fp0 (Or.inr ⟨(ow36 hw), rfl, hnm⟩) (ow3 hw) (ty := .double) own_fd0 rfl rfl (g := (mkF m 25 #[rv ob, .val (.double dh), .second, .val (.double da), .second, .val (.double dl), .second] [(.double da), (.ref ob)])) rfl rfl (hb hby d1_25)
  refine own_goW st11 ?_
  clear st11 X10 e10
  replace N0 := Fr.snoc X11 N0 big_ob
  replace hJ := own_Jany hJ h11
  replace fp0 := fp0.wr W11
  replace fp1 := fp1.other W11 (.inr (own_sn0 hw).symm)
  replace fp2 := fp2.same W11
  replace fp3 := fp3.other W11 (.inr (own_sn3 hw))
  replace fp4 := fp4.other W11 (.inr (own_sn4 hw))
  replace O0 := own_oldWr O0 W11 big_ob
  replace K0 := K0.wr W11 (Or.inl (List.mem_of_getElem? (i := 0) rfl))
  replace hS := own_since hS (Nat.le_of_eq W11.size.symm)
  clear W11
  show own_GoW p e below s _ _ _ _ (T11.setTop (mkF m 28 #[rv ob, .val (.double dh), .second, .val (.double da), .second, .val (.double dl), .second] []))
  refine own_goW (fun _ k => XS.aloadN X11.here hx rfl (hb hby d1_28) rfl rfl k) ?_
  show own_GoW p e below s _ _ _ _ (T11.setTop (mkF m 29 #[rv ob, .val (.double dh), .second, .val (.double da), .second, .val (.double dl), .second] [(.ref ob)]))
  refine own_goW (fun _ k => XS.dload X11.here hx rfl (hb hby d1_29) rfl k) ?_
  show own_GoW p e below s _ _ _ _ (T11.setTop (mkF m 31 #[rv ob, .val (.double dh), .second, .val (.double da), .second, .val (.double dl), .second] [(.double dl), (.ref ob)]))
  obtain ⟨T12, h12, X12, e12, W12, st12⟩ := putF X11 hx hZ hown (host := "") (Or.inl (ow37 hw)) Via.refl e11 fp3 fp0 (Or.inr ⟨(ow38 hw), rfl, hnm⟩) (ow3 hw) (ty := .double) own_fd0 rfl rfl (g := (mkF m 31 #[rv ob, .val (.double dh), .second, .val (.double da), .second, .val (.double dl), .second] [(.double dl), (.ref ob)])) rfl rfl (hb hby d1_31)
  refine own_goW st12 ?_
  clear st12 X11 e11
  replace N0 := Fr.snoc X12 N0 big_ob
  replace hJ := own_Jany hJ h12
  replace fp0 := fp0.wr W12
  replace fp1 := fp1.other W12 (.inr (own_sn1 hw).symm)
  replace fp2 := fp2.other W12 (.inr (own_sn3 hw).symm)
  replace fp3 := fp3.same W12
  replace fp4 := fp4.other W12 (.inr (own_sn5 hw))
  replace O0 := own_oldWr O0 W12 big_ob
  replace K0 := K0.wr W12 (Or.inl (List.mem_of_getElem? (i := 0) rfl))
  replace hS := own_since hS (Nat.le_of_eq W12.size.symm)
  clear W12
  show own_GoW p e below s _ _ _ _ (T12.setTop (mkF m 34 #[rv ob, .val (.double dh), .second, .val (.double da), .second, .val (.double dl), .second] []))
  refine own_goW (fun _ k => XS.aloadN X12.here hx rfl (hb hby d1_34) rfl rfl k) ?_
  show own_GoW p e below s _ _ _ _ (T12.setTop (mkF m 35 #[rv ob, .val (.double dh), .second, .val (.double da), .second, .val (.double dl), .second] [(.ref ob)]))
  obtain ⟨T13, h13, X13, e13, E13, A13, D13, -, st13⟩ := newO X12 hx hZ hown (ow39 hw) (ow40 hw) (ow41 hw) e12 (g := (mkF m 35 #[rv ob, .val (.double dh), .second, .val (.double da), .second, .val (.double dl), .second] [(.ref ob)])) rfl (hb hby d1_35) (by show _ ≤ 5; omega) (by show _ ≤ 205; omega)
  obtain ⟨b13, g13⟩ : ∃ z, z = h12.size := ⟨_, rfl⟩
  rw [← g13] at A13 D13 st13
  refine own_goW st13 ?_
  clear st13 X12 e12
  have ge13 := Nat.le_of_eq g13.symm
  have ne14 : ob ≠ b13 := Nat.ne_of_lt (Nat.lt_of_lt_of_le fp0.lt ge13)
  have big15 : Z.heap.size ≤ b13 := Nat.le_trans O0.1 ge13
  have sz16 : h0.size ≤ b13 := Nat.le_trans K0.1 ge13
  replace fp0 := fp0.ext E13
  replace fp1 := fp1.ext E13
  replace fp2 := fp2.ext E13
  replace fp3 := fp3.ext E13
  replace fp4 := fp4.ext E13
  replace O0 := own_oldExt O0 E13
  replace K0 := K0.ext E13
  replace hS := own_since hS E13.1
  replace hJ := own_Jext hJ E13
  clear E13
  have f17 : Fld Z h13 b13 "com/example/nudo/nudo/FollowingDistance" "vehicleLength" "D" (.double (0 : UInt64)) := D13 (Or.inr (ow48 hw)) (ty := .double) own_fd0
  show own_GoW p e below s _ _ _ _ (T13.setTop (mkF m 38 #[rv ob, .val (.double dh), .second, .val (.double da), .second, .val (.double dl), .second] [(.ref b13), (.ref ob)]))
  refine own_goW (fun _ k => XS.dup X13.here hx rfl (hb hby d1_38) rfl rfl k) ?_
  show own_GoW p e below s _ _ _ _ (T13.setTop (mkF m 39 #[rv ob, .val (.double dh), .second, .val (.double da), .second, .val (.double dl), .second] [(.ref b13), (.ref b13), (.ref ob)]))
  refine own_goW (fun _ k => XS.dload X13.here hx rfl (hb hby d1_39) rfl k) ?_
  show own_GoW p e below s _ _ _ _ (T13.setTop (mkF m 41 #[rv ob, .val (.double dh), .second, .val (.double da), .second, .val (.double dl), .second] [(.double dl), (.ref b13), (.ref b13), (.ref ob)]))
  obtain ⟨v18, T18, L18, X18, hQ18, st18⟩ := own_callI (y := (⟨"com/example/nudo/nudo/FollowingDistance", "<init>", "(D)V"⟩ : MethodName)) X13 hx hZ hown (ow42 hw) (ow43 hw) (ow41 hw) (ow44 hw) (rm_foinit l Z a0 hw [] b13 dl h13 O0 A13 f17 big15 hPl) 2 0 0 rfl (by show _ ≤ 5; omega) (by show _ ≤ 205; omega) e13 (g := (mkF m 41 #[rv ob, .val (.double dh), .second, .val (.double da), .second, .val (.double dl), .second] [(.double dl), (.ref b13), (.ref b13), (.ref ob)])) rfl (by rw [hml]; rfl) b13 [(.double dl)] [(.ref b13), (.ref ob)] (lenOf own_pd_3 rfl) rfl rfl (hb hby d1_41)
  obtain ⟨rfl, Nc21, Kc20, f19⟩ := hQ18
  refine own_goW st18 ?_
  clear st18 X13 e13
  replace N0 := Fr.app N0 Nc21
  clear Nc21
  replace hS := own_since hS Kc20.1
  replace hJ := own_Jany hJ T18.heap
  replace fp0 := fp0.keep Kc20
  replace fp1 := fp1.keep Kc20 (ninS ne14 nin0)
  replace fp2 := fp2.keep Kc20 (ninS ne14 nin0)
  replace fp3 := fp3.keep Kc20 (ninS ne14 nin0)
  replace fp4 := fp4.keep Kc20 (ninS ne14 nin0)
  replace A13 := A13.keep Kc20
  clear f17
  replace O0 := own_oldKeep O0 Kc20 (allS big15 all0)
  replace K0 := K0.trans Kc20 (allS (Or.inr sz16) all0)
  clear Kc20
  show own_GoW p e below s _ _ _ _ (T18.setTop (mkF m 44 #[rv ob, .val (.double dh), .second, .val (.double da), .second, .val (.double dl), .second] [(.ref b13), (.ref ob)]))
  obtain ⟨T22, h22, X22, e22, W22, st22⟩ := putF X18 hx hZ hown (host := "") (Or.inl (ow49 hw)) Via.refl (rfl : T18.heap = T18.heap) fp4 fp0 (Or.inr ⟨(ow50 hw), rfl, hnm⟩) (ow3 hw) (ty := (.object "com/example/nudo/nudo/FollowingDistance")) own_fd1 rfl rfl (g := (mkF m 44 #[rv ob, .val (.double dh), .second, .val (.double da), .second, .val (.double dl), .second] [(.ref b13), (.ref ob)])) rfl rfl (hb hby d1_44)
  refine own_goW st22 ?_
  clear st22 X18
  replace N0 := Fr.snoc X22 N0 big_ob
  replace hJ := own_Jany hJ h22
  replace fp0 := fp0.wr W22
  replace fp1 := fp1.other W22 (.inr (own_sn2 hw).symm)
  replace fp2 := fp2.other W22 (.inr (own_sn4 hw).symm)
  replace fp3 := fp3.other W22 (.inr (own_sn5 hw).symm)
  replace fp4 := fp4.same W22
  replace f19 := f19.wr W22
  replace O0 := own_oldWr O0 W22 big_ob
  replace K0 := K0.wr W22 (Or.inl (List.mem_of_getElem? (i := 0) rfl))
  replace hS := own_since hS (Nat.le_of_eq W22.size.symm)
  clear W22
  show own_GoW p e below s _ _ _ _ (T22.setTop (mkF m 47 #[rv ob, .val (.double dh), .second, .val (.double da), .second, .val (.double dl), .second] []))
  refine own_retVW X22 hS hL hZ hJ hx hlk e22 hret (hb hby d1_47) (by show _ ≤ 5; omega) (by show _ ≤ 205; omega) ?_
  exact ⟨rfl, N0, K0, fp0, fp1, fp2⟩
theorem d7_0 : decode prog_50_method_4_code 0 = .ok (.iload_n 2, 1) := by decide +kernel
theorem d7_1 : decode prog_50_method_4_code 1 = .ok (.ifCond .ne 8, 3) := by decide +kernel
theorem d7_4 : decode prog_50_method_4_code 4 = .ok (.aload_n 0, 1) := by decide +kernel
theorem d7_5 : decode prog_50_method_4_code 5 = .ok (.getfield 17, 3) := by decide +kernel
theorem d7_8 : decode prog_50_method_4_code 8 = .ok (.dreturn, 1) := by decide +kernel
theorem d7_9 : decode prog_50_method_4_code 9 = .ok (.iload_n 1, 1) := by decide +kernel
theorem d7_10 : decode prog_50_method_4_code 10 = .ok (.i2d, 1) := by decide +kernel
theorem d7_11 : decode prog_50_method_4_code 11 = .ok (.iload_n 2, 1) := by decide +kernel
theorem d7_12 : decode prog_50_method_4_code 12 = .ok (.i2d, 1) := by decide +kernel
theorem d7_13 : decode prog_50_method_4_code 13 = .ok (.ddiv, 1) := by decide +kernel
theorem d7_14 : decode prog_50_method_4_code 14 = .ok (.dstore_n 3, 1) := by decide +kernel
theorem d7_15 : decode prog_50_method_4_code 15 = .ok (.aload_n 0, 1) := by decide +kernel
theorem d7_16 : decode prog_50_method_4_code 16 = .ok (.getfield 17, 3) := by decide +kernel
theorem d7_19 : decode prog_50_method_4_code 19 = .ok (.dload_n 3, 1) := by decide +kernel
theorem d7_20 : decode prog_50_method_4_code 20 = .ok (.aload_n 0, 1) := by decide +kernel
theorem d7_21 : decode prog_50_method_4_code 21 = .ok (.getfield 23, 3) := by decide +kernel
theorem d7_24 : decode prog_50_method_4_code 24 = .ok (.aload_n 0, 1) := by decide +kernel
theorem d7_25 : decode prog_50_method_4_code 25 = .ok (.getfield 17, 3) := by decide +kernel
theorem d7_28 : decode prog_50_method_4_code 28 = .ok (.dsub, 1) := by decide +kernel
theorem d7_29 : decode prog_50_method_4_code 29 = .ok (.dmul, 1) := by decide +kernel
theorem d7_30 : decode prog_50_method_4_code 30 = .ok (.dadd, 1) := by decide +kernel
theorem d7_31 : decode prog_50_method_4_code 31 = .ok (.dreturn, 1) := by decide +kernel
def Q_mean (Z : State) (ob : Addr) (gx : Int32) (gn : Int32) (gth : UInt64) (gta : UInt64) (h0 : Heap) (v : Option Value) (h : Heap) (L : List Loc) : Prop := (v = some (.double gth) ∧ Fr Z.heap.size L ∧ gn = (0 : Int32) ∧ h = h0) ∨ (v = some (.double (FP.dadd gth (FP.dmul (FP.ddiv (FP.i2d gx) (FP.i2d gn)) (FP.dsub gta gth)))) ∧ Fr Z.heap.size L ∧ ¬ (gn = (0 : Int32)) ∧ h = h0)
theorem ef_mean (m : MethodId) (x0 : Addr) (x1 : Int32) (x2 : Int32) : entryFrame m #[(.ref x0), (.int x1), (.int x2)] 5 = mkF m 0 #[rv x0, iv x1, iv x2, .unset, .unset] [] := by first | (simp [entryFrame, mkF, argsToLocals, Value.category]; done) | rfl
set_option maxRecDepth 65536 in
set_option maxHeartbeats 40000000 in
theorem rm_mean (l : Launch) (Z : State) (a0 : Array Value) (hw : ∀ d ∈ tables_1, d.before a0 Z = true) (ws : List Jvm.Cond) (ob : Addr) (gx : Int32) (gn : Int32) (gth : UInt64) (gta : UInt64) (h0 : Heap) (O0 : Ext Z.heap h0) (fp0 : Fld Z h0 ob "com/example/nudo/nudo/VehicleClasses" "humanReactionTime" "D" (.double gth)) (fp1 : Fld Z h0 ob "com/example/nudo/nudo/VehicleClasses" "automatedReactionTime" "D" (.double gta)) (hG : gn = (0 : Int32) ∨ own_Good gx gn gth gta) :
    own_MF l Z h0 (⟨"com/example/nudo/nudo/VehicleClasses", "meanReactionTime", "(II)D"⟩ : MethodName) prog_50_method_4_code 5 (some .double) ({ frames := 0, cells := 0, slots := 0, locals := 0 } : Room) #[(.ref ob), (.int gx), (.int gn)] (Q_mean Z ob gx gn gth gta h0) ws := by
  refine own_met (Q := (Q_mean Z ob gx gn gth gta h0)) _ _ (plainFor_of_name own_pn_3) ?_
  intro p e s m below meth c T X0 hx hby hml hret hlk hZ hown hnm e0
  replace hown : s.vm.findClass "com/example/nudo/nudo/VehicleClasses" = some m.cls := hown
  replace hnm : meth.name = "meanReactionTime" := hnm
  have hml : c.maxLocals = 5 := hml
  have N0 := Fr.nil Z.heap.size
  have K0 := Keep.refl h0 []
  refine own_go (fun _ k => castTop (ef_mean m ob gx gn) k) ?_
  show own_Go p e below s _ _ _ (T.setTop (mkF m 0 #[rv ob, iv gx, iv gn, .unset, .unset] []))
  refine own_go (fun _ k => XS.iloadN X0.here hx rfl (hb hby d7_0) rfl k) ?_
  show own_Go p e below s _ _ _ (T.setTop (mkF m 1 #[rv ob, iv gx, iv gn, .unset, .unset] [(.int gn)]))
  by_cases hc1 : gn = (0 : Int32)
  · refine own_go (fun _ k => XS.ifNo X0.here hx rfl (hb hby d7_1) rfl ((if0 _ _).trans (teq hc1).2) k) ?_
    show own_Go p e below s _ _ _ (T.setTop (mkF m 4 #[rv ob, iv gx, iv gn, .unset, .unset] []))
    refine own_go (fun _ k => XS.aloadN X0.here hx rfl (hb hby d7_4) rfl rfl k) ?_
    show own_Go p e below s _ _ _ (T.setTop (mkF m 5 #[rv ob, iv gx, iv gn, .unset, .unset] [(.ref ob)]))
    obtain ⟨T2, X2, e2, st2⟩ := getF X0 hx hZ hown (host := "") (Or.inl (ow33 hw)) Via.refl e0 (fp0.keep K0 nin0) (g := (mkF m 5 #[rv ob, iv gx, iv gn, .unset, .unset] [(.ref ob)])) rfl rfl (hb hby d7_5)
    refine own_go st2 ?_
    clear st2 X0 e0
    show own_Go p e below s _ _ _ (T2.setTop (mkF m 8 #[rv ob, iv gx, iv gn, .unset, .unset] [(.double gth)]))
    refine own_retD X2 hx hlk e2 hret (hb hby d7_8) (by show _ ≤ 0; omega) (by show _ ≤ 0; omega) ?_
    exact Or.inl ⟨rfl, N0, hc1, rfl⟩
  · refine own_go (fun _ k => XS.ifYes X0.here hx rfl (pc0 := 1) (pc' := 9) rfl (hb hby d7_1) rfl ((if0 _ _).trans (feq hc1).2) (by decide) (by decide) k) ?_
    show own_Go p e below s _ _ _ (T.setTop (mkF m 9 #[rv ob, iv gx, iv gn, .unset, .unset] []))
    refine own_go (fun _ k => XS.iloadN X0.here hx rfl (hb hby d7_9) rfl k) ?_
    show own_Go p e below s _ _ _ (T.setTop (mkF m 10 #[rv ob, iv gx, iv gn, .unset, .unset] [(.int gx)]))
    refine own_go (fun _ k => XS.i2dS X0.here hx rfl (hb hby d7_10) rfl rfl k) ?_
    show own_Go p e below s _ _ _ (T.setTop (mkF m 11 #[rv ob, iv gx, iv gn, .unset, .unset] [(.double (FP.i2d gx))]))
    refine own_go (fun _ k => XS.iloadN X0.here hx rfl (hb hby d7_11) rfl k) ?_
    show own_Go p e below s _ _ _ (T.setTop (mkF m 12 #[rv ob, iv gx, iv gn, .unset, .unset] [(.int gn), (.double (FP.i2d gx))]))
    refine own_go (fun _ k => XS.i2dS X0.here hx rfl (hb hby d7_12) rfl rfl k) ?_
    show own_Go p e below s _ _ _ (T.setTop (mkF m 13 #[rv ob, iv gx, iv gn, .unset, .unset] [(.double (FP.i2d gn)), (.double (FP.i2d gx))]))
    refine own_go (fun _ k => XS.ddivS X0.here hx rfl (hb hby d7_13) rfl (own_gd hG hc1).1 rfl k) ?_
    show own_Go p e below s _ _ _ (T.setTop (mkF m 14 #[rv ob, iv gx, iv gn, .unset, .unset] [(.double (FP.ddiv (FP.i2d gx) (FP.i2d gn)))]))
    refine own_go (fun _ k => XS.dstoreN X0.here hx rfl (hb hby d7_14) rfl (l' := #[rv ob, iv gx, iv gn, .val (.double (FP.ddiv (FP.i2d gx) (FP.i2d gn))), .second]) rfl k) ?_
    show own_Go p e below s _ _ _ (T.setTop (mkF m 15 #[rv ob, iv gx, iv gn, .val (.double (FP.ddiv (FP.i2d gx) (FP.i2d gn))), .second] []))
    refine own_go (fun _ k => XS.aloadN X0.here hx rfl (hb hby d7_15) rfl rfl k) ?_
    show own_Go p e below s _ _ _ (T.setTop (mkF m 16 #[rv ob, iv gx, iv gn, .val (.double (FP.ddiv (FP.i2d gx) (FP.i2d gn))), .second] [(.ref ob)]))
    obtain ⟨T3, X3, e3, st3⟩ := getF X0 hx hZ hown (host := "") (Or.inl (ow33 hw)) Via.refl e0 (fp0.keep K0 nin0) (g := (mkF m 16 #[rv ob, iv gx, iv gn, .val (.double (FP.ddiv (FP.i2d gx) (FP.i2d gn))), .second] [(.ref ob)])) rfl rfl (hb hby d7_16)
    refine own_go st3 ?_
    clear st3 X0 e0
    show own_Go p e below s _ _ _ (T3.setTop (mkF m 19 #[rv ob, iv gx, iv gn, .val (.double (FP.ddiv (FP.i2d gx) (FP.i2d gn))), .second] [(.double gth)]))
    refine own_go (fun _ k => XS.dloadN X3.here hx rfl (hb hby d7_19) rfl k) ?_
    show own_Go p e below s _ _ _ (T3.setTop (mkF m 20 #[rv ob, iv gx, iv gn, .val (.double (FP.ddiv (FP.i2d gx) (FP.i2d gn))), .second] [(.double (FP.ddiv (FP.i2d gx) (FP.i2d gn))), (.double gth)]))
    refine own_go (fun _ k => XS.aloadN X3.here hx rfl (hb hby d7_20) rfl rfl k) ?_
    show own_Go p e below s _ _ _ (T3.setTop (mkF m 21 #[rv ob, iv gx, iv gn, .val (.double (FP.ddiv (FP.i2d gx) (FP.i2d gn))), .second] [(.ref ob), (.double (FP.ddiv (FP.i2d gx) (FP.i2d gn))), (.double gth)]))
    obtain ⟨T4, X4, e4, st4⟩ := getF X3 hx hZ hown (host := "") (Or.inl (ow35 hw)) Via.refl e3 (fp1.keep K0 nin0) (g := (mkF m 21 #[rv ob, iv gx, iv gn, .val (.double (FP.ddiv (FP.i2d gx) (FP.i2d gn))), .second] [(.ref ob), (.double (FP.ddiv (FP.i2d gx) (FP.i2d gn))), (.double gth)])) rfl rfl (hb hby d7_21)
    refine own_go st4 ?_
    clear st4 X3 e3
    show own_Go p e below s _ _ _ (T4.setTop (mkF m 24 #[rv ob, iv gx, iv gn, .val (.double (FP.ddiv (FP.i2d gx) (FP.i2d gn))), .second] [(.double gta), (.double (FP.ddiv (FP.i2d gx) (FP.i2d gn))), (.double gth)]))
    refine own_go (fun _ k => XS.aloadN X4.here hx rfl (hb hby d7_24) rfl rfl k) ?_
    show own_Go p e below s _ _ _ (T4.setTop (mkF m 25 #[rv ob, iv gx, iv gn, .val (.double (FP.ddiv (FP.i2d gx) (FP.i2d gn))), .second] [(.ref ob), (.double gta), (.double (FP.ddiv (FP.i2d gx) (FP.i2d gn))), (.double gth)]))
    obtain ⟨T5, X5, e5, st5⟩ := getF X4 hx hZ hown (host := "") (Or.inl (ow33 hw)) Via.refl e4 (fp0.keep K0 nin0) (g := (mkF m 25 #[rv ob, iv gx, iv gn, .val (.double (FP.ddiv (FP.i2d gx) (FP.i2d gn))), .second] [(.ref ob), (.double gta), (.double (FP.ddiv (FP.i2d gx) (FP.i2d gn))), (.double gth)])) rfl rfl (hb hby d7_25)
    refine own_go st5 ?_
    clear st5 X4 e4
    show own_Go p e below s _ _ _ (T5.setTop (mkF m 28 #[rv ob, iv gx, iv gn, .val (.double (FP.ddiv (FP.i2d gx) (FP.i2d gn))), .second] [(.double gth), (.double gta), (.double (FP.ddiv (FP.i2d gx) (FP.i2d gn))), (.double gth)]))
    refine own_go (fun _ k => XS.dsubS X5.here hx rfl (hb hby d7_28) rfl (own_gd hG hc1).2.1 rfl k) ?_
    show own_Go p e below s _ _ _ (T5.setTop (mkF m 29 #[rv ob, iv gx, iv gn, .val (.double (FP.ddiv (FP.i2d gx) (FP.i2d gn))), .second] [(.double (FP.dsub gta gth)), (.double (FP.ddiv (FP.i2d gx) (FP.i2d gn))), (.double gth)]))
    refine own_go (fun _ k => XS.dmulS X5.here hx rfl (hb hby d7_29) rfl (own_gd hG hc1).2.2.1 rfl k) ?_
    show own_Go p e below s _ _ _ (T5.setTop (mkF m 30 #[rv ob, iv gx, iv gn, .val (.double (FP.ddiv (FP.i2d gx) (FP.i2d gn))), .second] [(.double (FP.dmul (FP.ddiv (FP.i2d gx) (FP.i2d gn)) (FP.dsub gta gth))), (.double gth)]))
    refine own_go (fun _ k => XS.daddS X5.here hx rfl (hb hby d7_30) rfl (own_gd hG hc1).2.2.2 rfl k) ?_
    show own_Go p e below s _ _ _ (T5.setTop (mkF m 31 #[rv ob, iv gx, iv gn, .val (.double (FP.ddiv (FP.i2d gx) (FP.i2d gn))), .second] [(.double (FP.dadd gth (FP.dmul (FP.ddiv (FP.i2d gx) (FP.i2d gn)) (FP.dsub gta gth))))]))
    refine own_retD X5 hx hlk e5 hret (hb hby d7_31) (by show _ ≤ 0; omega) (by show _ ≤ 0; omega) ?_
    exact Or.inr (⟨rfl, N0, hc1, rfl⟩)
def Q_law (Z : State) (p1 : Int32) (p2 : Int32) (p3 : Int32) (p4 : Int32) (p5 : Int32) (h0 : Heap) (v : Option Value) (h : Heap) (L : List Loc) : Prop := (v = some (.int (1 : Int32)) ∧ Fr Z.heap.size L ∧ Keep h0 h [])
set_option maxRecDepth 65536 in
set_option maxHeartbeats 40000000 in
theorem sg_s215 {l : Launch} {Z : State} {a0 : Array Value} (hw : ∀ d ∈ tables_1, d.before a0 Z = true) {p : Program} {e : Env} {s : State} {vm0 : Vm} {m : MethodId} {args : Array Value} {below : List Frame} {meth : Method} {c : Code} {T : State} {locs : List Loc} {cells slots : Nat} (p1 : Int32) (p2 : Int32) (p3 : Int32) (p4 : Int32) (p5 : Int32) (ghs : Int32) (gas : Int32) (gth : UInt64) (gta : UInt64) (ob : Addr) (ya : Slot) (gn : Int32) (gx : Int32) (h0 hs1 : Heap)
    (X0 : Stand p l e room_1 (s.setVm vm0) m args below meth c T locs cells slots) (hS : s.Since vm0 hs1.size) (hL : own_L Z a0) (hJ : own_J Z vm0 hs1) (hx : p.tables.exec = Jvm.exec) (hby : c.code = code) (hml : c.maxLocals = 21) (hret : meth.sig.returnType = some .boolean) (hlk : meth.locks = false) (hZ : Z.Warmed39 (s.setVm vm0).vm) (hown : (s.setVm vm0).vm.findClass "com/example/nudo/nudo/VehicleClassesMeanReactionTimePinLaw" = some m.cls) (hnm : meth.name = "law") (e0 : T.heap = hs1) (N0 : Fr Z.heap.size locs) (O0 : Ext Z.heap hs1) (K0 : Keep h0 hs1 []) (fp0 : Exa Z hs1 ob "com/example/nudo/nudo/VehicleClasses") (fp1 : Fld Z hs1 ob "com/example/nudo/nudo/VehicleClasses" "humanReactionTime" "D" (.double gth)) (fp2 : Fld Z hs1 ob "com/example/nudo/nudo/VehicleClasses" "automatedReactionTime" "D" (.double gta)) (hT : own_T ghs gas gth gta) (hX : own_X gx gn) (hcells : cells ≤ 16) (hslots : slots ≤ 2176) :
    own_GoW p e below s Z (Q_law Z p1 p2 p3 p4 p5 h0) room_1.cells room_1.slots (T.setTop (mkF m 215 #[iv p1, iv p2, iv p3, iv p4, iv p5, iv ghs, iv gas, .val (.double gth), .second, .val (.double gta), .second, rv ob, ya, iv gn, iv gx, .unset, .unset, .unset, .unset, .unset, .unset] [])) := by
  have K1 := Keep.refl hs1 []
  show own_GoW p e below s _ _ _ _ (T.setTop (mkF m 215 #[iv p1, iv p2, iv p3, iv p4, iv p5, iv ghs, iv gas, .val (.double gth), .second, .val (.double gta), .second, rv ob, ya, iv gn, iv gx, .unset, .unset, .unset, .unset, .unset, .unset] []))
  refine own_goW (fun _ k => XS.aload X0.here hx rfl (hb hby at_215) rfl rfl k) ?_
  show own_GoW p e below s _ _ _ _ (T.setTop (mkF m 217 #[iv p1, iv p2, iv p3, iv p4, iv p5, iv ghs, iv gas, .val (.double gth), .second, .val (.double gta), .second, rv ob, ya, iv gn, iv gx, .unset, .unset, .unset, .unset, .unset, .unset] [(.ref ob)]))
  refine own_goW (fun _ k => XS.iload X0.here hx rfl (hb hby at_217) rfl k) ?_
  show own_GoW p e below s _ _ _ _ (T.setTop (mkF m 219 #[iv p1, iv p2, iv p3, iv p4, iv p5, iv ghs, iv gas, .val (.double gth), .second, .val (.double gta), .second, rv ob, ya, iv gn, iv gx, .unset, .unset, .unset, .unset, .unset, .unset] [(.int gx), (.ref ob)]))
  refine own_goW (fun _ k => XS.iload X0.here hx rfl (hb hby at_219) rfl k) ?_
  show own_GoW p e below s _ _ _ _ (T.setTop (mkF m 221 #[iv p1, iv p2, iv p3, iv p4, iv p5, iv ghs, iv gas, .val (.double gth), .second, .val (.double gta), .second, rv ob, ya, iv gn, iv gx, .unset, .unset, .unset, .unset, .unset, .unset] [(.int gn), (.int gx), (.ref ob)]))
  obtain ⟨v1, T1, L1, X1, hQ1, st1⟩ := own_callV (y := (⟨"com/example/nudo/nudo/VehicleClasses", "meanReactionTime", "(II)D"⟩ : MethodName)) (z := (⟨"com/example/nudo/nudo/VehicleClasses", "meanReactionTime", "(II)D"⟩ : MethodName)) X0 hx hZ hown (ow51 hw) (ow52 hw) (notFace_of_selects (args := #[]) (mvT hZ (ow54 hw))) (ow54 hw) (ow53 hw) (ow4 hw) (ow55 hw) (rm_mean l Z a0 hw [] ob gx gn gth gta hs1 O0 (fp1.keep K1 nin0) (fp2.keep K1 nin0) (Or.inr (own_R hT hX).1)) 0 0 0 (by show _ ≤ 16; omega) (by show _ ≤ 2176; omega) e0 (fp0.keep K1) (g := (mkF m 221 #[iv p1, iv p2, iv p3, iv p4, iv p5, iv ghs, iv gas, .val (.double gth), .second, .val (.double gta), .second, rv ob, ya, iv gn, iv gx, .unset, .unset, .unset, .unset, .unset, .unset] [(.int gn), (.int gx), (.ref ob)])) rfl (by rw [hml]; rfl) [(.int gx), (.int gn)] [] (lenOf own_pd_4 rfl) rfl rfl (hb hby at_221)
  rcases hQ1 with hQ1 | hQ1
  · obtain ⟨rfl, Nc4, hp2, Kc3⟩ := hQ1
    refine own_goW st1 ?_
    clear st1 X0 e0
    replace N0 := Fr.app N0 Nc4
    clear Nc4
    exact absurd hp2 (own_Xnz hX)
  · obtain ⟨rfl, Nc7, hp5, Kc6⟩ := hQ1
    refine own_goW st1 ?_
    clear st1 X0 e0
    replace N0 := Fr.app N0 Nc7
    clear Nc7
    show own_GoW p e below s _ _ _ _ (T1.setTop (mkF m 224 #[iv p1, iv p2, iv p3, iv p4, iv p5, iv ghs, iv gas, .val (.double gth), .second, .val (.double gta), .second, rv ob, ya, iv gn, iv gx, .unset, .unset, .unset, .unset, .unset, .unset] [(.double (FP.dadd gth (FP.dmul (FP.ddiv (FP.i2d gx) (FP.i2d gn)) (FP.dsub gta gth))))]))
    refine own_goW (fun _ k => XS.dstore X1.here hx rfl (hb hby at_224) rfl (l' := #[iv p1, iv p2, iv p3, iv p4, iv p5, iv ghs, iv gas, .val (.double gth), .second, .val (.double gta), .second, rv ob, ya, iv gn, iv gx, .val (.double (FP.dadd gth (FP.dmul (FP.ddiv (FP.i2d gx) (FP.i2d gn)) (FP.dsub gta gth)))), .second, .unset, .unset, .unset, .unset]) rfl k) ?_
    show own_GoW p e below s _ _ _ _ (T1.setTop (mkF m 226 #[iv p1, iv p2, iv p3, iv p4, iv p5, iv ghs, iv gas, .val (.double gth), .second, .val (.double gta), .second, rv ob, ya, iv gn, iv gx, .val (.double (FP.dadd gth (FP.dmul (FP.ddiv (FP.i2d gx) (FP.i2d gn)) (FP.dsub gta gth)))), .second, .unset, .unset, .unset, .unset] []))
    refine own_goW (fun _ k => XS.dload X1.here hx rfl (hb hby at_226) rfl k) ?_
    show own_GoW p e below s _ _ _ _ (T1.setTop (mkF m 228 #[iv p1, iv p2, iv p3, iv p4, iv p5, iv ghs, iv gas, .val (.double gth), .second, .val (.double gta), .second, rv ob, ya, iv gn, iv gx, .val (.double (FP.dadd gth (FP.dmul (FP.ddiv (FP.i2d gx) (FP.i2d gn)) (FP.dsub gta gth)))), .second, .unset, .unset, .unset, .unset] [(.double gth)]))
    refine own_goW (fun _ k => XS.dstore X1.here hx rfl (hb hby at_228) rfl (l' := #[iv p1, iv p2, iv p3, iv p4, iv p5, iv ghs, iv gas, .val (.double gth), .second, .val (.double gta), .second, rv ob, ya, iv gn, iv gx, .val (.double (FP.dadd gth (FP.dmul (FP.ddiv (FP.i2d gx) (FP.i2d gn)) (FP.dsub gta gth)))), .second, .val (.double gth), .second, .unset, .unset]) rfl k) ?_
    show own_GoW p e below s _ _ _ _ (T1.setTop (mkF m 230 #[iv p1, iv p2, iv p3, iv p4, iv p5, iv ghs, iv gas, .val (.double gth), .second, .val (.double gta), .second, rv ob, ya, iv gn, iv gx, .val (.double (FP.dadd gth (FP.dmul (FP.ddiv (FP.i2d gx) (FP.i2d gn)) (FP.dsub gta gth)))), .second, .val (.double gth), .second, .unset, .unset] []))
    refine own_goW (fun _ k => XS.dload X1.here hx rfl (hb hby at_230) rfl k) ?_
    show own_GoW p e below s _ _ _ _ (T1.setTop (mkF m 232 #[iv p1, iv p2, iv p3, iv p4, iv p5, iv ghs, iv gas, .val (.double gth), .second, .val (.double gta), .second, rv ob, ya, iv gn, iv gx, .val (.double (FP.dadd gth (FP.dmul (FP.ddiv (FP.i2d gx) (FP.i2d gn)) (FP.dsub gta gth)))), .second, .val (.double gth), .second, .unset, .unset] [(.double gta)]))
    refine own_goW (fun _ k => XS.dstore X1.here hx rfl (hb hby at_232) rfl (l' := #[iv p1, iv p2, iv p3, iv p4, iv p5, iv ghs, iv gas, .val (.double gth), .second, .val (.double gta), .second, rv ob, ya, iv gn, iv gx, .val (.double (FP.dadd gth (FP.dmul (FP.ddiv (FP.i2d gx) (FP.i2d gn)) (FP.dsub gta gth)))), .second, .val (.double gth), .second, .val (.double gta), .second]) rfl k) ?_
    show own_GoW p e below s _ _ _ _ (T1.setTop (mkF m 234 #[iv p1, iv p2, iv p3, iv p4, iv p5, iv ghs, iv gas, .val (.double gth), .second, .val (.double gta), .second, rv ob, ya, iv gn, iv gx, .val (.double (FP.dadd gth (FP.dmul (FP.ddiv (FP.i2d gx) (FP.i2d gn)) (FP.dsub gta gth)))), .second, .val (.double gth), .second, .val (.double gta), .second] []))
    refine own_goW (fun _ k => XS.dload X1.here hx rfl (hb hby at_234) rfl k) ?_
    show own_GoW p e below s _ _ _ _ (T1.setTop (mkF m 236 #[iv p1, iv p2, iv p3, iv p4, iv p5, iv ghs, iv gas, .val (.double gth), .second, .val (.double gta), .second, rv ob, ya, iv gn, iv gx, .val (.double (FP.dadd gth (FP.dmul (FP.ddiv (FP.i2d gx) (FP.i2d gn)) (FP.dsub gta gth)))), .second, .val (.double gth), .second, .val (.double gta), .second] [(.double gta)]))
    refine own_goW (fun _ k => XS.dload X1.here hx rfl (hb hby at_236) rfl k) ?_
    show own_GoW p e below s _ _ _ _ (T1.setTop (mkF m 238 #[iv p1, iv p2, iv p3, iv p4, iv p5, iv ghs, iv gas, .val (.double gth), .second, .val (.double gta), .second, rv ob, ya, iv gn, iv gx, .val (.double (FP.dadd gth (FP.dmul (FP.ddiv (FP.i2d gx) (FP.i2d gn)) (FP.dsub gta gth)))), .second, .val (.double gth), .second, .val (.double gta), .second] [(.double gth), (.double gta)]))
    refine own_goW (fun _ k => XS.dcmpS X1.here hx rfl (hb hby at_238) rfl rfl k) ?_
    show own_GoW p e below s _ _ _ _ (T1.setTop (mkF m 239 #[iv p1, iv p2, iv p3, iv p4, iv p5, iv ghs, iv gas, .val (.double gth), .second, .val (.double gta), .second, rv ob, ya, iv gn, iv gx, .val (.double (FP.dadd gth (FP.dmul (FP.ddiv (FP.i2d gx) (FP.i2d gn)) (FP.dsub gta gth)))), .second, .val (.double gth), .second, .val (.double gta), .second] [(.int (cmpValue (FP.dcmp gta gth) .g))]))
    by_cases hc8 : (cmpValue (FP.dcmp gta gth) .g) < (0 : Int32)
    · refine own_goW (fun _ k => XS.ifNo X1.here hx rfl (hb hby at_239) rfl ((if0 _ _).trans (tlt hc8).2.1) k) ?_
      show own_GoW p e below s _ _ _ _ (T1.setTop (mkF m 242 #[iv p1, iv p2, iv p3, iv p4, iv p5, iv ghs, iv gas, .val (.double gth), .second, .val (.double gta), .second, rv ob, ya, iv gn, iv gx, .val (.double (FP.dadd gth (FP.dmul (FP.ddiv (FP.i2d gx) (FP.i2d gn)) (FP.dsub gta gth)))), .second, .val (.double gth), .second, .val (.double gta), .second] []))
      refine own_goW (fun _ k => XS.dload X1.here hx rfl (hb hby at_242) rfl k) ?_
      show own_GoW p e below s _ _ _ _ (T1.setTop (mkF m 244 #[iv p1, iv p2, iv p3, iv p4, iv p5, iv ghs, iv gas, .val (.double gth), .second, .val (.double gta), .second, rv ob, ya, iv gn, iv gx, .val (.double (FP.dadd gth (FP.dmul (FP.ddiv (FP.i2d gx) (FP.i2d gn)) (FP.dsub gta gth)))), .second, .val (.double gth), .second, .val (.double gta), .second] [(.double gta)]))
      refine own_goW (fun _ k => XS.dstore X1.here hx rfl (hb hby at_244) rfl (l' := #[iv p1, iv p2, iv p3, iv p4, iv p5, iv ghs, iv gas, .val (.double gth), .second, .val (.double gta), .second, rv ob, ya, iv gn, iv gx, .val (.double (FP.dadd gth (FP.dmul (FP.ddiv (FP.i2d gx) (FP.i2d gn)) (FP.dsub gta gth)))), .second, .val (.double gta), .second, .val (.double gta), .second]) rfl k) ?_
      show own_GoW p e below s _ _ _ _ (T1.setTop (mkF m 246 #[iv p1, iv p2, iv p3, iv p4, iv p5, iv ghs, iv gas, .val (.double gth), .second, .val (.double gta), .second, rv ob, ya, iv gn, iv gx, .val (.double (FP.dadd gth (FP.dmul (FP.ddiv (FP.i2d gx) (FP.i2d gn)) (FP.dsub gta gth)))), .second, .val (.double gta), .second, .val (.double gta), .second] []))
      refine own_goW (fun _ k => XS.dload X1.here hx rfl (hb hby at_246) rfl k) ?_
      show own_GoW p e below s _ _ _ _ (T1.setTop (mkF m 248 #[iv p1, iv p2, iv p3, iv p4, iv p5, iv ghs, iv gas, .val (.double gth), .second, .val (.double gta), .second, rv ob, ya, iv gn, iv gx, .val (.double (FP.dadd gth (FP.dmul (FP.ddiv (FP.i2d gx) (FP.i2d gn)) (FP.dsub gta gth)))), .second, .val (.double gta), .second, .val (.double gta), .second] [(.double gth)]))
      refine own_goW (fun _ k => XS.dstore X1.here hx rfl (hb hby at_248) rfl (l' := #[iv p1, iv p2, iv p3, iv p4, iv p5, iv ghs, iv gas, .val (.double gth), .second, .val (.double gta), .second, rv ob, ya, iv gn, iv gx, .val (.double (FP.dadd gth (FP.dmul (FP.ddiv (FP.i2d gx) (FP.i2d gn)) (FP.dsub gta gth)))), .second, .val (.double gta), .second, .val (.double gth), .second]) rfl k) ?_
      show own_GoW p e below s _ _ _ _ (T1.setTop (mkF m 250 #[iv p1, iv p2, iv p3, iv p4, iv p5, iv ghs, iv gas, .val (.double gth), .second, .val (.double gta), .second, rv ob, ya, iv gn, iv gx, .val (.double (FP.dadd gth (FP.dmul (FP.ddiv (FP.i2d gx) (FP.i2d gn)) (FP.dsub gta gth)))), .second, .val (.double gta), .second, .val (.double gth), .second] []))
      refine own_goW (fun _ k => XS.iload X1.here hx rfl (hb hby at_250) rfl k) ?_
      show own_GoW p e below s _ _ _ _ (T1.setTop (mkF m 252 #[iv p1, iv p2, iv p3, iv p4, iv p5, iv ghs, iv gas, .val (.double gth), .second, .val (.double gta), .second, rv ob, ya, iv gn, iv gx, .val (.double (FP.dadd gth (FP.dmul (FP.ddiv (FP.i2d gx) (FP.i2d gn)) (FP.dsub gta gth)))), .second, .val (.double gta), .second, .val (.double gth), .second] [(.int gx)]))
      by_cases hc9 : gx = (0 : Int32)
      · refine own_goW (fun _ k => XS.ifNo X1.here hx rfl (hb hby at_252) rfl ((if0 _ _).trans (teq hc9).2) k) ?_
        show own_GoW p e below s _ _ _ _ (T1.setTop (mkF m 255 #[iv p1, iv p2, iv p3, iv p4, iv p5, iv ghs, iv gas, .val (.double gth), .second, .val (.double gta), .second, rv ob, ya, iv gn, iv gx, .val (.double (FP.dadd gth (FP.dmul (FP.ddiv (FP.i2d gx) (FP.i2d gn)) (FP.dsub gta gth)))), .second, .val (.double gta), .second, .val (.double gth), .second] []))
        refine own_goW (fun _ k => XS.dload X1.here hx rfl (hb hby at_255) rfl k) ?_
        show own_GoW p e below s _ _ _ _ (T1.setTop (mkF m 257 #[iv p1, iv p2, iv p3, iv p4, iv p5, iv ghs, iv gas, .val (.double gth), .second, .val (.double gta), .second, rv ob, ya, iv gn, iv gx, .val (.double (FP.dadd gth (FP.dmul (FP.ddiv (FP.i2d gx) (FP.i2d gn)) (FP.dsub gta gth)))), .second, .val (.double gta), .second, .val (.double gth), .second] [(.double (FP.dadd gth (FP.dmul (FP.ddiv (FP.i2d gx) (FP.i2d gn)) (FP.dsub gta gth))))]))
        refine own_goW (fun _ k => XS.dload X1.here hx rfl (hb hby at_257) rfl k) ?_
        show own_GoW p e below s _ _ _ _ (T1.setTop (mkF m 259 #[iv p1, iv p2, iv p3, iv p4, iv p5, iv ghs, iv gas, .val (.double gth), .second, .val (.double gta), .second, rv ob, ya, iv gn, iv gx, .val (.double (FP.dadd gth (FP.dmul (FP.ddiv (FP.i2d gx) (FP.i2d gn)) (FP.dsub gta gth)))), .second, .val (.double gta), .second, .val (.double gth), .second] [(.double gth), (.double (FP.dadd gth (FP.dmul (FP.ddiv (FP.i2d gx) (FP.i2d gn)) (FP.dsub gta gth))))]))
        refine own_goW (fun _ k => XS.dcmpS X1.here hx rfl (hb hby at_259) rfl rfl k) ?_
        show own_GoW p e below s _ _ _ _ (T1.setTop (mkF m 260 #[iv p1, iv p2, iv p3, iv p4, iv p5, iv ghs, iv gas, .val (.double gth), .second, .val (.double gta), .second, rv ob, ya, iv gn, iv gx, .val (.double (FP.dadd gth (FP.dmul (FP.ddiv (FP.i2d gx) (FP.i2d gn)) (FP.dsub gta gth)))), .second, .val (.double gta), .second, .val (.double gth), .second] [(.int (cmpValue (FP.dcmp (FP.dadd gth (FP.dmul (FP.ddiv (FP.i2d gx) (FP.i2d gn)) (FP.dsub gta gth))) gth) .l))]))
        refine own_goW (fun _ k => XS.ifNo X1.here hx rfl (hb hby at_260) rfl ((if0 _ _).trans (teq (own_q0 hT hX hc9)).2) k) ?_
        show own_GoW p e below s _ _ _ _ (T1.setTop (mkF m 263 #[iv p1, iv p2, iv p3, iv p4, iv p5, iv ghs, iv gas, .val (.double gth), .second, .val (.double gta), .second, rv ob, ya, iv gn, iv gx, .val (.double (FP.dadd gth (FP.dmul (FP.ddiv (FP.i2d gx) (FP.i2d gn)) (FP.dsub gta gth)))), .second, .val (.double gta), .second, .val (.double gth), .second] []))
        refine own_goW (fun _ k => XS.iconst X1.here hx rfl (hb hby at_263) k) ?_
        show own_GoW p e below s _ _ _ _ (T1.setTop (mkF m 264 #[iv p1, iv p2, iv p3, iv p4, iv p5, iv ghs, iv gas, .val (.double gth), .second, .val (.double gta), .second, rv ob, ya, iv gn, iv gx, .val (.double (FP.dadd gth (FP.dmul (FP.ddiv (FP.i2d gx) (FP.i2d gn)) (FP.dsub gta gth)))), .second, .val (.double gta), .second, .val (.double gth), .second] [(.int (1 : Int32))]))
        refine own_goW (fun _ k => XS.goto X1.here hx rfl (pc0 := 264) (pc' := 268) rfl (hb hby at_264) (by decide) (by decide) k) ?_
        show own_GoW p e below s _ _ _ _ (T1.setTop (mkF m 268 #[iv p1, iv p2, iv p3, iv p4, iv p5, iv ghs, iv gas, .val (.double gth), .second, .val (.double gta), .second, rv ob, ya, iv gn, iv gx, .val (.double (FP.dadd gth (FP.dmul (FP.ddiv (FP.i2d gx) (FP.i2d gn)) (FP.dsub gta gth)))), .second, .val (.double gta), .second, .val (.double gth), .second] [(.int (1 : Int32))]))
        refine own_retNW X1 hS hL hZ hJ hx hlk Kc6 (t := .boolean) hret (by simp) (hb hby at_268) (by show _ ≤ 16; omega) (by show _ ≤ 2176; omega) ?_
        exact ⟨rfl, N0, K0⟩
      · refine own_goW (fun _ k => XS.ifYes X1.here hx rfl (pc0 := 252) (pc' := 269) rfl (hb hby at_252) rfl ((if0 _ _).trans (feq hc9).2) (by decide) (by decide) k) ?_
        show own_GoW p e below s _ _ _ _ (T1.setTop (mkF m 269 #[iv p1, iv p2, iv p3, iv p4, iv p5, iv ghs, iv gas, .val (.double gth), .second, .val (.double gta), .second, rv ob, ya, iv gn, iv gx, .val (.double (FP.dadd gth (FP.dmul (FP.ddiv (FP.i2d gx) (FP.i2d gn)) (FP.dsub gta gth)))), .second, .val (.double gta), .second, .val (.double gth), .second] []))
        refine own_goW (fun _ k => XS.iload X1.here hx rfl (hb hby at_269) rfl k) ?_
        show own_GoW p e below s _ _ _ _ (T1.setTop (mkF m 271 #[iv p1, iv p2, iv p3, iv p4, iv p5, iv ghs, iv gas, .val (.double gth), .second, .val (.double gta), .second, rv ob, ya, iv gn, iv gx, .val (.double (FP.dadd gth (FP.dmul (FP.ddiv (FP.i2d gx) (FP.i2d gn)) (FP.dsub gta gth)))), .second, .val (.double gta), .second, .val (.double gth), .second] [(.int gx)]))
        refine own_goW (fun _ k => XS.iload X1.here hx rfl (hb hby at_271) rfl k) ?_
        show own_GoW p e below s _ _ _ _ (T1.setTop (mkF m 273 #[iv p1, iv p2, iv p3, iv p4, iv p5, iv ghs, iv gas, .val (.double gth), .second, .val (.double gta), .second, rv ob, ya, iv gn, iv gx, .val (.double (FP.dadd gth (FP.dmul (FP.ddiv (FP.i2d gx) (FP.i2d gn)) (FP.dsub gta gth)))), .second, .val (.double gta), .second, .val (.double gth), .second] [(.int gn), (.int gx)]))
        by_cases hc10 : gx = gn
        · refine own_goW (fun _ k => XS.icmpNo X1.here hx rfl (hb hby at_273) rfl (teq hc10).2 k) ?_
          show own_GoW p e below s _ _ _ _ (T1.setTop (mkF m 276 #[iv p1, iv p2, iv p3, iv p4, iv p5, iv ghs, iv gas, .val (.double gth), .second, .val (.double gta), .second, rv ob, ya, iv gn, iv gx, .val (.double (FP.dadd gth (FP.dmul (FP.ddiv (FP.i2d gx) (FP.i2d gn)) (FP.dsub gta gth)))), .second, .val (.double gta), .second, .val (.double gth), .second] []))
          refine own_goW (fun _ k => XS.dload X1.here hx rfl (hb hby at_276) rfl k) ?_
          show own_GoW p e below s _ _ _ _ (T1.setTop (mkF m 278 #[iv p1, iv p2, iv p3, iv p4, iv p5, iv ghs, iv gas, .val (.double gth), .second, .val (.double gta), .second, rv ob, ya, iv gn, iv gx, .val (.double (FP.dadd gth (FP.dmul (FP.ddiv (FP.i2d gx) (FP.i2d gn)) (FP.dsub gta gth)))), .second, .val (.double gta), .second, .val (.double gth), .second] [(.double (FP.dadd gth (FP.dmul (FP.ddiv (FP.i2d gx) (FP.i2d gn)) (FP.dsub gta gth))))]))
          refine own_goW (fun _ k => XS.dload X1.here hx rfl (hb hby at_278) rfl k) ?_
          show own_GoW p e below s _ _ _ _ (T1.setTop (mkF m 280 #[iv p1, iv p2, iv p3, iv p4, iv p5, iv ghs, iv gas, .val (.double gth), .second, .val (.double gta), .second, rv ob, ya, iv gn, iv gx, .val (.double (FP.dadd gth (FP.dmul (FP.ddiv (FP.i2d gx) (FP.i2d gn)) (FP.dsub gta gth)))), .second, .val (.double gta), .second, .val (.double gth), .second] [(.double gta), (.double (FP.dadd gth (FP.dmul (FP.ddiv (FP.i2d gx) (FP.i2d gn)) (FP.dsub gta gth))))]))
          refine own_goW (fun _ k => XS.dcmpS X1.here hx rfl (hb hby at_280) rfl rfl k) ?_
          show own_GoW p e below s _ _ _ _ (T1.setTop (mkF m 281 #[iv p1, iv p2, iv p3, iv p4, iv p5, iv ghs, iv gas, .val (.double gth), .second, .val (.double gta), .second, rv ob, ya, iv gn, iv gx, .val (.double (FP.dadd gth (FP.dmul (FP.ddiv (FP.i2d gx) (FP.i2d gn)) (FP.dsub gta gth)))), .second, .val (.double gta), .second, .val (.double gth), .second] [(.int (cmpValue (FP.dcmp (FP.dadd gth (FP.dmul (FP.ddiv (FP.i2d gx) (FP.i2d gn)) (FP.dsub gta gth))) gta) .l))]))
          refine own_goW (fun _ k => XS.ifNo X1.here hx rfl (hb hby at_281) rfl ((if0 _ _).trans (teq (own_qn hT hX hc10)).2) k) ?_
          show own_GoW p e below s _ _ _ _ (T1.setTop (mkF m 284 #[iv p1, iv p2, iv p3, iv p4, iv p5, iv ghs, iv gas, .val (.double gth), .second, .val (.double gta), .second, rv ob, ya, iv gn, iv gx, .val (.double (FP.dadd gth (FP.dmul (FP.ddiv (FP.i2d gx) (FP.i2d gn)) (FP.dsub gta gth)))), .second, .val (.double gta), .second, .val (.double gth), .second] []))
          refine own_goW (fun _ k => XS.iconst X1.here hx rfl (hb hby at_284) k) ?_
          show own_GoW p e below s _ _ _ _ (T1.setTop (mkF m 285 #[iv p1, iv p2, iv p3, iv p4, iv p5, iv ghs, iv gas, .val (.double gth), .second, .val (.double gta), .second, rv ob, ya, iv gn, iv gx, .val (.double (FP.dadd gth (FP.dmul (FP.ddiv (FP.i2d gx) (FP.i2d gn)) (FP.dsub gta gth)))), .second, .val (.double gta), .second, .val (.double gth), .second] [(.int (1 : Int32))]))
          refine own_goW (fun _ k => XS.goto X1.here hx rfl (pc0 := 285) (pc' := 289) rfl (hb hby at_285) (by decide) (by decide) k) ?_
          show own_GoW p e below s _ _ _ _ (T1.setTop (mkF m 289 #[iv p1, iv p2, iv p3, iv p4, iv p5, iv ghs, iv gas, .val (.double gth), .second, .val (.double gta), .second, rv ob, ya, iv gn, iv gx, .val (.double (FP.dadd gth (FP.dmul (FP.ddiv (FP.i2d gx) (FP.i2d gn)) (FP.dsub gta gth)))), .second, .val (.double gta), .second, .val (.double gth), .second] [(.int (1 : Int32))]))
          refine own_retNW X1 hS hL hZ hJ hx hlk Kc6 (t := .boolean) hret (by simp) (hb hby at_289) (by show _ ≤ 16; omega) (by show _ ≤ 2176; omega) ?_
          exact ⟨rfl, N0, K0⟩
        · refine own_goW (fun _ k => XS.icmpYes X1.here hx rfl (pc0 := 273) (pc' := 290) rfl (hb hby at_273) rfl (feq hc10).2 (by decide) (by decide) k) ?_
          show own_GoW p e below s _ _ _ _ (T1.setTop (mkF m 290 #[iv p1, iv p2, iv p3, iv p4, iv p5, iv ghs, iv gas, .val (.double gth), .second, .val (.double gta), .second, rv ob, ya, iv gn, iv gx, .val (.double (FP.dadd gth (FP.dmul (FP.ddiv (FP.i2d gx) (FP.i2d gn)) (FP.dsub gta gth)))), .second, .val (.double gta), .second, .val (.double gth), .second] []))
          refine own_goW (fun _ k => XS.dload X1.here hx rfl (hb hby at_290) rfl k) ?_
          show own_GoW p e below s _ _ _ _ (T1.setTop (mkF m 292 #[iv p1, iv p2, iv p3, iv p4, iv p5, iv ghs, iv gas, .val (.double gth), .second, .val (.double gta), .second, rv ob, ya, iv gn, iv gx, .val (.double (FP.dadd gth (FP.dmul (FP.ddiv (FP.i2d gx) (FP.i2d gn)) (FP.dsub gta gth)))), .second, .val (.double gta), .second, .val (.double gth), .second] [(.double gta)]))
          refine own_goW (fun _ k => XS.dload X1.here hx rfl (hb hby at_292) rfl k) ?_
          show own_GoW p e below s _ _ _ _ (T1.setTop (mkF m 294 #[iv p1, iv p2, iv p3, iv p4, iv p5, iv ghs, iv gas, .val (.double gth), .second, .val (.double gta), .second, rv ob, ya, iv gn, iv gx, .val (.double (FP.dadd gth (FP.dmul (FP.ddiv (FP.i2d gx) (FP.i2d gn)) (FP.dsub gta gth)))), .second, .val (.double gta), .second, .val (.double gth), .second] [(.double (FP.dadd gth (FP.dmul (FP.ddiv (FP.i2d gx) (FP.i2d gn)) (FP.dsub gta gth)))), (.double gta)]))
          refine own_goW (fun _ k => XS.dcmpS X1.here hx rfl (hb hby at_294) rfl rfl k) ?_
          show own_GoW p e below s _ _ _ _ (T1.setTop (mkF m 295 #[iv p1, iv p2, iv p3, iv p4, iv p5, iv ghs, iv gas, .val (.double gth), .second, .val (.double gta), .second, rv ob, ya, iv gn, iv gx, .val (.double (FP.dadd gth (FP.dmul (FP.ddiv (FP.i2d gx) (FP.i2d gn)) (FP.dsub gta gth)))), .second, .val (.double gta), .second, .val (.double gth), .second] [(.int (cmpValue (FP.dcmp gta (FP.dadd gth (FP.dmul (FP.ddiv (FP.i2d gx) (FP.i2d gn)) (FP.dsub gta gth)))) .g))]))
          refine own_goW (fun _ k => XS.ifNo X1.here hx rfl (hb hby at_295) rfl ((if0 _ _).trans (flt (own_le hT hX hc8).1).2.2.1) k) ?_
          show own_GoW p e below s _ _ _ _ (T1.setTop (mkF m 298 #[iv p1, iv p2, iv p3, iv p4, iv p5, iv ghs, iv gas, .val (.double gth), .second, .val (.double gta), .second, rv ob, ya, iv gn, iv gx, .val (.double (FP.dadd gth (FP.dmul (FP.ddiv (FP.i2d gx) (FP.i2d gn)) (FP.dsub gta gth)))), .second, .val (.double gta), .second, .val (.double gth), .second] []))
          refine own_goW (fun _ k => XS.dload X1.here hx rfl (hb hby at_298) rfl k) ?_
          show own_GoW p e below s _ _ _ _ (T1.setTop (mkF m 300 #[iv p1, iv p2, iv p3, iv p4, iv p5, iv ghs, iv gas, .val (.double gth), .second, .val (.double gta), .second, rv ob, ya, iv gn, iv gx, .val (.double (FP.dadd gth (FP.dmul (FP.ddiv (FP.i2d gx) (FP.i2d gn)) (FP.dsub gta gth)))), .second, .val (.double gta), .second, .val (.double gth), .second] [(.double (FP.dadd gth (FP.dmul (FP.ddiv (FP.i2d gx) (FP.i2d gn)) (FP.dsub gta gth))))]))
          refine own_goW (fun _ k => XS.dload X1.here hx rfl (hb hby at_300) rfl k) ?_
          show own_GoW p e below s _ _ _ _ (T1.setTop (mkF m 302 #[iv p1, iv p2, iv p3, iv p4, iv p5, iv ghs, iv gas, .val (.double gth), .second, .val (.double gta), .second, rv ob, ya, iv gn, iv gx, .val (.double (FP.dadd gth (FP.dmul (FP.ddiv (FP.i2d gx) (FP.i2d gn)) (FP.dsub gta gth)))), .second, .val (.double gta), .second, .val (.double gth), .second] [(.double gth), (.double (FP.dadd gth (FP.dmul (FP.ddiv (FP.i2d gx) (FP.i2d gn)) (FP.dsub gta gth))))]))
          refine own_goW (fun _ k => XS.dcmpS X1.here hx rfl (hb hby at_302) rfl rfl k) ?_
          show own_GoW p e below s _ _ _ _ (T1.setTop (mkF m 303 #[iv p1, iv p2, iv p3, iv p4, iv p5, iv ghs, iv gas, .val (.double gth), .second, .val (.double gta), .second, rv ob, ya, iv gn, iv gx, .val (.double (FP.dadd gth (FP.dmul (FP.ddiv (FP.i2d gx) (FP.i2d gn)) (FP.dsub gta gth)))), .second, .val (.double gta), .second, .val (.double gth), .second] [(.int (cmpValue (FP.dcmp (FP.dadd gth (FP.dmul (FP.ddiv (FP.i2d gx) (FP.i2d gn)) (FP.dsub gta gth))) gth) .g))]))
          refine own_goW (fun _ k => XS.ifNo X1.here hx rfl (hb hby at_303) rfl ((if0 _ _).trans (flt (own_le hT hX hc8).2).2.2.1) k) ?_
          show own_GoW p e below s _ _ _ _ (T1.setTop (mkF m 306 #[iv p1, iv p2, iv p3, iv p4, iv p5, iv ghs, iv gas, .val (.double gth), .second, .val (.double gta), .second, rv ob, ya, iv gn, iv gx, .val (.double (FP.dadd gth (FP.dmul (FP.ddiv (FP.i2d gx) (FP.i2d gn)) (FP.dsub gta gth)))), .second, .val (.double gta), .second, .val (.double gth), .second] []))
          refine own_goW (fun _ k => XS.iconst X1.here hx rfl (hb hby at_306) k) ?_
          show own_GoW p e below s _ _ _ _ (T1.setTop (mkF m 307 #[iv p1, iv p2, iv p3, iv p4, iv p5, iv ghs, iv gas, .val (.double gth), .second, .val (.double gta), .second, rv ob, ya, iv gn, iv gx, .val (.double (FP.dadd gth (FP.dmul (FP.ddiv (FP.i2d gx) (FP.i2d gn)) (FP.dsub gta gth)))), .second, .val (.double gta), .second, .val (.double gth), .second] [(.int (1 : Int32))]))
          refine own_goW (fun _ k => XS.goto X1.here hx rfl (pc0 := 307) (pc' := 311) rfl (hb hby at_307) (by decide) (by decide) k) ?_
          show own_GoW p e below s _ _ _ _ (T1.setTop (mkF m 311 #[iv p1, iv p2, iv p3, iv p4, iv p5, iv ghs, iv gas, .val (.double gth), .second, .val (.double gta), .second, rv ob, ya, iv gn, iv gx, .val (.double (FP.dadd gth (FP.dmul (FP.ddiv (FP.i2d gx) (FP.i2d gn)) (FP.dsub gta gth)))), .second, .val (.double gta), .second, .val (.double gth), .second] [(.int (1 : Int32))]))
          refine own_retNW X1 hS hL hZ hJ hx hlk Kc6 (t := .boolean) hret (by simp) (hb hby at_311) (by show _ ≤ 16; omega) (by show _ ≤ 2176; omega) ?_
          exact ⟨rfl, N0, K0⟩
    · refine own_goW (fun _ k => XS.ifYes X1.here hx rfl (pc0 := 239) (pc' := 250) rfl (hb hby at_239) rfl ((if0 _ _).trans (flt hc8).2.1) (by decide) (by decide) k) ?_
      show own_GoW p e below s _ _ _ _ (T1.setTop (mkF m 250 #[iv p1, iv p2, iv p3, iv p4, iv p5, iv ghs, iv gas, .val (.double gth), .second, .val (.double gta), .second, rv ob, ya, iv gn, iv gx, .val (.double (FP.dadd gth (FP.dmul (FP.ddiv (FP.i2d gx) (FP.i2d gn)) (FP.dsub gta gth)))), .second, .val (.double gth), .second, .val (.double gta), .second] []))
      refine own_goW (fun _ k => XS.iload X1.here hx rfl (hb hby at_250) rfl k) ?_
      show own_GoW p e below s _ _ _ _ (T1.setTop (mkF m 252 #[iv p1, iv p2, iv p3, iv p4, iv p5, iv ghs, iv gas, .val (.double gth), .second, .val (.double gta), .second, rv ob, ya, iv gn, iv gx, .val (.double (FP.dadd gth (FP.dmul (FP.ddiv (FP.i2d gx) (FP.i2d gn)) (FP.dsub gta gth)))), .second, .val (.double gth), .second, .val (.double gta), .second] [(.int gx)]))
      by_cases hc11 : gx = (0 : Int32)
      · refine own_goW (fun _ k => XS.ifNo X1.here hx rfl (hb hby at_252) rfl ((if0 _ _).trans (teq hc11).2) k) ?_
        show own_GoW p e below s _ _ _ _ (T1.setTop (mkF m 255 #[iv p1, iv p2, iv p3, iv p4, iv p5, iv ghs, iv gas, .val (.double gth), .second, .val (.double gta), .second, rv ob, ya, iv gn, iv gx, .val (.double (FP.dadd gth (FP.dmul (FP.ddiv (FP.i2d gx) (FP.i2d gn)) (FP.dsub gta gth)))), .second, .val (.double gth), .second, .val (.double gta), .second] []))
        refine own_goW (fun _ k => XS.dload X1.here hx rfl (hb hby at_255) rfl k) ?_
        show own_GoW p e below s _ _ _ _ (T1.setTop (mkF m 257 #[iv p1, iv p2, iv p3, iv p4, iv p5, iv ghs, iv gas, .val (.double gth), .second, .val (.double gta), .second, rv ob, ya, iv gn, iv gx, .val (.double (FP.dadd gth (FP.dmul (FP.ddiv (FP.i2d gx) (FP.i2d gn)) (FP.dsub gta gth)))), .second, .val (.double gth), .second, .val (.double gta), .second] [(.double (FP.dadd gth (FP.dmul (FP.ddiv (FP.i2d gx) (FP.i2d gn)) (FP.dsub gta gth))))]))
        refine own_goW (fun _ k => XS.dload X1.here hx rfl (hb hby at_257) rfl k) ?_
        show own_GoW p e below s _ _ _ _ (T1.setTop (mkF m 259 #[iv p1, iv p2, iv p3, iv p4, iv p5, iv ghs, iv gas, .val (.double gth), .second, .val (.double gta), .second, rv ob, ya, iv gn, iv gx, .val (.double (FP.dadd gth (FP.dmul (FP.ddiv (FP.i2d gx) (FP.i2d gn)) (FP.dsub gta gth)))), .second, .val (.double gth), .second, .val (.double gta), .second] [(.double gth), (.double (FP.dadd gth (FP.dmul (FP.ddiv (FP.i2d gx) (FP.i2d gn)) (FP.dsub gta gth))))]))
        refine own_goW (fun _ k => XS.dcmpS X1.here hx rfl (hb hby at_259) rfl rfl k) ?_
        show own_GoW p e below s _ _ _ _ (T1.setTop (mkF m 260 #[iv p1, iv p2, iv p3, iv p4, iv p5, iv ghs, iv gas, .val (.double gth), .second, .val (.double gta), .second, rv ob, ya, iv gn, iv gx, .val (.double (FP.dadd gth (FP.dmul (FP.ddiv (FP.i2d gx) (FP.i2d gn)) (FP.dsub gta gth)))), .second, .val (.double gth), .second, .val (.double gta), .second] [(.int (cmpValue (FP.dcmp (FP.dadd gth (FP.dmul (FP.ddiv (FP.i2d gx) (FP.i2d gn)) (FP.dsub gta gth))) gth) .l))]))
        refine own_goW (fun _ k => XS.ifNo X1.here hx rfl (hb hby at_260) rfl ((if0 _ _).trans (teq (own_q0 hT hX hc11)).2) k) ?_
        show own_GoW p e below s _ _ _ _ (T1.setTop (mkF m 263 #[iv p1, iv p2, iv p3, iv p4, iv p5, iv ghs, iv gas, .val (.double gth), .second, .val (.double gta), .second, rv ob, ya, iv gn, iv gx, .val (.double (FP.dadd gth (FP.dmul (FP.ddiv (FP.i2d gx) (FP.i2d gn)) (FP.dsub gta gth)))), .second, .val (.double gth), .second, .val (.double gta), .second] []))
        refine own_goW (fun _ k => XS.iconst X1.here hx rfl (hb hby at_263) k) ?_
        show own_GoW p e below s _ _ _ _ (T1.setTop (mkF m 264 #[iv p1, iv p2, iv p3, iv p4, iv p5, iv ghs, iv gas, .val (.double gth), .second, .val (.double gta), .second, rv ob, ya, iv gn, iv gx, .val (.double (FP.dadd gth (FP.dmul (FP.ddiv (FP.i2d gx) (FP.i2d gn)) (FP.dsub gta gth)))), .second, .val (.double gth), .second, .val (.double gta), .second] [(.int (1 : Int32))]))
        refine own_goW (fun _ k => XS.goto X1.here hx rfl (pc0 := 264) (pc' := 268) rfl (hb hby at_264) (by decide) (by decide) k) ?_
        show own_GoW p e below s _ _ _ _ (T1.setTop (mkF m 268 #[iv p1, iv p2, iv p3, iv p4, iv p5, iv ghs, iv gas, .val (.double gth), .second, .val (.double gta), .second, rv ob, ya, iv gn, iv gx, .val (.double (FP.dadd gth (FP.dmul (FP.ddiv (FP.i2d gx) (FP.i2d gn)) (FP.dsub gta gth)))), .second, .val (.double gth), .second, .val (.double gta), .second] [(.int (1 : Int32))]))
        refine own_retNW X1 hS hL hZ hJ hx hlk Kc6 (t := .boolean) hret (by simp) (hb hby at_268) (by show _ ≤ 16; omega) (by show _ ≤ 2176; omega) ?_
        exact ⟨rfl, N0, K0⟩
      · refine own_goW (fun _ k => XS.ifYes X1.here hx rfl (pc0 := 252) (pc' := 269) rfl (hb hby at_252) rfl ((if0 _ _).trans (feq hc11).2) (by decide) (by decide) k) ?_
        show own_GoW p e below s _ _ _ _ (T1.setTop (mkF m 269 #[iv p1, iv p2, iv p3, iv p4, iv p5, iv ghs, iv gas, .val (.double gth), .second, .val (.double gta), .second, rv ob, ya, iv gn, iv gx, .val (.double (FP.dadd gth (FP.dmul (FP.ddiv (FP.i2d gx) (FP.i2d gn)) (FP.dsub gta gth)))), .second, .val (.double gth), .second, .val (.double gta), .second] []))
        refine own_goW (fun _ k => XS.iload X1.here hx rfl (hb hby at_269) rfl k) ?_
        show own_GoW p e below s _ _ _ _ (T1.setTop (mkF m 271 #[iv p1, iv p2, iv p3, iv p4, iv p5, iv ghs, iv gas, .val (.double gth), .second, .val (.double gta), .second, rv ob, ya, iv gn, iv gx, .val (.double (FP.dadd gth (FP.dmul (FP.ddiv (FP.i2d gx) (FP.i2d gn)) (FP.dsub gta gth)))), .second, .val (.double gth), .second, .val (.double gta), .second] [(.int gx)]))
        refine own_goW (fun _ k => XS.iload X1.here hx rfl (hb hby at_271) rfl k) ?_
        show own_GoW p e below s _ _ _ _ (T1.setTop (mkF m 273 #[iv p1, iv p2, iv p3, iv p4, iv p5, iv ghs, iv gas, .val (.double gth), .second, .val (.double gta), .second, rv ob, ya, iv gn, iv gx, .val (.double (FP.dadd gth (FP.dmul (FP.ddiv (FP.i2d gx) (FP.i2d gn)) (FP.dsub gta gth)))), .second, .val (.double gth), .second, .val (.double gta), .second] [(.int gn), (.int gx)]))
        by_cases hc12 : gx = gn
        · refine own_goW (fun _ k => XS.icmpNo X1.here hx rfl (hb hby at_273) rfl (teq hc12).2 k) ?_
          show own_GoW p e below s _ _ _ _ (T1.setTop (mkF m 276 #[iv p1, iv p2, iv p3, iv p4, iv p5, iv ghs, iv gas, .val (.double gth), .second, .val (.double gta), .second, rv ob, ya, iv gn, iv gx, .val (.double (FP.dadd gth (FP.dmul (FP.ddiv (FP.i2d gx) (FP.i2d gn)) (FP.dsub gta gth)))), .second, .val (.double gth), .second, .val (.double gta), .second] []))
          refine own_goW (fun _ k => XS.dload X1.here hx rfl (hb hby at_276) rfl k) ?_
          show own_GoW p e below s _ _ _ _ (T1.setTop (mkF m 278 #[iv p1, iv p2, iv p3, iv p4, iv p5, iv ghs, iv gas, .val (.double gth), .second, .val (.double gta), .second, rv ob, ya, iv gn, iv gx, .val (.double (FP.dadd gth (FP.dmul (FP.ddiv (FP.i2d gx) (FP.i2d gn)) (FP.dsub gta gth)))), .second, .val (.double gth), .second, .val (.double gta), .second] [(.double (FP.dadd gth (FP.dmul (FP.ddiv (FP.i2d gx) (FP.i2d gn)) (FP.dsub gta gth))))]))
          refine own_goW (fun _ k => XS.dload X1.here hx rfl (hb hby at_278) rfl k) ?_
          show own_GoW p e below s _ _ _ _ (T1.setTop (mkF m 280 #[iv p1, iv p2, iv p3, iv p4, iv p5, iv ghs, iv gas, .val (.double gth), .second, .val (.double gta), .second, rv ob, ya, iv gn, iv gx, .val (.double (FP.dadd gth (FP.dmul (FP.ddiv (FP.i2d gx) (FP.i2d gn)) (FP.dsub gta gth)))), .second, .val (.double gth), .second, .val (.double gta), .second] [(.double gta), (.double (FP.dadd gth (FP.dmul (FP.ddiv (FP.i2d gx) (FP.i2d gn)) (FP.dsub gta gth))))]))
          refine own_goW (fun _ k => XS.dcmpS X1.here hx rfl (hb hby at_280) rfl rfl k) ?_
          show own_GoW p e below s _ _ _ _ (T1.setTop (mkF m 281 #[iv p1, iv p2, iv p3, iv p4, iv p5, iv ghs, iv gas, .val (.double gth), .second, .val (.double gta), .second, rv ob, ya, iv gn, iv gx, .val (.double (FP.dadd gth (FP.dmul (FP.ddiv (FP.i2d gx) (FP.i2d gn)) (FP.dsub gta gth)))), .second, .val (.double gth), .second, .val (.double gta), .second] [(.int (cmpValue (FP.dcmp (FP.dadd gth (FP.dmul (FP.ddiv (FP.i2d gx) (FP.i2d gn)) (FP.dsub gta gth))) gta) .l))]))
          refine own_goW (fun _ k => XS.ifNo X1.here hx rfl (hb hby at_281) rfl ((if0 _ _).trans (teq (own_qn hT hX hc12)).2) k) ?_
          show own_GoW p e below s _ _ _ _ (T1.setTop (mkF m 284 #[iv p1, iv p2, iv p3, iv p4, iv p5, iv ghs, iv gas, .val (.double gth), .second, .val (.double gta), .second, rv ob, ya, iv gn, iv gx, .val (.double (FP.dadd gth (FP.dmul (FP.ddiv (FP.i2d gx) (FP.i2d gn)) (FP.dsub gta gth)))), .second, .val (.double gth), .second, .val (.double gta), .second] []))
          refine own_goW (fun _ k => XS.iconst X1.here hx rfl (hb hby at_284) k) ?_
          show own_GoW p e below s _ _ _ _ (T1.setTop (mkF m 285 #[iv p1, iv p2, iv p3, iv p4, iv p5, iv ghs, iv gas, .val (.double gth), .second, .val (.double gta), .second, rv ob, ya, iv gn, iv gx, .val (.double (FP.dadd gth (FP.dmul (FP.ddiv (FP.i2d gx) (FP.i2d gn)) (FP.dsub gta gth)))), .second, .val (.double gth), .second, .val (.double gta), .second] [(.int (1 : Int32))]))
          refine own_goW (fun _ k => XS.goto X1.here hx rfl (pc0 := 285) (pc' := 289) rfl (hb hby at_285) (by decide) (by decide) k) ?_
          show own_GoW p e below s _ _ _ _ (T1.setTop (mkF m 289 #[iv p1, iv p2, iv p3, iv p4, iv p5, iv ghs, iv gas, .val (.double gth), .second, .val (.double gta), .second, rv ob, ya, iv gn, iv gx, .val (.double (FP.dadd gth (FP.dmul (FP.ddiv (FP.i2d gx) (FP.i2d gn)) (FP.dsub gta gth)))), .second, .val (.double gth), .second, .val (.double gta), .second] [(.int (1 : Int32))]))
          refine own_retNW X1 hS hL hZ hJ hx hlk Kc6 (t := .boolean) hret (by simp) (hb hby at_289) (by show _ ≤ 16; omega) (by show _ ≤ 2176; omega) ?_
          exact ⟨rfl, N0, K0⟩
        · refine own_goW (fun _ k => XS.icmpYes X1.here hx rfl (pc0 := 273) (pc' := 290) rfl (hb hby at_273) rfl (feq hc12).2 (by decide) (by decide) k) ?_
          show own_GoW p e below s _ _ _ _ (T1.setTop (mkF m 290 #[iv p1, iv p2, iv p3, iv p4, iv p5, iv ghs, iv gas, .val (.double gth), .second, .val (.double gta), .second, rv ob, ya, iv gn, iv gx, .val (.double (FP.dadd gth (FP.dmul (FP.ddiv (FP.i2d gx) (FP.i2d gn)) (FP.dsub gta gth)))), .second, .val (.double gth), .second, .val (.double gta), .second] []))
          refine own_goW (fun _ k => XS.dload X1.here hx rfl (hb hby at_290) rfl k) ?_
          show own_GoW p e below s _ _ _ _ (T1.setTop (mkF m 292 #[iv p1, iv p2, iv p3, iv p4, iv p5, iv ghs, iv gas, .val (.double gth), .second, .val (.double gta), .second, rv ob, ya, iv gn, iv gx, .val (.double (FP.dadd gth (FP.dmul (FP.ddiv (FP.i2d gx) (FP.i2d gn)) (FP.dsub gta gth)))), .second, .val (.double gth), .second, .val (.double gta), .second] [(.double gth)]))
          refine own_goW (fun _ k => XS.dload X1.here hx rfl (hb hby at_292) rfl k) ?_
          show own_GoW p e below s _ _ _ _ (T1.setTop (mkF m 294 #[iv p1, iv p2, iv p3, iv p4, iv p5, iv ghs, iv gas, .val (.double gth), .second, .val (.double gta), .second, rv ob, ya, iv gn, iv gx, .val (.double (FP.dadd gth (FP.dmul (FP.ddiv (FP.i2d gx) (FP.i2d gn)) (FP.dsub gta gth)))), .second, .val (.double gth), .second, .val (.double gta), .second] [(.double (FP.dadd gth (FP.dmul (FP.ddiv (FP.i2d gx) (FP.i2d gn)) (FP.dsub gta gth)))), (.double gth)]))
          refine own_goW (fun _ k => XS.dcmpS X1.here hx rfl (hb hby at_294) rfl rfl k) ?_
          show own_GoW p e below s _ _ _ _ (T1.setTop (mkF m 295 #[iv p1, iv p2, iv p3, iv p4, iv p5, iv ghs, iv gas, .val (.double gth), .second, .val (.double gta), .second, rv ob, ya, iv gn, iv gx, .val (.double (FP.dadd gth (FP.dmul (FP.ddiv (FP.i2d gx) (FP.i2d gn)) (FP.dsub gta gth)))), .second, .val (.double gth), .second, .val (.double gta), .second] [(.int (cmpValue (FP.dcmp gth (FP.dadd gth (FP.dmul (FP.ddiv (FP.i2d gx) (FP.i2d gn)) (FP.dsub gta gth)))) .g))]))
          refine own_goW (fun _ k => XS.ifNo X1.here hx rfl (hb hby at_295) rfl ((if0 _ _).trans (flt (own_ge hT hX hc8).1).2.2.1) k) ?_
          show own_GoW p e below s _ _ _ _ (T1.setTop (mkF m 298 #[iv p1, iv p2, iv p3, iv p4, iv p5, iv ghs, iv gas, .val (.double gth), .second, .val (.double gta), .second, rv ob, ya, iv gn, iv gx, .val (.double (FP.dadd gth (FP.dmul (FP.ddiv (FP.i2d gx) (FP.i2d gn)) (FP.dsub gta gth)))), .second, .val (.double gth), .second, .val (.double gta), .second] []))
          refine own_goW (fun _ k => XS.dload X1.here hx rfl (hb hby at_298) rfl k) ?_
          show own_GoW p e below s _ _ _ _ (T1.setTop (mkF m 300 #[iv p1, iv p2, iv p3, iv p4, iv p5, iv ghs, iv gas, .val (.double gth), .second, .val (.double gta), .second, rv ob, ya, iv gn, iv gx, .val (.double (FP.dadd gth (FP.dmul (FP.ddiv (FP.i2d gx) (FP.i2d gn)) (FP.dsub gta gth)))), .second, .val (.double gth), .second, .val (.double gta), .second] [(.double (FP.dadd gth (FP.dmul (FP.ddiv (FP.i2d gx) (FP.i2d gn)) (FP.dsub gta gth))))]))
          refine own_goW (fun _ k => XS.dload X1.here hx rfl (hb hby at_300) rfl k) ?_
          show own_GoW p e below s _ _ _ _ (T1.setTop (mkF m 302 #[iv p1, iv p2, iv p3, iv p4, iv p5, iv ghs, iv gas, .val (.double gth), .second, .val (.double gta), .second, rv ob, ya, iv gn, iv gx, .val (.double (FP.dadd gth (FP.dmul (FP.ddiv (FP.i2d gx) (FP.i2d gn)) (FP.dsub gta gth)))), .second, .val (.double gth), .second, .val (.double gta), .second] [(.double gta), (.double (FP.dadd gth (FP.dmul (FP.ddiv (FP.i2d gx) (FP.i2d gn)) (FP.dsub gta gth))))]))
          refine own_goW (fun _ k => XS.dcmpS X1.here hx rfl (hb hby at_302) rfl rfl k) ?_
          show own_GoW p e below s _ _ _ _ (T1.setTop (mkF m 303 #[iv p1, iv p2, iv p3, iv p4, iv p5, iv ghs, iv gas, .val (.double gth), .second, .val (.double gta), .second, rv ob, ya, iv gn, iv gx, .val (.double (FP.dadd gth (FP.dmul (FP.ddiv (FP.i2d gx) (FP.i2d gn)) (FP.dsub gta gth)))), .second, .val (.double gth), .second, .val (.double gta), .second] [(.int (cmpValue (FP.dcmp (FP.dadd gth (FP.dmul (FP.ddiv (FP.i2d gx) (FP.i2d gn)) (FP.dsub gta gth))) gta) .g))]))
          refine own_goW (fun _ k => XS.ifNo X1.here hx rfl (hb hby at_303) rfl ((if0 _ _).trans (flt (own_ge hT hX hc8).2).2.2.1) k) ?_
          show own_GoW p e below s _ _ _ _ (T1.setTop (mkF m 306 #[iv p1, iv p2, iv p3, iv p4, iv p5, iv ghs, iv gas, .val (.double gth), .second, .val (.double gta), .second, rv ob, ya, iv gn, iv gx, .val (.double (FP.dadd gth (FP.dmul (FP.ddiv (FP.i2d gx) (FP.i2d gn)) (FP.dsub gta gth)))), .second, .val (.double gth), .second, .val (.double gta), .second] []))
          refine own_goW (fun _ k => XS.iconst X1.here hx rfl (hb hby at_306) k) ?_
          show own_GoW p e below s _ _ _ _ (T1.setTop (mkF m 307 #[iv p1, iv p2, iv p3, iv p4, iv p5, iv ghs, iv gas, .val (.double gth), .second, .val (.double gta), .second, rv ob, ya, iv gn, iv gx, .val (.double (FP.dadd gth (FP.dmul (FP.ddiv (FP.i2d gx) (FP.i2d gn)) (FP.dsub gta gth)))), .second, .val (.double gth), .second, .val (.double gta), .second] [(.int (1 : Int32))]))
          refine own_goW (fun _ k => XS.goto X1.here hx rfl (pc0 := 307) (pc' := 311) rfl (hb hby at_307) (by decide) (by decide) k) ?_
          show own_GoW p e below s _ _ _ _ (T1.setTop (mkF m 311 #[iv p1, iv p2, iv p3, iv p4, iv p5, iv ghs, iv gas, .val (.double gth), .second, .val (.double gta), .second, rv ob, ya, iv gn, iv gx, .val (.double (FP.dadd gth (FP.dmul (FP.ddiv (FP.i2d gx) (FP.i2d gn)) (FP.dsub gta gth)))), .second, .val (.double gth), .second, .val (.double gta), .second] [(.int (1 : Int32))]))
          refine own_retNW X1 hS hL hZ hJ hx hlk Kc6 (t := .boolean) hret (by simp) (hb hby at_311) (by show _ ≤ 16; omega) (by show _ ≤ 2176; omega) ?_
          exact ⟨rfl, N0, K0⟩
set_option maxRecDepth 65536 in
set_option maxHeartbeats 40000000 in
theorem sg_s99 {l : Launch} {Z : State} {a0 : Array Value} (hw : ∀ d ∈ tables_1, d.before a0 Z = true) {p : Program} {e : Env} {s : State} {vm0 : Vm} {m : MethodId} {args : Array Value} {below : List Frame} {meth : Method} {c : Code} {T : State} {locs : List Loc} {cells slots : Nat} (p1 : Int32) (p2 : Int32) (p3 : Int32) (p4 : Int32) (p5 : Int32) (ghs : Int32) (gas : Int32) (gth : UInt64) (gta : UInt64) (ob : Addr) (ya : Slot) (yb : Slot) (gn : Int32) (h0 hs1 : Heap)
    (X0 : Stand p l e room_1 (s.setVm vm0) m args below meth c T locs cells slots) (hS : s.Since vm0 hs1.size) (hL : own_L Z a0) (hJ : own_J Z vm0 hs1) (hx : p.tables.exec = Jvm.exec) (hby : c.code = code) (hml : c.maxLocals = 21) (hret : meth.sig.returnType = some .boolean) (hlk : meth.locks = false) (hZ : Z.Warmed39 (s.setVm vm0).vm) (hown : (s.setVm vm0).vm.findClass "com/example/nudo/nudo/VehicleClassesMeanReactionTimePinLaw" = some m.cls) (hnm : meth.name = "law") (e0 : T.heap = hs1) (N0 : Fr Z.heap.size locs) (O0 : Ext Z.heap hs1) (K0 : Keep h0 hs1 []) (fp0 : Exa Z hs1 ob "com/example/nudo/nudo/VehicleClasses") (fp1 : Fld Z hs1 ob "com/example/nudo/nudo/VehicleClasses" "humanReactionTime" "D" (.double gth)) (fp2 : Fld Z hs1 ob "com/example/nudo/nudo/VehicleClasses" "automatedReactionTime" "D" (.double gta)) (hT : own_T ghs gas gth gta) (hK : own_K gn) (hcells : cells ≤ 16) (hslots : slots ≤ 2176) :
    own_GoW p e below s Z (Q_law Z p1 p2 p3 p4 p5 h0) room_1.cells room_1.slots (T.setTop (mkF m 99 #[iv p1, iv p2, iv p3, iv p4, iv p5, iv ghs, iv gas, .val (.double gth), .second, .val (.double gta), .second, rv ob, ya, yb, iv gn, .unset, .unset, .unset, .unset, .unset, .unset] [])) := by
  have K1 := Keep.refl hs1 []
  show own_GoW p e below s _ _ _ _ (T.setTop (mkF m 99 #[iv p1, iv p2, iv p3, iv p4, iv p5, iv ghs, iv gas, .val (.double gth), .second, .val (.double gta), .second, rv ob, ya, yb, iv gn, .unset, .unset, .unset, .unset, .unset, .unset] []))
  refine own_goW (fun _ k => XS.iloadN X0.here hx rfl (hb hby at_99) rfl k) ?_
  show own_GoW p e below s _ _ _ _ (T.setTop (mkF m 100 #[iv p1, iv p2, iv p3, iv p4, iv p5, iv ghs, iv gas, .val (.double gth), .second, .val (.double gta), .second, rv ob, ya, yb, iv gn, .unset, .unset, .unset, .unset, .unset, .unset] [(.int p3)]))
  refine own_goW (X0.ldcInt hx hown (mvT hZ (ow56 hw)) (g := (mkF m 100 #[iv p1, iv p2, iv p3, iv p4, iv p5, iv ghs, iv gas, .val (.double gth), .second, .val (.double gta), .second, rv ob, ya, yb, iv gn, .unset, .unset, .unset, .unset, .unset, .unset] [(.int p3)])) rfl (hb hby at_100)) ?_
  show own_GoW p e below s _ _ _ _ (T.setTop (mkF m 102 #[iv p1, iv p2, iv p3, iv p4, iv p5, iv ghs, iv gas, .val (.double gth), .second, .val (.double gta), .second, rv ob, ya, yb, iv gn, .unset, .unset, .unset, .unset, .unset, .unset] [(.int (2147483647 : Int32)), (.int p3)]))
  refine own_goW (fun _ k => XS.iand X0.here hx rfl (hb hby at_102) rfl k) ?_
  show own_GoW p e below s _ _ _ _ (T.setTop (mkF m 103 #[iv p1, iv p2, iv p3, iv p4, iv p5, iv ghs, iv gas, .val (.double gth), .second, .val (.double gta), .second, rv ob, ya, yb, iv gn, .unset, .unset, .unset, .unset, .unset, .unset] [(.int (p3 &&& (2147483647 : Int32)))]))
  refine own_goW (fun _ k => XS.iload X0.here hx rfl (hb hby at_103) rfl k) ?_
  show own_GoW p e below s _ _ _ _ (T.setTop (mkF m 105 #[iv p1, iv p2, iv p3, iv p4, iv p5, iv ghs, iv gas, .val (.double gth), .second, .val (.double gta), .second, rv ob, ya, yb, iv gn, .unset, .unset, .unset, .unset, .unset, .unset] [(.int gn), (.int (p3 &&& (2147483647 : Int32)))]))
  refine own_goW (fun _ k => XS.iconst X0.here hx rfl (hb hby at_105) k) ?_
  show own_GoW p e below s _ _ _ _ (T.setTop (mkF m 106 #[iv p1, iv p2, iv p3, iv p4, iv p5, iv ghs, iv gas, .val (.double gth), .second, .val (.double gta), .second, rv ob, ya, yb, iv gn, .unset, .unset, .unset, .unset, .unset, .unset] [(.int (1 : Int32)), (.int gn), (.int (p3 &&& (2147483647 : Int32)))]))
  refine own_goW (fun _ k => XS.iadd X0.here hx rfl (hb hby at_106) rfl k) ?_
  show own_GoW p e below s _ _ _ _ (T.setTop (mkF m 107 #[iv p1, iv p2, iv p3, iv p4, iv p5, iv ghs, iv gas, .val (.double gth), .second, .val (.double gta), .second, rv ob, ya, yb, iv gn, .unset, .unset, .unset, .unset, .unset, .unset] [(.int (gn + (1 : Int32))), (.int (p3 &&& (2147483647 : Int32)))]))
  refine own_goW (fun _ k => iremM X0 hx rfl (hb hby at_107) rfl (own_Kz hK) k) ?_
  show own_GoW p e below s _ _ _ _ (T.setTop (mkF m 108 #[iv p1, iv p2, iv p3, iv p4, iv p5, iv ghs, iv gas, .val (.double gth), .second, .val (.double gta), .second, rv ob, ya, yb, iv gn, .unset, .unset, .unset, .unset, .unset, .unset] [(.int ((p3 &&& (2147483647 : Int32)) % (gn + (1 : Int32))))]))
  refine own_goW (fun _ k => XS.istore X0.here hx rfl (hb hby at_108) rfl (l' := #[iv p1, iv p2, iv p3, iv p4, iv p5, iv ghs, iv gas, .val (.double gth), .second, .val (.double gta), .second, rv ob, ya, yb, iv gn, iv ((p3 &&& (2147483647 : Int32)) % (gn + (1 : Int32))), .unset, .unset, .unset, .unset, .unset]) rfl k) ?_
  show own_GoW p e below s _ _ _ _ (T.setTop (mkF m 110 #[iv p1, iv p2, iv p3, iv p4, iv p5, iv ghs, iv gas, .val (.double gth), .second, .val (.double gta), .second, rv ob, ya, yb, iv gn, iv ((p3 &&& (2147483647 : Int32)) % (gn + (1 : Int32))), .unset, .unset, .unset, .unset, .unset] []))
  refine own_goW (fun _ k => XS.aload X0.here hx rfl (hb hby at_110) rfl rfl k) ?_
  show own_GoW p e below s _ _ _ _ (T.setTop (mkF m 112 #[iv p1, iv p2, iv p3, iv p4, iv p5, iv ghs, iv gas, .val (.double gth), .second, .val (.double gta), .second, rv ob, ya, yb, iv gn, iv ((p3 &&& (2147483647 : Int32)) % (gn + (1 : Int32))), .unset, .unset, .unset, .unset, .unset] [(.ref ob)]))
  refine own_goW (fun _ k => XS.iload X0.here hx rfl (hb hby at_112) rfl k) ?_
  show own_GoW p e below s _ _ _ _ (T.setTop (mkF m 114 #[iv p1, iv p2, iv p3, iv p4, iv p5, iv ghs, iv gas, .val (.double gth), .second, .val (.double gta), .second, rv ob, ya, yb, iv gn, iv ((p3 &&& (2147483647 : Int32)) % (gn + (1 : Int32))), .unset, .unset, .unset, .unset, .unset] [(.int ((p3 &&& (2147483647 : Int32)) % (gn + (1 : Int32)))), (.ref ob)]))
  refine own_goW (fun _ k => XS.iload X0.here hx rfl (hb hby at_114) rfl k) ?_
  show own_GoW p e below s _ _ _ _ (T.setTop (mkF m 116 #[iv p1, iv p2, iv p3, iv p4, iv p5, iv ghs, iv gas, .val (.double gth), .second, .val (.double gta), .second, rv ob, ya, yb, iv gn, iv ((p3 &&& (2147483647 : Int32)) % (gn + (1 : Int32))), .unset, .unset, .unset, .unset, .unset] [(.int gn), (.int ((p3 &&& (2147483647 : Int32)) % (gn + (1 : Int32)))), (.ref ob)]))
  obtain ⟨v13, T13, L13, X13, hQ13, st13⟩ := own_callV (y := (⟨"com/example/nudo/nudo/VehicleClasses", "meanReactionTime", "(II)D"⟩ : MethodName)) (z := (⟨"com/example/nudo/nudo/VehicleClasses", "meanReactionTime", "(II)D"⟩ : MethodName)) X0 hx hZ hown (ow51 hw) (ow52 hw) (notFace_of_selects (args := #[]) (mvT hZ (ow54 hw))) (ow54 hw) (ow53 hw) (ow4 hw) (ow55 hw) (rm_mean l Z a0 hw [] ob ((p3 &&& (2147483647 : Int32)) % (gn + (1 : Int32))) gn gth gta hs1 O0 (fp1.keep K1 nin0) (fp2.keep K1 nin0) (Or.inr (own_R hT (own_X1 p3 hK)).1)) 0 0 0 (by show _ ≤ 16; omega) (by show _ ≤ 2176; omega) e0 (fp0.keep K1) (g := (mkF m 116 #[iv p1, iv p2, iv p3, iv p4, iv p5, iv ghs, iv gas, .val (.double gth), .second, .val (.double gta), .second, rv ob, ya, yb, iv gn, iv ((p3 &&& (2147483647 : Int32)) % (gn + (1 : Int32))), .unset, .unset, .unset, .unset, .unset] [(.int gn), (.int ((p3 &&& (2147483647 : Int32)) % (gn + (1 : Int32)))), (.ref ob)])) rfl (by rw [hml]; rfl) [(.int ((p3 &&& (2147483647 : Int32)) % (gn + (1 : Int32)))), (.int gn)] [] (lenOf own_pd_4 rfl) rfl rfl (hb hby at_116)
  rcases hQ13 with hQ13 | hQ13
  · obtain ⟨rfl, Nc16, hp14, Kc15⟩ := hQ13
    refine own_goW st13 ?_
    clear st13 X0 e0
    replace N0 := Fr.app N0 Nc16
    clear Nc16
    exact absurd hp14 (own_Xnz (own_X1 p3 hK))
  · obtain ⟨rfl, Nc19, hp17, Kc18⟩ := hQ13
    refine own_goW st13 ?_
    clear st13 X0 e0
    replace N0 := Fr.app N0 Nc19
    clear Nc19
    show own_GoW p e below s _ _ _ _ (T13.setTop (mkF m 119 #[iv p1, iv p2, iv p3, iv p4, iv p5, iv ghs, iv gas, .val (.double gth), .second, .val (.double gta), .second, rv ob, ya, yb, iv gn, iv ((p3 &&& (2147483647 : Int32)) % (gn + (1 : Int32))), .unset, .unset, .unset, .unset, .unset] [(.double (FP.dadd gth (FP.dmul (FP.ddiv (FP.i2d ((p3 &&& (2147483647 : Int32)) % (gn + (1 : Int32)))) (FP.i2d gn)) (FP.dsub gta gth))))]))
    refine own_goW (fun _ k => XS.dstore X13.here hx rfl (hb hby at_119) rfl (l' := #[iv p1, iv p2, iv p3, iv p4, iv p5, iv ghs, iv gas, .val (.double gth), .second, .val (.double gta), .second, rv ob, ya, yb, iv gn, iv ((p3 &&& (2147483647 : Int32)) % (gn + (1 : Int32))), .val (.double (FP.dadd gth (FP.dmul (FP.ddiv (FP.i2d ((p3 &&& (2147483647 : Int32)) % (gn + (1 : Int32)))) (FP.i2d gn)) (FP.dsub gta gth)))), .second, .unset, .unset, .unset]) rfl k) ?_
    show own_GoW p e below s _ _ _ _ (T13.setTop (mkF m 121 #[iv p1, iv p2, iv p3, iv p4, iv p5, iv ghs, iv gas, .val (.double gth), .second, .val (.double gta), .second, rv ob, ya, yb, iv gn, iv ((p3 &&& (2147483647 : Int32)) % (gn + (1 : Int32))), .val (.double (FP.dadd gth (FP.dmul (FP.ddiv (FP.i2d ((p3 &&& (2147483647 : Int32)) % (gn + (1 : Int32)))) (FP.i2d gn)) (FP.dsub gta gth)))), .second, .unset, .unset, .unset] []))
    refine own_goW (fun _ k => XS.iload X13.here hx rfl (hb hby at_121) rfl k) ?_
    show own_GoW p e below s _ _ _ _ (T13.setTop (mkF m 123 #[iv p1, iv p2, iv p3, iv p4, iv p5, iv ghs, iv gas, .val (.double gth), .second, .val (.double gta), .second, rv ob, ya, yb, iv gn, iv ((p3 &&& (2147483647 : Int32)) % (gn + (1 : Int32))), .val (.double (FP.dadd gth (FP.dmul (FP.ddiv (FP.i2d ((p3 &&& (2147483647 : Int32)) % (gn + (1 : Int32)))) (FP.i2d gn)) (FP.dsub gta gth)))), .second, .unset, .unset, .unset] [(.int ghs)]))
    refine own_goW (fun _ k => XS.i2l X13.here hx rfl (hb hby at_123) rfl k) ?_
    show own_GoW p e below s _ _ _ _ (T13.setTop (mkF m 124 #[iv p1, iv p2, iv p3, iv p4, iv p5, iv ghs, iv gas, .val (.double gth), .second, .val (.double gta), .second, rv ob, ya, yb, iv gn, iv ((p3 &&& (2147483647 : Int32)) % (gn + (1 : Int32))), .val (.double (FP.dadd gth (FP.dmul (FP.ddiv (FP.i2d ((p3 &&& (2147483647 : Int32)) % (gn + (1 : Int32)))) (FP.i2d gn)) (FP.dsub gta gth)))), .second, .unset, .unset, .unset] [(.long (ghs.toInt64))]))
    refine own_goW (fun _ k => XS.iload X13.here hx rfl (hb hby at_124) rfl k) ?_
    show own_GoW p e below s _ _ _ _ (T13.setTop (mkF m 126 #[iv p1, iv p2, iv p3, iv p4, iv p5, iv ghs, iv gas, .val (.double gth), .second, .val (.double gta), .second, rv ob, ya, yb, iv gn, iv ((p3 &&& (2147483647 : Int32)) % (gn + (1 : Int32))), .val (.double (FP.dadd gth (FP.dmul (FP.ddiv (FP.i2d ((p3 &&& (2147483647 : Int32)) % (gn + (1 : Int32)))) (FP.i2d gn)) (FP.dsub gta gth)))), .second, .unset, .unset, .unset] [(.int gn), (.long (ghs.toInt64))]))
    refine own_goW (fun _ k => XS.i2l X13.here hx rfl (hb hby at_126) rfl k) ?_
    show own_GoW p e below s _ _ _ _ (T13.setTop (mkF m 127 #[iv p1, iv p2, iv p3, iv p4, iv p5, iv ghs, iv gas, .val (.double gth), .second, .val (.double gta), .second, rv ob, ya, yb, iv gn, iv ((p3 &&& (2147483647 : Int32)) % (gn + (1 : Int32))), .val (.double (FP.dadd gth (FP.dmul (FP.ddiv (FP.i2d ((p3 &&& (2147483647 : Int32)) % (gn + (1 : Int32)))) (FP.i2d gn)) (FP.dsub gta gth)))), .second, .unset, .unset, .unset] [(.long (gn.toInt64)), (.long (ghs.toInt64))]))
    refine own_goW (fun _ k => XS.lmul X13.here hx rfl (hb hby at_127) rfl k) ?_
    show own_GoW p e below s _ _ _ _ (T13.setTop (mkF m 128 #[iv p1, iv p2, iv p3, iv p4, iv p5, iv ghs, iv gas, .val (.double gth), .second, .val (.double gta), .second, rv ob, ya, yb, iv gn, iv ((p3 &&& (2147483647 : Int32)) % (gn + (1 : Int32))), .val (.double (FP.dadd gth (FP.dmul (FP.ddiv (FP.i2d ((p3 &&& (2147483647 : Int32)) % (gn + (1 : Int32)))) (FP.i2d gn)) (FP.dsub gta gth)))), .second, .unset, .unset, .unset] [(.long ((ghs.toInt64) * (gn.toInt64)))]))
    refine own_goW (fun _ k => XS.iload X13.here hx rfl (hb hby at_128) rfl k) ?_
    show own_GoW p e below s _ _ _ _ (T13.setTop (mkF m 130 #[iv p1, iv p2, iv p3, iv p4, iv p5, iv ghs, iv gas, .val (.double gth), .second, .val (.double gta), .second, rv ob, ya, yb, iv gn, iv ((p3 &&& (2147483647 : Int32)) % (gn + (1 : Int32))), .val (.double (FP.dadd gth (FP.dmul (FP.ddiv (FP.i2d ((p3 &&& (2147483647 : Int32)) % (gn + (1 : Int32)))) (FP.i2d gn)) (FP.dsub gta gth)))), .second, .unset, .unset, .unset] [(.int ((p3 &&& (2147483647 : Int32)) % (gn + (1 : Int32)))), (.long ((ghs.toInt64) * (gn.toInt64)))]))
    refine own_goW (fun _ k => XS.i2l X13.here hx rfl (hb hby at_130) rfl k) ?_
    show own_GoW p e below s _ _ _ _ (T13.setTop (mkF m 131 #[iv p1, iv p2, iv p3, iv p4, iv p5, iv ghs, iv gas, .val (.double gth), .second, .val (.double gta), .second, rv ob, ya, yb, iv gn, iv ((p3 &&& (2147483647 : Int32)) % (gn + (1 : Int32))), .val (.double (FP.dadd gth (FP.dmul (FP.ddiv (FP.i2d ((p3 &&& (2147483647 : Int32)) % (gn + (1 : Int32)))) (FP.i2d gn)) (FP.dsub gta gth)))), .second, .unset, .unset, .unset] [(.long (((p3 &&& (2147483647 : Int32)) % (gn + (1 : Int32))).toInt64)), (.long ((ghs.toInt64) * (gn.toInt64)))]))
    refine own_goW (fun _ k => XS.iload X13.here hx rfl (hb hby at_131) rfl k) ?_
    show own_GoW p e below s _ _ _ _ (T13.setTop (mkF m 133 #[iv p1, iv p2, iv p3, iv p4, iv p5, iv ghs, iv gas, .val (.double gth), .second, .val (.double gta), .second, rv ob, ya, yb, iv gn, iv ((p3 &&& (2147483647 : Int32)) % (gn + (1 : Int32))), .val (.double (FP.dadd gth (FP.dmul (FP.ddiv (FP.i2d ((p3 &&& (2147483647 : Int32)) % (gn + (1 : Int32)))) (FP.i2d gn)) (FP.dsub gta gth)))), .second, .unset, .unset, .unset] [(.int gas), (.long (((p3 &&& (2147483647 : Int32)) % (gn + (1 : Int32))).toInt64)), (.long ((ghs.toInt64) * (gn.toInt64)))]))
    refine own_goW (fun _ k => XS.iload X13.here hx rfl (hb hby at_133) rfl k) ?_
    show own_GoW p e below s _ _ _ _ (T13.setTop (mkF m 135 #[iv p1, iv p2, iv p3, iv p4, iv p5, iv ghs, iv gas, .val (.double gth), .second, .val (.double gta), .second, rv ob, ya, yb, iv gn, iv ((p3 &&& (2147483647 : Int32)) % (gn + (1 : Int32))), .val (.double (FP.dadd gth (FP.dmul (FP.ddiv (FP.i2d ((p3 &&& (2147483647 : Int32)) % (gn + (1 : Int32)))) (FP.i2d gn)) (FP.dsub gta gth)))), .second, .unset, .unset, .unset] [(.int ghs), (.int gas), (.long (((p3 &&& (2147483647 : Int32)) % (gn + (1 : Int32))).toInt64)), (.long ((ghs.toInt64) * (gn.toInt64)))]))
    refine own_goW (fun _ k => XS.isub X13.here hx rfl (hb hby at_135) rfl k) ?_
    show own_GoW p e below s _ _ _ _ (T13.setTop (mkF m 136 #[iv p1, iv p2, iv p3, iv p4, iv p5, iv ghs, iv gas, .val (.double gth), .second, .val (.double gta), .second, rv ob, ya, yb, iv gn, iv ((p3 &&& (2147483647 : Int32)) % (gn + (1 : Int32))), .val (.double (FP.dadd gth (FP.dmul (FP.ddiv (FP.i2d ((p3 &&& (2147483647 : Int32)) % (gn + (1 : Int32)))) (FP.i2d gn)) (FP.dsub gta gth)))), .second, .unset, .unset, .unset] [(.int (gas - ghs)), (.long (((p3 &&& (2147483647 : Int32)) % (gn + (1 : Int32))).toInt64)), (.long ((ghs.toInt64) * (gn.toInt64)))]))
    refine own_goW (fun _ k => XS.i2l X13.here hx rfl (hb hby at_136) rfl k) ?_
    show own_GoW p e below s _ _ _ _ (T13.setTop (mkF m 137 #[iv p1, iv p2, iv p3, iv p4, iv p5, iv ghs, iv gas, .val (.double gth), .second, .val (.double gta), .second, rv ob, ya, yb, iv gn, iv ((p3 &&& (2147483647 : Int32)) % (gn + (1 : Int32))), .val (.double (FP.dadd gth (FP.dmul (FP.ddiv (FP.i2d ((p3 &&& (2147483647 : Int32)) % (gn + (1 : Int32)))) (FP.i2d gn)) (FP.dsub gta gth)))), .second, .unset, .unset, .unset] [(.long ((gas - ghs).toInt64)), (.long (((p3 &&& (2147483647 : Int32)) % (gn + (1 : Int32))).toInt64)), (.long ((ghs.toInt64) * (gn.toInt64)))]))
    refine own_goW (fun _ k => XS.lmul X13.here hx rfl (hb hby at_137) rfl k) ?_
    show own_GoW p e below s _ _ _ _ (T13.setTop (mkF m 138 #[iv p1, iv p2, iv p3, iv p4, iv p5, iv ghs, iv gas, .val (.double gth), .second, .val (.double gta), .second, rv ob, ya, yb, iv gn, iv ((p3 &&& (2147483647 : Int32)) % (gn + (1 : Int32))), .val (.double (FP.dadd gth (FP.dmul (FP.ddiv (FP.i2d ((p3 &&& (2147483647 : Int32)) % (gn + (1 : Int32)))) (FP.i2d gn)) (FP.dsub gta gth)))), .second, .unset, .unset, .unset] [(.long ((((p3 &&& (2147483647 : Int32)) % (gn + (1 : Int32))).toInt64) * ((gas - ghs).toInt64))), (.long ((ghs.toInt64) * (gn.toInt64)))]))
    refine own_goW (fun _ k => XS.ladd X13.here hx rfl (hb hby at_138) rfl k) ?_
    show own_GoW p e below s _ _ _ _ (T13.setTop (mkF m 139 #[iv p1, iv p2, iv p3, iv p4, iv p5, iv ghs, iv gas, .val (.double gth), .second, .val (.double gta), .second, rv ob, ya, yb, iv gn, iv ((p3 &&& (2147483647 : Int32)) % (gn + (1 : Int32))), .val (.double (FP.dadd gth (FP.dmul (FP.ddiv (FP.i2d ((p3 &&& (2147483647 : Int32)) % (gn + (1 : Int32)))) (FP.i2d gn)) (FP.dsub gta gth)))), .second, .unset, .unset, .unset] [(.long (((ghs.toInt64) * (gn.toInt64)) + ((((p3 &&& (2147483647 : Int32)) % (gn + (1 : Int32))).toInt64) * ((gas - ghs).toInt64))))]))
    refine own_goW (fun _ k => XS.lstore X13.here hx rfl (hb hby at_139) rfl (l' := #[iv p1, iv p2, iv p3, iv p4, iv p5, iv ghs, iv gas, .val (.double gth), .second, .val (.double gta), .second, rv ob, ya, yb, iv gn, iv ((p3 &&& (2147483647 : Int32)) % (gn + (1 : Int32))), .val (.double (FP.dadd gth (FP.dmul (FP.ddiv (FP.i2d ((p3 &&& (2147483647 : Int32)) % (gn + (1 : Int32)))) (FP.i2d gn)) (FP.dsub gta gth)))), .second, .val (.long (((ghs.toInt64) * (gn.toInt64)) + ((((p3 &&& (2147483647 : Int32)) % (gn + (1 : Int32))).toInt64) * ((gas - ghs).toInt64)))), .second, .unset]) rfl k) ?_
    show own_GoW p e below s _ _ _ _ (T13.setTop (mkF m 141 #[iv p1, iv p2, iv p3, iv p4, iv p5, iv ghs, iv gas, .val (.double gth), .second, .val (.double gta), .second, rv ob, ya, yb, iv gn, iv ((p3 &&& (2147483647 : Int32)) % (gn + (1 : Int32))), .val (.double (FP.dadd gth (FP.dmul (FP.ddiv (FP.i2d ((p3 &&& (2147483647 : Int32)) % (gn + (1 : Int32)))) (FP.i2d gn)) (FP.dsub gta gth)))), .second, .val (.long (((ghs.toInt64) * (gn.toInt64)) + ((((p3 &&& (2147483647 : Int32)) % (gn + (1 : Int32))).toInt64) * ((gas - ghs).toInt64)))), .second, .unset] []))
    refine own_goW (fun _ k => XS.dload X13.here hx rfl (hb hby at_141) rfl k) ?_
    show own_GoW p e below s _ _ _ _ (T13.setTop (mkF m 143 #[iv p1, iv p2, iv p3, iv p4, iv p5, iv ghs, iv gas, .val (.double gth), .second, .val (.double gta), .second, rv ob, ya, yb, iv gn, iv ((p3 &&& (2147483647 : Int32)) % (gn + (1 : Int32))), .val (.double (FP.dadd gth (FP.dmul (FP.ddiv (FP.i2d ((p3 &&& (2147483647 : Int32)) % (gn + (1 : Int32)))) (FP.i2d gn)) (FP.dsub gta gth)))), .second, .val (.long (((ghs.toInt64) * (gn.toInt64)) + ((((p3 &&& (2147483647 : Int32)) % (gn + (1 : Int32))).toInt64) * ((gas - ghs).toInt64)))), .second, .unset] [(.double (FP.dadd gth (FP.dmul (FP.ddiv (FP.i2d ((p3 &&& (2147483647 : Int32)) % (gn + (1 : Int32)))) (FP.i2d gn)) (FP.dsub gta gth))))]))
    refine own_goW (X13.ldc2DoubleC hx hown (mvT hZ (ow1 hw)) (g := (mkF m 143 #[iv p1, iv p2, iv p3, iv p4, iv p5, iv ghs, iv gas, .val (.double gth), .second, .val (.double gta), .second, rv ob, ya, yb, iv gn, iv ((p3 &&& (2147483647 : Int32)) % (gn + (1 : Int32))), .val (.double (FP.dadd gth (FP.dmul (FP.ddiv (FP.i2d ((p3 &&& (2147483647 : Int32)) % (gn + (1 : Int32)))) (FP.i2d gn)) (FP.dsub gta gth)))), .second, .val (.long (((ghs.toInt64) * (gn.toInt64)) + ((((p3 &&& (2147483647 : Int32)) % (gn + (1 : Int32))).toInt64) * ((gas - ghs).toInt64)))), .second, .unset] [(.double (FP.dadd gth (FP.dmul (FP.ddiv (FP.i2d ((p3 &&& (2147483647 : Int32)) % (gn + (1 : Int32)))) (FP.i2d gn)) (FP.dsub gta gth))))])) rfl (hb hby at_143)) ?_
    show own_GoW p e below s _ _ _ _ (T13.setTop (mkF m 146 #[iv p1, iv p2, iv p3, iv p4, iv p5, iv ghs, iv gas, .val (.double gth), .second, .val (.double gta), .second, rv ob, ya, yb, iv gn, iv ((p3 &&& (2147483647 : Int32)) % (gn + (1 : Int32))), .val (.double (FP.dadd gth (FP.dmul (FP.ddiv (FP.i2d ((p3 &&& (2147483647 : Int32)) % (gn + (1 : Int32)))) (FP.i2d gn)) (FP.dsub gta gth)))), .second, .val (.long (((ghs.toInt64) * (gn.toInt64)) + ((((p3 &&& (2147483647 : Int32)) % (gn + (1 : Int32))).toInt64) * ((gas - ghs).toInt64)))), .second, .unset] [(.double (4643211215818981376 : UInt64)), (.double (FP.dadd gth (FP.dmul (FP.ddiv (FP.i2d ((p3 &&& (2147483647 : Int32)) % (gn + (1 : Int32)))) (FP.i2d gn)) (FP.dsub gta gth))))]))
    refine own_goW (fun _ k => XS.dmulS X13.here hx rfl (hb hby at_146) rfl (own_s1 hT (own_X1 p3 hK) hK).1 rfl k) ?_
    show own_GoW p e below s _ _ _ _ (T13.setTop (mkF m 147 #[iv p1, iv p2, iv p3, iv p4, iv p5, iv ghs, iv gas, .val (.double gth), .second, .val (.double gta), .second, rv ob, ya, yb, iv gn, iv ((p3 &&& (2147483647 : Int32)) % (gn + (1 : Int32))), .val (.double (FP.dadd gth (FP.dmul (FP.ddiv (FP.i2d ((p3 &&& (2147483647 : Int32)) % (gn + (1 : Int32)))) (FP.i2d gn)) (FP.dsub gta gth)))), .second, .val (.long (((ghs.toInt64) * (gn.toInt64)) + ((((p3 &&& (2147483647 : Int32)) % (gn + (1 : Int32))).toInt64) * ((gas - ghs).toInt64)))), .second, .unset] [(.double (FP.dmul (FP.dadd gth (FP.dmul (FP.ddiv (FP.i2d ((p3 &&& (2147483647 : Int32)) % (gn + (1 : Int32)))) (FP.i2d gn)) (FP.dsub gta gth))) (4643211215818981376 : UInt64)))]))
    refine own_goW (fun _ k => XS.iload X13.here hx rfl (hb hby at_147) rfl k) ?_
    show own_GoW p e below s _ _ _ _ (T13.setTop (mkF m 149 #[iv p1, iv p2, iv p3, iv p4, iv p5, iv ghs, iv gas, .val (.double gth), .second, .val (.double gta), .second, rv ob, ya, yb, iv gn, iv ((p3 &&& (2147483647 : Int32)) % (gn + (1 : Int32))), .val (.double (FP.dadd gth (FP.dmul (FP.ddiv (FP.i2d ((p3 &&& (2147483647 : Int32)) % (gn + (1 : Int32)))) (FP.i2d gn)) (FP.dsub gta gth)))), .second, .val (.long (((ghs.toInt64) * (gn.toInt64)) + ((((p3 &&& (2147483647 : Int32)) % (gn + (1 : Int32))).toInt64) * ((gas - ghs).toInt64)))), .second, .unset] [(.int gn), (.double (FP.dmul (FP.dadd gth (FP.dmul (FP.ddiv (FP.i2d ((p3 &&& (2147483647 : Int32)) % (gn + (1 : Int32)))) (FP.i2d gn)) (FP.dsub gta gth))) (4643211215818981376 : UInt64)))]))
    refine own_goW (fun _ k => XS.i2dS X13.here hx rfl (hb hby at_149) rfl rfl k) ?_
    show own_GoW p e below s _ _ _ _ (T13.setTop (mkF m 150 #[iv p1, iv p2, iv p3, iv p4, iv p5, iv ghs, iv gas, .val (.double gth), .second, .val (.double gta), .second, rv ob, ya, yb, iv gn, iv ((p3 &&& (2147483647 : Int32)) % (gn + (1 : Int32))), .val (.double (FP.dadd gth (FP.dmul (FP.ddiv (FP.i2d ((p3 &&& (2147483647 : Int32)) % (gn + (1 : Int32)))) (FP.i2d gn)) (FP.dsub gta gth)))), .second, .val (.long (((ghs.toInt64) * (gn.toInt64)) + ((((p3 &&& (2147483647 : Int32)) % (gn + (1 : Int32))).toInt64) * ((gas - ghs).toInt64)))), .second, .unset] [(.double (FP.i2d gn)), (.double (FP.dmul (FP.dadd gth (FP.dmul (FP.ddiv (FP.i2d ((p3 &&& (2147483647 : Int32)) % (gn + (1 : Int32)))) (FP.i2d gn)) (FP.dsub gta gth))) (4643211215818981376 : UInt64)))]))
    refine own_goW (fun _ k => XS.dmulS X13.here hx rfl (hb hby at_150) rfl (own_s1 hT (own_X1 p3 hK) hK).2.1 rfl k) ?_
    show own_GoW p e below s _ _ _ _ (T13.setTop (mkF m 151 #[iv p1, iv p2, iv p3, iv p4, iv p5, iv ghs, iv gas, .val (.double gth), .second, .val (.double gta), .second, rv ob, ya, yb, iv gn, iv ((p3 &&& (2147483647 : Int32)) % (gn + (1 : Int32))), .val (.double (FP.dadd gth (FP.dmul (FP.ddiv (FP.i2d ((p3 &&& (2147483647 : Int32)) % (gn + (1 : Int32)))) (FP.i2d gn)) (FP.dsub gta gth)))), .second, .val (.long (((ghs.toInt64) * (gn.toInt64)) + ((((p3 &&& (2147483647 : Int32)) % (gn + (1 : Int32))).toInt64) * ((gas - ghs).toInt64)))), .second, .unset] [(.double (FP.dmul (FP.dmul (FP.dadd gth (FP.dmul (FP.ddiv (FP.i2d ((p3 &&& (2147483647 : Int32)) % (gn + (1 : Int32)))) (FP.i2d gn)) (FP.dsub gta gth))) (4643211215818981376 : UInt64)) (FP.i2d gn)))]))
    refine own_goW (fun _ k => XS.lload X13.here hx rfl (hb hby at_151) rfl k) ?_
    show own_GoW p e below s _ _ _ _ (T13.setTop (mkF m 153 #[iv p1, iv p2, iv p3, iv p4, iv p5, iv ghs, iv gas, .val (.double gth), .second, .val (.double gta), .second, rv ob, ya, yb, iv gn, iv ((p3 &&& (2147483647 : Int32)) % (gn + (1 : Int32))), .val (.double (FP.dadd gth (FP.dmul (FP.ddiv (FP.i2d ((p3 &&& (2147483647 : Int32)) % (gn + (1 : Int32)))) (FP.i2d gn)) (FP.dsub gta gth)))), .second, .val (.long (((ghs.toInt64) * (gn.toInt64)) + ((((p3 &&& (2147483647 : Int32)) % (gn + (1 : Int32))).toInt64) * ((gas - ghs).toInt64)))), .second, .unset] [(.long (((ghs.toInt64) * (gn.toInt64)) + ((((p3 &&& (2147483647 : Int32)) % (gn + (1 : Int32))).toInt64) * ((gas - ghs).toInt64)))), (.double (FP.dmul (FP.dmul (FP.dadd gth (FP.dmul (FP.ddiv (FP.i2d ((p3 &&& (2147483647 : Int32)) % (gn + (1 : Int32)))) (FP.i2d gn)) (FP.dsub gta gth))) (4643211215818981376 : UInt64)) (FP.i2d gn)))]))
    refine own_goW (fun _ k => XS.l2dS X13.here hx rfl (hb hby at_153) rfl rfl k) ?_
    show own_GoW p e below s _ _ _ _ (T13.setTop (mkF m 154 #[iv p1, iv p2, iv p3, iv p4, iv p5, iv ghs, iv gas, .val (.double gth), .second, .val (.double gta), .second, rv ob, ya, yb, iv gn, iv ((p3 &&& (2147483647 : Int32)) % (gn + (1 : Int32))), .val (.double (FP.dadd gth (FP.dmul (FP.ddiv (FP.i2d ((p3 &&& (2147483647 : Int32)) % (gn + (1 : Int32)))) (FP.i2d gn)) (FP.dsub gta gth)))), .second, .val (.long (((ghs.toInt64) * (gn.toInt64)) + ((((p3 &&& (2147483647 : Int32)) % (gn + (1 : Int32))).toInt64) * ((gas - ghs).toInt64)))), .second, .unset] [(.double (FP.l2d (((ghs.toInt64) * (gn.toInt64)) + ((((p3 &&& (2147483647 : Int32)) % (gn + (1 : Int32))).toInt64) * ((gas - ghs).toInt64))))), (.double (FP.dmul (FP.dmul (FP.dadd gth (FP.dmul (FP.ddiv (FP.i2d ((p3 &&& (2147483647 : Int32)) % (gn + (1 : Int32)))) (FP.i2d gn)) (FP.dsub gta gth))) (4643211215818981376 : UInt64)) (FP.i2d gn)))]))
    refine own_goW (fun _ k => XS.dcmpS X13.here hx rfl (hb hby at_154) rfl rfl k) ?_
    show own_GoW p e below s _ _ _ _ (T13.setTop (mkF m 155 #[iv p1, iv p2, iv p3, iv p4, iv p5, iv ghs, iv gas, .val (.double gth), .second, .val (.double gta), .second, rv ob, ya, yb, iv gn, iv ((p3 &&& (2147483647 : Int32)) % (gn + (1 : Int32))), .val (.double (FP.dadd gth (FP.dmul (FP.ddiv (FP.i2d ((p3 &&& (2147483647 : Int32)) % (gn + (1 : Int32)))) (FP.i2d gn)) (FP.dsub gta gth)))), .second, .val (.long (((ghs.toInt64) * (gn.toInt64)) + ((((p3 &&& (2147483647 : Int32)) % (gn + (1 : Int32))).toInt64) * ((gas - ghs).toInt64)))), .second, .unset] [(.int (cmpValue (FP.dcmp (FP.dmul (FP.dmul (FP.dadd gth (FP.dmul (FP.ddiv (FP.i2d ((p3 &&& (2147483647 : Int32)) % (gn + (1 : Int32)))) (FP.i2d gn)) (FP.dsub gta gth))) (4643211215818981376 : UInt64)) (FP.i2d gn)) (FP.l2d (((ghs.toInt64) * (gn.toInt64)) + ((((p3 &&& (2147483647 : Int32)) % (gn + (1 : Int32))).toInt64) * ((gas - ghs).toInt64))))) .l))]))
    refine own_goW (fun _ k => XS.ifNo X13.here hx rfl (hb hby at_155) rfl ((if0 _ _).trans (teq (own_s1 hT (own_X1 p3 hK) hK).2.2).2) k) ?_
    show own_GoW p e below s _ _ _ _ (T13.setTop (mkF m 158 #[iv p1, iv p2, iv p3, iv p4, iv p5, iv ghs, iv gas, .val (.double gth), .second, .val (.double gta), .second, rv ob, ya, yb, iv gn, iv ((p3 &&& (2147483647 : Int32)) % (gn + (1 : Int32))), .val (.double (FP.dadd gth (FP.dmul (FP.ddiv (FP.i2d ((p3 &&& (2147483647 : Int32)) % (gn + (1 : Int32)))) (FP.i2d gn)) (FP.dsub gta gth)))), .second, .val (.long (((ghs.toInt64) * (gn.toInt64)) + ((((p3 &&& (2147483647 : Int32)) % (gn + (1 : Int32))).toInt64) * ((gas - ghs).toInt64)))), .second, .unset] []))
    refine own_goW (fun _ k => XS.iconst X13.here hx rfl (hb hby at_158) k) ?_
    show own_GoW p e below s _ _ _ _ (T13.setTop (mkF m 159 #[iv p1, iv p2, iv p3, iv p4, iv p5, iv ghs, iv gas, .val (.double gth), .second, .val (.double gta), .second, rv ob, ya, yb, iv gn, iv ((p3 &&& (2147483647 : Int32)) % (gn + (1 : Int32))), .val (.double (FP.dadd gth (FP.dmul (FP.ddiv (FP.i2d ((p3 &&& (2147483647 : Int32)) % (gn + (1 : Int32)))) (FP.i2d gn)) (FP.dsub gta gth)))), .second, .val (.long (((ghs.toInt64) * (gn.toInt64)) + ((((p3 &&& (2147483647 : Int32)) % (gn + (1 : Int32))).toInt64) * ((gas - ghs).toInt64)))), .second, .unset] [(.int (1 : Int32))]))
    refine own_goW (fun _ k => XS.goto X13.here hx rfl (pc0 := 159) (pc' := 163) rfl (hb hby at_159) (by decide) (by decide) k) ?_
    show own_GoW p e below s _ _ _ _ (T13.setTop (mkF m 163 #[iv p1, iv p2, iv p3, iv p4, iv p5, iv ghs, iv gas, .val (.double gth), .second, .val (.double gta), .second, rv ob, ya, yb, iv gn, iv ((p3 &&& (2147483647 : Int32)) % (gn + (1 : Int32))), .val (.double (FP.dadd gth (FP.dmul (FP.ddiv (FP.i2d ((p3 &&& (2147483647 : Int32)) % (gn + (1 : Int32)))) (FP.i2d gn)) (FP.dsub gta gth)))), .second, .val (.long (((ghs.toInt64) * (gn.toInt64)) + ((((p3 &&& (2147483647 : Int32)) % (gn + (1 : Int32))).toInt64) * ((gas - ghs).toInt64)))), .second, .unset] [(.int (1 : Int32))]))
    refine own_retNW X13 hS hL hZ hJ hx hlk Kc18 (t := .boolean) hret (by simp) (hb hby at_163) (by show _ ≤ 16; omega) (by show _ ≤ 2176; omega) ?_
    exact ⟨rfl, N0, K0⟩
set_option maxRecDepth 65536 in
set_option maxHeartbeats 40000000 in
theorem sg_s48 {l : Launch} {Z : State} {a0 : Array Value} (hw : ∀ d ∈ tables_1, d.before a0 Z = true) {p : Program} {e : Env} {s : State} {vm0 : Vm} {m : MethodId} {args : Array Value} {below : List Frame} {meth : Method} {c : Code} {T : State} {locs : List Loc} {cells slots : Nat} (p1 : Int32) (p2 : Int32) (p3 : Int32) (p4 : Int32) (p5 : Int32) (ghs : Int32) (gas : Int32) (gth : UInt64) (gta : UInt64) (ob : Addr) (h0 hs1 : Heap)
    (X0 : Stand p l e room_1 (s.setVm vm0) m args below meth c T locs cells slots) (hS : s.Since vm0 hs1.size) (hL : own_L Z a0) (hJ : own_J Z vm0 hs1) (hx : p.tables.exec = Jvm.exec) (hby : c.code = code) (hml : c.maxLocals = 21) (hret : meth.sig.returnType = some .boolean) (hlk : meth.locks = false) (hZ : Z.Warmed39 (s.setVm vm0).vm) (hown : (s.setVm vm0).vm.findClass "com/example/nudo/nudo/VehicleClassesMeanReactionTimePinLaw" = some m.cls) (hnm : meth.name = "law") (e0 : T.heap = hs1) (N0 : Fr Z.heap.size locs) (O0 : Ext Z.heap hs1) (K0 : Keep h0 hs1 []) (fp0 : Exa Z hs1 ob "com/example/nudo/nudo/VehicleClasses") (fp1 : Fld Z hs1 ob "com/example/nudo/nudo/VehicleClasses" "humanReactionTime" "D" (.double gth)) (fp2 : Fld Z hs1 ob "com/example/nudo/nudo/VehicleClasses" "automatedReactionTime" "D" (.double gta)) (hT : own_T ghs gas gth gta) (hcells : cells ≤ 16) (hslots : slots ≤ 2176) :
    own_GoW p e below s Z (Q_law Z p1 p2 p3 p4 p5 h0) room_1.cells room_1.slots (T.setTop (mkF m 48 #[iv p1, iv p2, iv p3, iv p4, iv p5, iv ghs, iv gas, .val (.double gth), .second, .val (.double gta), .second, rv ob, .unset, .unset, .unset, .unset, .unset, .unset, .unset, .unset, .unset] [])) := by
  have K1 := Keep.refl hs1 []
  show own_GoW p e below s _ _ _ _ (T.setTop (mkF m 48 #[iv p1, iv p2, iv p3, iv p4, iv p5, iv ghs, iv gas, .val (.double gth), .second, .val (.double gta), .second, rv ob, .unset, .unset, .unset, .unset, .unset, .unset, .unset, .unset, .unset] []))
  refine own_goW (fun _ k => XS.iload X0.here hx rfl (hb hby at_48) rfl k) ?_
  show own_GoW p e below s _ _ _ _ (T.setTop (mkF m 50 #[iv p1, iv p2, iv p3, iv p4, iv p5, iv ghs, iv gas, .val (.double gth), .second, .val (.double gta), .second, rv ob, .unset, .unset, .unset, .unset, .unset, .unset, .unset, .unset, .unset] [(.int p5)]))
  refine own_goW (fun _ k => XS.iconst X0.here hx rfl (hb hby at_50) k) ?_
  show own_GoW p e below s _ _ _ _ (T.setTop (mkF m 51 #[iv p1, iv p2, iv p3, iv p4, iv p5, iv ghs, iv gas, .val (.double gth), .second, .val (.double gta), .second, rv ob, .unset, .unset, .unset, .unset, .unset, .unset, .unset, .unset, .unset] [(.int (3 : Int32)), (.int p5)]))
  refine own_goW (fun _ k => XS.iand X0.here hx rfl (hb hby at_51) rfl k) ?_
  show own_GoW p e below s _ _ _ _ (T.setTop (mkF m 52 #[iv p1, iv p2, iv p3, iv p4, iv p5, iv ghs, iv gas, .val (.double gth), .second, .val (.double gta), .second, rv ob, .unset, .unset, .unset, .unset, .unset, .unset, .unset, .unset, .unset] [(.int (p5 &&& (3 : Int32)))]))
  refine own_goW (fun _ k => XS.istore X0.here hx rfl (hb hby at_52) rfl (l' := #[iv p1, iv p2, iv p3, iv p4, iv p5, iv ghs, iv gas, .val (.double gth), .second, .val (.double gta), .second, rv ob, iv (p5 &&& (3 : Int32)), .unset, .unset, .unset, .unset, .unset, .unset, .unset, .unset]) rfl k) ?_
  show own_GoW p e below s _ _ _ _ (T.setTop (mkF m 54 #[iv p1, iv p2, iv p3, iv p4, iv p5, iv ghs, iv gas, .val (.double gth), .second, .val (.double gta), .second, rv ob, iv (p5 &&& (3 : Int32)), .unset, .unset, .unset, .unset, .unset, .unset, .unset, .unset] []))
  refine own_goW (fun _ k => XS.iload X0.here hx rfl (hb hby at_54) rfl k) ?_
  show own_GoW p e below s _ _ _ _ (T.setTop (mkF m 56 #[iv p1, iv p2, iv p3, iv p4, iv p5, iv ghs, iv gas, .val (.double gth), .second, .val (.double gta), .second, rv ob, iv (p5 &&& (3 : Int32)), .unset, .unset, .unset, .unset, .unset, .unset, .unset, .unset] [(.int (p5 &&& (3 : Int32)))]))
  by_cases hc20 : (p5 &&& (3 : Int32)) = (0 : Int32)
  · refine own_goW (fun _ k => XS.ifNo X0.here hx rfl (hb hby at_56) rfl ((if0 _ _).trans (teq hc20).2) k) ?_
    show own_GoW p e below s _ _ _ _ (T.setTop (mkF m 59 #[iv p1, iv p2, iv p3, iv p4, iv p5, iv ghs, iv gas, .val (.double gth), .second, .val (.double gta), .second, rv ob, iv (p5 &&& (3 : Int32)), .unset, .unset, .unset, .unset, .unset, .unset, .unset, .unset] []))
    refine own_goW (fun _ k => XS.aload X0.here hx rfl (hb hby at_59) rfl rfl k) ?_
    show own_GoW p e below s _ _ _ _ (T.setTop (mkF m 61 #[iv p1, iv p2, iv p3, iv p4, iv p5, iv ghs, iv gas, .val (.double gth), .second, .val (.double gta), .second, rv ob, iv (p5 &&& (3 : Int32)), .unset, .unset, .unset, .unset, .unset, .unset, .unset, .unset] [(.ref ob)]))
    refine own_goW (fun _ k => XS.iconst X0.here hx rfl (hb hby at_61) k) ?_
    show own_GoW p e below s _ _ _ _ (T.setTop (mkF m 62 #[iv p1, iv p2, iv p3, iv p4, iv p5, iv ghs, iv gas, .val (.double gth), .second, .val (.double gta), .second, rv ob, iv (p5 &&& (3 : Int32)), .unset, .unset, .unset, .unset, .unset, .unset, .unset, .unset] [(.int (0 : Int32)), (.ref ob)]))
    refine own_goW (fun _ k => XS.iconst X0.here hx rfl (hb hby at_62) k) ?_
    show own_GoW p e below s _ _ _ _ (T.setTop (mkF m 63 #[iv p1, iv p2, iv p3, iv p4, iv p5, iv ghs, iv gas, .val (.double gth), .second, .val (.double gta), .second, rv ob, iv (p5 &&& (3 : Int32)), .unset, .unset, .unset, .unset, .unset, .unset, .unset, .unset] [(.int (0 : Int32)), (.int (0 : Int32)), (.ref ob)]))
    obtain ⟨v21, T21, L21, X21, hQ21, st21⟩ := own_callV (y := (⟨"com/example/nudo/nudo/VehicleClasses", "meanReactionTime", "(II)D"⟩ : MethodName)) (z := (⟨"com/example/nudo/nudo/VehicleClasses", "meanReactionTime", "(II)D"⟩ : MethodName)) X0 hx hZ hown (ow51 hw) (ow52 hw) (notFace_of_selects (args := #[]) (mvT hZ (ow54 hw))) (ow54 hw) (ow53 hw) (ow4 hw) (ow55 hw) (rm_mean l Z a0 hw [] ob (0 : Int32) (0 : Int32) gth gta hs1 O0 (fp1.keep K1 nin0) (fp2.keep K1 nin0) (Or.inl rfl)) 0 0 0 (by show _ ≤ 16; omega) (by show _ ≤ 2176; omega) e0 (fp0.keep K1) (g := (mkF m 63 #[iv p1, iv p2, iv p3, iv p4, iv p5, iv ghs, iv gas, .val (.double gth), .second, .val (.double gta), .second, rv ob, iv (p5 &&& (3 : Int32)), .unset, .unset, .unset, .unset, .unset, .unset, .unset, .unset] [(.int (0 : Int32)), (.int (0 : Int32)), (.ref ob)])) rfl (by rw [hml]; rfl) [(.int (0 : Int32)), (.int (0 : Int32))] [] (lenOf own_pd_4 rfl) rfl rfl (hb hby at_63)
    rcases hQ21 with hQ21 | hQ21
    · obtain ⟨rfl, Nc24, hp22, Kc23⟩ := hQ21
      refine own_goW st21 ?_
      clear st21 X0 e0
      replace N0 := Fr.app N0 Nc24
      clear Nc24
      show own_GoW p e below s _ _ _ _ (T21.setTop (mkF m 66 #[iv p1, iv p2, iv p3, iv p4, iv p5, iv ghs, iv gas, .val (.double gth), .second, .val (.double gta), .second, rv ob, iv (p5 &&& (3 : Int32)), .unset, .unset, .unset, .unset, .unset, .unset, .unset, .unset] [(.double gth)]))
      refine own_goW (fun _ k => XS.dload X21.here hx rfl (hb hby at_66) rfl k) ?_
      show own_GoW p e below s _ _ _ _ (T21.setTop (mkF m 68 #[iv p1, iv p2, iv p3, iv p4, iv p5, iv ghs, iv gas, .val (.double gth), .second, .val (.double gta), .second, rv ob, iv (p5 &&& (3 : Int32)), .unset, .unset, .unset, .unset, .unset, .unset, .unset, .unset] [(.double gth), (.double gth)]))
      refine own_goW (fun _ k => XS.dcmpS X21.here hx rfl (hb hby at_68) rfl rfl k) ?_
      show own_GoW p e below s _ _ _ _ (T21.setTop (mkF m 69 #[iv p1, iv p2, iv p3, iv p4, iv p5, iv ghs, iv gas, .val (.double gth), .second, .val (.double gta), .second, rv ob, iv (p5 &&& (3 : Int32)), .unset, .unset, .unset, .unset, .unset, .unset, .unset, .unset] [(.int (cmpValue (FP.dcmp gth gth) .l))]))
      refine own_goW (fun _ k => XS.ifNo X21.here hx rfl (hb hby at_69) rfl ((if0 _ _).trans (teq (own_self hT)).2) k) ?_
      show own_GoW p e below s _ _ _ _ (T21.setTop (mkF m 72 #[iv p1, iv p2, iv p3, iv p4, iv p5, iv ghs, iv gas, .val (.double gth), .second, .val (.double gta), .second, rv ob, iv (p5 &&& (3 : Int32)), .unset, .unset, .unset, .unset, .unset, .unset, .unset, .unset] []))
      refine own_goW (fun _ k => XS.iconst X21.here hx rfl (hb hby at_72) k) ?_
      show own_GoW p e below s _ _ _ _ (T21.setTop (mkF m 73 #[iv p1, iv p2, iv p3, iv p4, iv p5, iv ghs, iv gas, .val (.double gth), .second, .val (.double gta), .second, rv ob, iv (p5 &&& (3 : Int32)), .unset, .unset, .unset, .unset, .unset, .unset, .unset, .unset] [(.int (1 : Int32))]))
      refine own_goW (fun _ k => XS.goto X21.here hx rfl (pc0 := 73) (pc' := 77) rfl (hb hby at_73) (by decide) (by decide) k) ?_
      show own_GoW p e below s _ _ _ _ (T21.setTop (mkF m 77 #[iv p1, iv p2, iv p3, iv p4, iv p5, iv ghs, iv gas, .val (.double gth), .second, .val (.double gta), .second, rv ob, iv (p5 &&& (3 : Int32)), .unset, .unset, .unset, .unset, .unset, .unset, .unset, .unset] [(.int (1 : Int32))]))
      refine own_retNW X21 hS hL hZ hJ hx hlk Kc23 (t := .boolean) hret (by simp) (hb hby at_77) (by show _ ≤ 16; omega) (by show _ ≤ 2176; omega) ?_
      exact ⟨rfl, N0, K0⟩
    · obtain ⟨rfl, Nc27, hp25, Kc26⟩ := hQ21
      refine own_goW st21 ?_
      clear st21 X0 e0
      replace N0 := Fr.app N0 Nc27
      clear Nc27
      exact absurd (by decide : (0 : Int32) = (0 : Int32)) hp25
  · refine own_goW (fun _ k => XS.ifYes X0.here hx rfl (pc0 := 56) (pc' := 78) rfl (hb hby at_56) rfl ((if0 _ _).trans (feq hc20).2) (by decide) (by decide) k) ?_
    show own_GoW p e below s _ _ _ _ (T.setTop (mkF m 78 #[iv p1, iv p2, iv p3, iv p4, iv p5, iv ghs, iv gas, .val (.double gth), .second, .val (.double gta), .second, rv ob, iv (p5 &&& (3 : Int32)), .unset, .unset, .unset, .unset, .unset, .unset, .unset, .unset] []))
    refine own_goW (fun _ k => XS.iload X0.here hx rfl (hb hby at_78) rfl k) ?_
    show own_GoW p e below s _ _ _ _ (T.setTop (mkF m 80 #[iv p1, iv p2, iv p3, iv p4, iv p5, iv ghs, iv gas, .val (.double gth), .second, .val (.double gta), .second, rv ob, iv (p5 &&& (3 : Int32)), .unset, .unset, .unset, .unset, .unset, .unset, .unset, .unset] [(.int (p5 &&& (3 : Int32)))]))
    refine own_goW (fun _ k => XS.iconst X0.here hx rfl (hb hby at_80) k) ?_
    show own_GoW p e below s _ _ _ _ (T.setTop (mkF m 81 #[iv p1, iv p2, iv p3, iv p4, iv p5, iv ghs, iv gas, .val (.double gth), .second, .val (.double gta), .second, rv ob, iv (p5 &&& (3 : Int32)), .unset, .unset, .unset, .unset, .unset, .unset, .unset, .unset] [(.int (1 : Int32)), (.int (p5 &&& (3 : Int32)))]))
    by_cases hc28 : (p5 &&& (3 : Int32)) = (1 : Int32)
    · refine own_goW (fun _ k => XS.icmpNo X0.here hx rfl (hb hby at_81) rfl (teq hc28).2 k) ?_
      show own_GoW p e below s _ _ _ _ (T.setTop (mkF m 84 #[iv p1, iv p2, iv p3, iv p4, iv p5, iv ghs, iv gas, .val (.double gth), .second, .val (.double gta), .second, rv ob, iv (p5 &&& (3 : Int32)), .unset, .unset, .unset, .unset, .unset, .unset, .unset, .unset] []))
      refine own_goW (fun _ k => XS.iloadN X0.here hx rfl (hb hby at_84) rfl k) ?_
      show own_GoW p e below s _ _ _ _ (T.setTop (mkF m 85 #[iv p1, iv p2, iv p3, iv p4, iv p5, iv ghs, iv gas, .val (.double gth), .second, .val (.double gta), .second, rv ob, iv (p5 &&& (3 : Int32)), .unset, .unset, .unset, .unset, .unset, .unset, .unset, .unset] [(.int p4)]))
      refine own_goW (X0.ldcInt hx hown (mvT hZ (ow56 hw)) (g := (mkF m 85 #[iv p1, iv p2, iv p3, iv p4, iv p5, iv ghs, iv gas, .val (.double gth), .second, .val (.double gta), .second, rv ob, iv (p5 &&& (3 : Int32)), .unset, .unset, .unset, .unset, .unset, .unset, .unset, .unset] [(.int p4)])) rfl (hb hby at_85)) ?_
      show own_GoW p e below s _ _ _ _ (T.setTop (mkF m 87 #[iv p1, iv p2, iv p3, iv p4, iv p5, iv ghs, iv gas, .val (.double gth), .second, .val (.double gta), .second, rv ob, iv (p5 &&& (3 : Int32)), .unset, .unset, .unset, .unset, .unset, .unset, .unset, .unset] [(.int (2147483647 : Int32)), (.int p4)]))
      refine own_goW (fun _ k => XS.iand X0.here hx rfl (hb hby at_87) rfl k) ?_
      show own_GoW p e below s _ _ _ _ (T.setTop (mkF m 88 #[iv p1, iv p2, iv p3, iv p4, iv p5, iv ghs, iv gas, .val (.double gth), .second, .val (.double gta), .second, rv ob, iv (p5 &&& (3 : Int32)), .unset, .unset, .unset, .unset, .unset, .unset, .unset, .unset] [(.int (p4 &&& (2147483647 : Int32)))]))
      refine own_goW (fun _ k => XS.bipush X0.here hx rfl (hb hby at_88) k) ?_
      show own_GoW p e below s _ _ _ _ (T.setTop (mkF m 90 #[iv p1, iv p2, iv p3, iv p4, iv p5, iv ghs, iv gas, .val (.double gth), .second, .val (.double gta), .second, rv ob, iv (p5 &&& (3 : Int32)), .unset, .unset, .unset, .unset, .unset, .unset, .unset, .unset] [(.int (31 : Int32)), (.int (p4 &&& (2147483647 : Int32)))]))
      refine own_goW (fun _ k => iremM X0 hx rfl (hb hby at_90) rfl (by decide : ¬ ((31 : Int32) = (0 : Int32))) k) ?_
      show own_GoW p e below s _ _ _ _ (T.setTop (mkF m 91 #[iv p1, iv p2, iv p3, iv p4, iv p5, iv ghs, iv gas, .val (.double gth), .second, .val (.double gta), .second, rv ob, iv (p5 &&& (3 : Int32)), .unset, .unset, .unset, .unset, .unset, .unset, .unset, .unset] [(.int ((p4 &&& (2147483647 : Int32)) % (31 : Int32)))]))
      refine own_goW (fun _ k => XS.istore X0.here hx rfl (hb hby at_91) rfl (l' := #[iv p1, iv p2, iv p3, iv p4, iv p5, iv ghs, iv gas, .val (.double gth), .second, .val (.double gta), .second, rv ob, iv (p5 &&& (3 : Int32)), iv ((p4 &&& (2147483647 : Int32)) % (31 : Int32)), .unset, .unset, .unset, .unset, .unset, .unset, .unset]) rfl k) ?_
      show own_GoW p e below s _ _ _ _ (T.setTop (mkF m 93 #[iv p1, iv p2, iv p3, iv p4, iv p5, iv ghs, iv gas, .val (.double gth), .second, .val (.double gta), .second, rv ob, iv (p5 &&& (3 : Int32)), iv ((p4 &&& (2147483647 : Int32)) % (31 : Int32)), .unset, .unset, .unset, .unset, .unset, .unset, .unset] []))
      refine own_goW (fun _ k => XS.iconst X0.here hx rfl (hb hby at_93) k) ?_
      show own_GoW p e below s _ _ _ _ (T.setTop (mkF m 94 #[iv p1, iv p2, iv p3, iv p4, iv p5, iv ghs, iv gas, .val (.double gth), .second, .val (.double gta), .second, rv ob, iv (p5 &&& (3 : Int32)), iv ((p4 &&& (2147483647 : Int32)) % (31 : Int32)), .unset, .unset, .unset, .unset, .unset, .unset, .unset] [(.int (1 : Int32))]))
      refine own_goW (fun _ k => XS.iload X0.here hx rfl (hb hby at_94) rfl k) ?_
      show own_GoW p e below s _ _ _ _ (T.setTop (mkF m 96 #[iv p1, iv p2, iv p3, iv p4, iv p5, iv ghs, iv gas, .val (.double gth), .second, .val (.double gta), .second, rv ob, iv (p5 &&& (3 : Int32)), iv ((p4 &&& (2147483647 : Int32)) % (31 : Int32)), .unset, .unset, .unset, .unset, .unset, .unset, .unset] [(.int ((p4 &&& (2147483647 : Int32)) % (31 : Int32))), (.int (1 : Int32))]))
      refine own_goW (fun _ k => XS.ishl X0.here hx rfl (hb hby at_96) rfl k) ?_
      show own_GoW p e below s _ _ _ _ (T.setTop (mkF m 97 #[iv p1, iv p2, iv p3, iv p4, iv p5, iv ghs, iv gas, .val (.double gth), .second, .val (.double gta), .second, rv ob, iv (p5 &&& (3 : Int32)), iv ((p4 &&& (2147483647 : Int32)) % (31 : Int32)), .unset, .unset, .unset, .unset, .unset, .unset, .unset] [(.int ((1 : Int32) <<< (((p4 &&& (2147483647 : Int32)) % (31 : Int32)) &&& 31)))]))
      refine own_goW (fun _ k => XS.istore X0.here hx rfl (hb hby at_97) rfl (l' := #[iv p1, iv p2, iv p3, iv p4, iv p5, iv ghs, iv gas, .val (.double gth), .second, .val (.double gta), .second, rv ob, iv (p5 &&& (3 : Int32)), iv ((p4 &&& (2147483647 : Int32)) % (31 : Int32)), iv ((1 : Int32) <<< (((p4 &&& (2147483647 : Int32)) % (31 : Int32)) &&& 31)), .unset, .unset, .unset, .unset, .unset, .unset]) rfl k) ?_
      show own_GoW p e below s _ _ _ _ (T.setTop (mkF m 99 #[iv p1, iv p2, iv p3, iv p4, iv p5, iv ghs, iv gas, .val (.double gth), .second, .val (.double gta), .second, rv ob, iv (p5 &&& (3 : Int32)), iv ((p4 &&& (2147483647 : Int32)) % (31 : Int32)), iv ((1 : Int32) <<< (((p4 &&& (2147483647 : Int32)) % (31 : Int32)) &&& 31)), .unset, .unset, .unset, .unset, .unset, .unset] []))
      exact sg_s99 hw p1 p2 p3 p4 p5 ghs gas gth gta ob (iv (p5 &&& (3 : Int32)) : Slot) (iv ((p4 &&& (2147483647 : Int32)) % (31 : Int32)) : Slot) ((1 : Int32) <<< (((p4 &&& (2147483647 : Int32)) % (31 : Int32)) &&& 31)) h0 hs1 X0 hS hL hJ hx hby hml hret hlk hZ hown hnm e0 N0 O0 K0 (fp0.keep K1) (fp1.keep K1 nin0) (fp2.keep K1 nin0) hT (own_Kmk p4) (by omega) (by omega)
    · refine own_goW (fun _ k => XS.icmpYes X0.here hx rfl (pc0 := 81) (pc' := 164) rfl (hb hby at_81) rfl (feq hc28).2 (by decide) (by decide) k) ?_
      show own_GoW p e below s _ _ _ _ (T.setTop (mkF m 164 #[iv p1, iv p2, iv p3, iv p4, iv p5, iv ghs, iv gas, .val (.double gth), .second, .val (.double gta), .second, rv ob, iv (p5 &&& (3 : Int32)), .unset, .unset, .unset, .unset, .unset, .unset, .unset, .unset] []))
      refine own_goW (fun _ k => XS.iconst X0.here hx rfl (hb hby at_164) k) ?_
      show own_GoW p e below s _ _ _ _ (T.setTop (mkF m 165 #[iv p1, iv p2, iv p3, iv p4, iv p5, iv ghs, iv gas, .val (.double gth), .second, .val (.double gta), .second, rv ob, iv (p5 &&& (3 : Int32)), .unset, .unset, .unset, .unset, .unset, .unset, .unset, .unset] [(.int (1 : Int32))]))
      refine own_goW (fun _ k => XS.iloadN X0.here hx rfl (hb hby at_165) rfl k) ?_
      show own_GoW p e below s _ _ _ _ (T.setTop (mkF m 166 #[iv p1, iv p2, iv p3, iv p4, iv p5, iv ghs, iv gas, .val (.double gth), .second, .val (.double gta), .second, rv ob, iv (p5 &&& (3 : Int32)), .unset, .unset, .unset, .unset, .unset, .unset, .unset, .unset] [(.int p4), (.int (1 : Int32))]))
      refine own_goW (X0.ldcInt hx hown (mvT hZ (ow56 hw)) (g := (mkF m 166 #[iv p1, iv p2, iv p3, iv p4, iv p5, iv ghs, iv gas, .val (.double gth), .second, .val (.double gta), .second, rv ob, iv (p5 &&& (3 : Int32)), .unset, .unset, .unset, .unset, .unset, .unset, .unset, .unset] [(.int p4), (.int (1 : Int32))])) rfl (hb hby at_166)) ?_
      show own_GoW p e below s _ _ _ _ (T.setTop (mkF m 168 #[iv p1, iv p2, iv p3, iv p4, iv p5, iv ghs, iv gas, .val (.double gth), .second, .val (.double gta), .second, rv ob, iv (p5 &&& (3 : Int32)), .unset, .unset, .unset, .unset, .unset, .unset, .unset, .unset] [(.int (2147483647 : Int32)), (.int p4), (.int (1 : Int32))]))
      refine own_goW (fun _ k => XS.iand X0.here hx rfl (hb hby at_168) rfl k) ?_
      show own_GoW p e below s _ _ _ _ (T.setTop (mkF m 169 #[iv p1, iv p2, iv p3, iv p4, iv p5, iv ghs, iv gas, .val (.double gth), .second, .val (.double gta), .second, rv ob, iv (p5 &&& (3 : Int32)), .unset, .unset, .unset, .unset, .unset, .unset, .unset, .unset] [(.int (p4 &&& (2147483647 : Int32))), (.int (1 : Int32))]))
      obtain ⟨v29, T29, L29, X29, hQ29, st29⟩ := own_callS (y := (⟨"java/lang/Math", "max", "(II)I"⟩ : MethodName)) X0 hx hZ hown (ow57 hw) (ow58 hw) (ow29 hw) (ow59 hw) (rm_maxi l Z a0 hw [] (1 : Int32) (p4 &&& (2147483647 : Int32)) hs1 O0) 0 0 0 (by show _ ≤ 16; omega) (by show _ ≤ 2176; omega) e0 (g := (mkF m 169 #[iv p1, iv p2, iv p3, iv p4, iv p5, iv ghs, iv gas, .val (.double gth), .second, .val (.double gta), .second, rv ob, iv (p5 &&& (3 : Int32)), .unset, .unset, .unset, .unset, .unset, .unset, .unset, .unset] [(.int (p4 &&& (2147483647 : Int32))), (.int (1 : Int32))])) rfl (by rw [hml]; rfl) [(.int (1 : Int32)), (.int (p4 &&& (2147483647 : Int32)))] [] (lenOf own_pd_5 rfl) rfl rfl (hb hby at_169)
      rcases hQ29 with hQ29 | hQ29
      · obtain ⟨rfl, Nc32, hp30, Kc31⟩ := hQ29
        refine own_goW st29 ?_
        clear st29 X0 e0
        replace N0 := Fr.app N0 Nc32
        clear Nc32
        show own_GoW p e below s _ _ _ _ (T29.setTop (mkF m 172 #[iv p1, iv p2, iv p3, iv p4, iv p5, iv ghs, iv gas, .val (.double gth), .second, .val (.double gta), .second, rv ob, iv (p5 &&& (3 : Int32)), .unset, .unset, .unset, .unset, .unset, .unset, .unset, .unset] [(.int (p4 &&& (2147483647 : Int32)))]))
        refine own_goW (fun _ k => XS.istore X29.here hx rfl (hb hby at_172) rfl (l' := #[iv p1, iv p2, iv p3, iv p4, iv p5, iv ghs, iv gas, .val (.double gth), .second, .val (.double gta), .second, rv ob, iv (p5 &&& (3 : Int32)), iv (p4 &&& (2147483647 : Int32)), .unset, .unset, .unset, .unset, .unset, .unset, .unset]) rfl k) ?_
        show own_GoW p e below s _ _ _ _ (T29.setTop (mkF m 174 #[iv p1, iv p2, iv p3, iv p4, iv p5, iv ghs, iv gas, .val (.double gth), .second, .val (.double gta), .second, rv ob, iv (p5 &&& (3 : Int32)), iv (p4 &&& (2147483647 : Int32)), .unset, .unset, .unset, .unset, .unset, .unset, .unset] []))
        refine own_goW (fun _ k => XS.iload X29.here hx rfl (hb hby at_174) rfl k) ?_
        show own_GoW p e below s _ _ _ _ (T29.setTop (mkF m 176 #[iv p1, iv p2, iv p3, iv p4, iv p5, iv ghs, iv gas, .val (.double gth), .second, .val (.double gta), .second, rv ob, iv (p5 &&& (3 : Int32)), iv (p4 &&& (2147483647 : Int32)), .unset, .unset, .unset, .unset, .unset, .unset, .unset] [(.int (p5 &&& (3 : Int32)))]))
        refine own_goW (fun _ k => XS.iconst X29.here hx rfl (hb hby at_176) k) ?_
        show own_GoW p e below s _ _ _ _ (T29.setTop (mkF m 177 #[iv p1, iv p2, iv p3, iv p4, iv p5, iv ghs, iv gas, .val (.double gth), .second, .val (.double gta), .second, rv ob, iv (p5 &&& (3 : Int32)), iv (p4 &&& (2147483647 : Int32)), .unset, .unset, .unset, .unset, .unset, .unset, .unset] [(.int (2 : Int32)), (.int (p5 &&& (3 : Int32)))]))
        by_cases hc33 : (p5 &&& (3 : Int32)) = (2 : Int32)
        · refine own_goW (fun _ k => XS.icmpNo X29.here hx rfl (hb hby at_177) rfl (teq hc33).2 k) ?_
          show own_GoW p e below s _ _ _ _ (T29.setTop (mkF m 180 #[iv p1, iv p2, iv p3, iv p4, iv p5, iv ghs, iv gas, .val (.double gth), .second, .val (.double gta), .second, rv ob, iv (p5 &&& (3 : Int32)), iv (p4 &&& (2147483647 : Int32)), .unset, .unset, .unset, .unset, .unset, .unset, .unset] []))
          refine own_goW (fun _ k => XS.iloadN X29.here hx rfl (hb hby at_180) rfl k) ?_
          show own_GoW p e below s _ _ _ _ (T29.setTop (mkF m 181 #[iv p1, iv p2, iv p3, iv p4, iv p5, iv ghs, iv gas, .val (.double gth), .second, .val (.double gta), .second, rv ob, iv (p5 &&& (3 : Int32)), iv (p4 &&& (2147483647 : Int32)), .unset, .unset, .unset, .unset, .unset, .unset, .unset] [(.int p3)]))
          refine own_goW (fun _ k => XS.i2l X29.here hx rfl (hb hby at_181) rfl k) ?_
          show own_GoW p e below s _ _ _ _ (T29.setTop (mkF m 182 #[iv p1, iv p2, iv p3, iv p4, iv p5, iv ghs, iv gas, .val (.double gth), .second, .val (.double gta), .second, rv ob, iv (p5 &&& (3 : Int32)), iv (p4 &&& (2147483647 : Int32)), .unset, .unset, .unset, .unset, .unset, .unset, .unset] [(.long (p3.toInt64))]))
          refine own_goW (X29.ldc2Long hx hown (mvT hZ (ow60 hw)) (g := (mkF m 182 #[iv p1, iv p2, iv p3, iv p4, iv p5, iv ghs, iv gas, .val (.double gth), .second, .val (.double gta), .second, rv ob, iv (p5 &&& (3 : Int32)), iv (p4 &&& (2147483647 : Int32)), .unset, .unset, .unset, .unset, .unset, .unset, .unset] [(.long (p3.toInt64))])) rfl (hb hby at_182)) ?_
          show own_GoW p e below s _ _ _ _ (T29.setTop (mkF m 185 #[iv p1, iv p2, iv p3, iv p4, iv p5, iv ghs, iv gas, .val (.double gth), .second, .val (.double gta), .second, rv ob, iv (p5 &&& (3 : Int32)), iv (p4 &&& (2147483647 : Int32)), .unset, .unset, .unset, .unset, .unset, .unset, .unset] [(.long (2147483647 : Int64)), (.long (p3.toInt64))]))
          refine own_goW (fun _ k => XS.land X29.here hx rfl (hb hby at_185) rfl k) ?_
          show own_GoW p e below s _ _ _ _ (T29.setTop (mkF m 186 #[iv p1, iv p2, iv p3, iv p4, iv p5, iv ghs, iv gas, .val (.double gth), .second, .val (.double gta), .second, rv ob, iv (p5 &&& (3 : Int32)), iv (p4 &&& (2147483647 : Int32)), .unset, .unset, .unset, .unset, .unset, .unset, .unset] [(.long ((p3.toInt64) &&& (2147483647 : Int64)))]))
          refine own_goW (fun _ k => XS.iload X29.here hx rfl (hb hby at_186) rfl k) ?_
          show own_GoW p e below s _ _ _ _ (T29.setTop (mkF m 188 #[iv p1, iv p2, iv p3, iv p4, iv p5, iv ghs, iv gas, .val (.double gth), .second, .val (.double gta), .second, rv ob, iv (p5 &&& (3 : Int32)), iv (p4 &&& (2147483647 : Int32)), .unset, .unset, .unset, .unset, .unset, .unset, .unset] [(.int (p4 &&& (2147483647 : Int32))), (.long ((p3.toInt64) &&& (2147483647 : Int64)))]))
          refine own_goW (fun _ k => XS.i2l X29.here hx rfl (hb hby at_188) rfl k) ?_
          show own_GoW p e below s _ _ _ _ (T29.setTop (mkF m 189 #[iv p1, iv p2, iv p3, iv p4, iv p5, iv ghs, iv gas, .val (.double gth), .second, .val (.double gta), .second, rv ob, iv (p5 &&& (3 : Int32)), iv (p4 &&& (2147483647 : Int32)), .unset, .unset, .unset, .unset, .unset, .unset, .unset] [(.long ((p4 &&& (2147483647 : Int32)).toInt64)), (.long ((p3.toInt64) &&& (2147483647 : Int64)))]))
          refine own_goW (fun _ k => XS.lconst X29.here hx rfl (hb hby at_189) k) ?_
          show own_GoW p e below s _ _ _ _ (T29.setTop (mkF m 190 #[iv p1, iv p2, iv p3, iv p4, iv p5, iv ghs, iv gas, .val (.double gth), .second, .val (.double gta), .second, rv ob, iv (p5 &&& (3 : Int32)), iv (p4 &&& (2147483647 : Int32)), .unset, .unset, .unset, .unset, .unset, .unset, .unset] [(.long (1 : Int64)), (.long ((p4 &&& (2147483647 : Int32)).toInt64)), (.long ((p3.toInt64) &&& (2147483647 : Int64)))]))
          refine own_goW (fun _ k => XS.ladd X29.here hx rfl (hb hby at_190) rfl k) ?_
          show own_GoW p e below s _ _ _ _ (T29.setTop (mkF m 191 #[iv p1, iv p2, iv p3, iv p4, iv p5, iv ghs, iv gas, .val (.double gth), .second, .val (.double gta), .second, rv ob, iv (p5 &&& (3 : Int32)), iv (p4 &&& (2147483647 : Int32)), .unset, .unset, .unset, .unset, .unset, .unset, .unset] [(.long (((p4 &&& (2147483647 : Int32)).toInt64) + (1 : Int64))), (.long ((p3.toInt64) &&& (2147483647 : Int64)))]))
          refine own_goW (fun _ k => XS.lrem X29.here hx rfl (hb hby at_191) rfl (own_ny (own_1lt hp30)) k) ?_
          show own_GoW p e below s _ _ _ _ (T29.setTop (mkF m 192 #[iv p1, iv p2, iv p3, iv p4, iv p5, iv ghs, iv gas, .val (.double gth), .second, .val (.double gta), .second, rv ob, iv (p5 &&& (3 : Int32)), iv (p4 &&& (2147483647 : Int32)), .unset, .unset, .unset, .unset, .unset, .unset, .unset] [(.long (((p3.toInt64) &&& (2147483647 : Int64)) - (((p3.toInt64) &&& (2147483647 : Int64)) / (((p4 &&& (2147483647 : Int32)).toInt64) + (1 : Int64))) * (((p4 &&& (2147483647 : Int32)).toInt64) + (1 : Int64))))]))
          refine own_goW (fun _ k => XS.l2i X29.here hx rfl (hb hby at_192) rfl k) ?_
          show own_GoW p e below s _ _ _ _ (T29.setTop (mkF m 193 #[iv p1, iv p2, iv p3, iv p4, iv p5, iv ghs, iv gas, .val (.double gth), .second, .val (.double gta), .second, rv ob, iv (p5 &&& (3 : Int32)), iv (p4 &&& (2147483647 : Int32)), .unset, .unset, .unset, .unset, .unset, .unset, .unset] [(.int ((((p3.toInt64) &&& (2147483647 : Int64)) - (((p3.toInt64) &&& (2147483647 : Int64)) / (((p4 &&& (2147483647 : Int32)).toInt64) + (1 : Int64))) * (((p4 &&& (2147483647 : Int32)).toInt64) + (1 : Int64))).toInt32))]))
          refine own_goW (fun _ k => XS.istore X29.here hx rfl (hb hby at_193) rfl (l' := #[iv p1, iv p2, iv p3, iv p4, iv p5, iv ghs, iv gas, .val (.double gth), .second, .val (.double gta), .second, rv ob, iv (p5 &&& (3 : Int32)), iv (p4 &&& (2147483647 : Int32)), iv ((((p3.toInt64) &&& (2147483647 : Int64)) - (((p3.toInt64) &&& (2147483647 : Int64)) / (((p4 &&& (2147483647 : Int32)).toInt64) + (1 : Int64))) * (((p4 &&& (2147483647 : Int32)).toInt64) + (1 : Int64))).toInt32), .unset, .unset, .unset, .unset, .unset, .unset]) rfl k) ?_
          show own_GoW p e below s _ _ _ _ (T29.setTop (mkF m 195 #[iv p1, iv p2, iv p3, iv p4, iv p5, iv ghs, iv gas, .val (.double gth), .second, .val (.double gta), .second, rv ob, iv (p5 &&& (3 : Int32)), iv (p4 &&& (2147483647 : Int32)), iv ((((p3.toInt64) &&& (2147483647 : Int64)) - (((p3.toInt64) &&& (2147483647 : Int64)) / (((p4 &&& (2147483647 : Int32)).toInt64) + (1 : Int64))) * (((p4 &&& (2147483647 : Int32)).toInt64) + (1 : Int64))).toInt32), .unset, .unset, .unset, .unset, .unset, .unset] []))
          refine own_goW (fun _ k => XS.goto X29.here hx rfl (pc0 := 195) (pc' := 215) rfl (hb hby at_195) (by decide) (by decide) k) ?_
          show own_GoW p e below s _ _ _ _ (T29.setTop (mkF m 215 #[iv p1, iv p2, iv p3, iv p4, iv p5, iv ghs, iv gas, .val (.double gth), .second, .val (.double gta), .second, rv ob, iv (p5 &&& (3 : Int32)), iv (p4 &&& (2147483647 : Int32)), iv ((((p3.toInt64) &&& (2147483647 : Int64)) - (((p3.toInt64) &&& (2147483647 : Int64)) / (((p4 &&& (2147483647 : Int32)).toInt64) + (1 : Int64))) * (((p4 &&& (2147483647 : Int32)).toInt64) + (1 : Int64))).toInt32), .unset, .unset, .unset, .unset, .unset, .unset] []))
          exact sg_s215 hw p1 p2 p3 p4 p5 ghs gas gth gta ob (iv (p5 &&& (3 : Int32)) : Slot) (p4 &&& (2147483647 : Int32)) ((((p3.toInt64) &&& (2147483647 : Int64)) - (((p3.toInt64) &&& (2147483647 : Int64)) / (((p4 &&& (2147483647 : Int32)).toInt64) + (1 : Int64))) * (((p4 &&& (2147483647 : Int32)).toInt64) + (1 : Int64))).toInt32) h0 hs1 X29 hS hL hJ hx hby hml hret hlk hZ hown hnm Kc31 N0 O0 K0 (fp0.keep K1) (fp1.keep K1 nin0) (fp2.keep K1 nin0) hT (own_X2 p3 (own_1lt hp30)) (by omega) (by omega)
        · refine own_goW (fun _ k => XS.icmpYes X29.here hx rfl (pc0 := 177) (pc' := 198) rfl (hb hby at_177) rfl (feq hc33).2 (by decide) (by decide) k) ?_
          show own_GoW p e below s _ _ _ _ (T29.setTop (mkF m 198 #[iv p1, iv p2, iv p3, iv p4, iv p5, iv ghs, iv gas, .val (.double gth), .second, .val (.double gta), .second, rv ob, iv (p5 &&& (3 : Int32)), iv (p4 &&& (2147483647 : Int32)), .unset, .unset, .unset, .unset, .unset, .unset, .unset] []))
          refine own_goW (fun _ k => XS.iload X29.here hx rfl (hb hby at_198) rfl k) ?_
          show own_GoW p e below s _ _ _ _ (T29.setTop (mkF m 200 #[iv p1, iv p2, iv p3, iv p4, iv p5, iv ghs, iv gas, .val (.double gth), .second, .val (.double gta), .second, rv ob, iv (p5 &&& (3 : Int32)), iv (p4 &&& (2147483647 : Int32)), .unset, .unset, .unset, .unset, .unset, .unset, .unset] [(.int p5)]))
          refine own_goW (fun _ k => XS.iconst X29.here hx rfl (hb hby at_200) k) ?_
          show own_GoW p e below s _ _ _ _ (T29.setTop (mkF m 201 #[iv p1, iv p2, iv p3, iv p4, iv p5, iv ghs, iv gas, .val (.double gth), .second, .val (.double gta), .second, rv ob, iv (p5 &&& (3 : Int32)), iv (p4 &&& (2147483647 : Int32)), .unset, .unset, .unset, .unset, .unset, .unset, .unset] [(.int (2 : Int32)), (.int p5)]))
          refine own_goW (fun _ k => XS.ishr X29.here hx rfl (hb hby at_201) rfl k) ?_
          show own_GoW p e below s _ _ _ _ (T29.setTop (mkF m 202 #[iv p1, iv p2, iv p3, iv p4, iv p5, iv ghs, iv gas, .val (.double gth), .second, .val (.double gta), .second, rv ob, iv (p5 &&& (3 : Int32)), iv (p4 &&& (2147483647 : Int32)), .unset, .unset, .unset, .unset, .unset, .unset, .unset] [(.int (p5 >>> ((2 : Int32) &&& 31)))]))
          refine own_goW (fun _ k => XS.iconst X29.here hx rfl (hb hby at_202) k) ?_
          show own_GoW p e below s _ _ _ _ (T29.setTop (mkF m 203 #[iv p1, iv p2, iv p3, iv p4, iv p5, iv ghs, iv gas, .val (.double gth), .second, .val (.double gta), .second, rv ob, iv (p5 &&& (3 : Int32)), iv (p4 &&& (2147483647 : Int32)), .unset, .unset, .unset, .unset, .unset, .unset, .unset] [(.int (1 : Int32)), (.int (p5 >>> ((2 : Int32) &&& 31)))]))
          refine own_goW (fun _ k => XS.iand X29.here hx rfl (hb hby at_203) rfl k) ?_
          show own_GoW p e below s _ _ _ _ (T29.setTop (mkF m 204 #[iv p1, iv p2, iv p3, iv p4, iv p5, iv ghs, iv gas, .val (.double gth), .second, .val (.double gta), .second, rv ob, iv (p5 &&& (3 : Int32)), iv (p4 &&& (2147483647 : Int32)), .unset, .unset, .unset, .unset, .unset, .unset, .unset] [(.int ((p5 >>> ((2 : Int32) &&& 31)) &&& (1 : Int32)))]))
          by_cases hc34 : ((p5 >>> ((2 : Int32) &&& 31)) &&& (1 : Int32)) = (0 : Int32)
          · refine own_goW (fun _ k => XS.ifNo X29.here hx rfl (hb hby at_204) rfl ((if0 _ _).trans (teq hc34).2) k) ?_
            show own_GoW p e below s _ _ _ _ (T29.setTop (mkF m 207 #[iv p1, iv p2, iv p3, iv p4, iv p5, iv ghs, iv gas, .val (.double gth), .second, .val (.double gta), .second, rv ob, iv (p5 &&& (3 : Int32)), iv (p4 &&& (2147483647 : Int32)), .unset, .unset, .unset, .unset, .unset, .unset, .unset] []))
            refine own_goW (fun _ k => XS.iconst X29.here hx rfl (hb hby at_207) k) ?_
            show own_GoW p e below s _ _ _ _ (T29.setTop (mkF m 208 #[iv p1, iv p2, iv p3, iv p4, iv p5, iv ghs, iv gas, .val (.double gth), .second, .val (.double gta), .second, rv ob, iv (p5 &&& (3 : Int32)), iv (p4 &&& (2147483647 : Int32)), .unset, .unset, .unset, .unset, .unset, .unset, .unset] [(.int (0 : Int32))]))
            refine own_goW (fun _ k => XS.goto X29.here hx rfl (pc0 := 208) (pc' := 213) rfl (hb hby at_208) (by decide) (by decide) k) ?_
            show own_GoW p e below s _ _ _ _ (T29.setTop (mkF m 213 #[iv p1, iv p2, iv p3, iv p4, iv p5, iv ghs, iv gas, .val (.double gth), .second, .val (.double gta), .second, rv ob, iv (p5 &&& (3 : Int32)), iv (p4 &&& (2147483647 : Int32)), .unset, .unset, .unset, .unset, .unset, .unset, .unset] [(.int (0 : Int32))]))
            refine own_goW (fun _ k => XS.istore X29.here hx rfl (hb hby at_213) rfl (l' := #[iv p1, iv p2, iv p3, iv p4, iv p5, iv ghs, iv gas, .val (.double gth), .second, .val (.double gta), .second, rv ob, iv (p5 &&& (3 : Int32)), iv (p4 &&& (2147483647 : Int32)), iv (0 : Int32), .unset, .unset, .unset, .unset, .unset, .unset]) rfl k) ?_
            show own_GoW p e below s _ _ _ _ (T29.setTop (mkF m 215 #[iv p1, iv p2, iv p3, iv p4, iv p5, iv ghs, iv gas, .val (.double gth), .second, .val (.double gta), .second, rv ob, iv (p5 &&& (3 : Int32)), iv (p4 &&& (2147483647 : Int32)), iv (0 : Int32), .unset, .unset, .unset, .unset, .unset, .unset] []))
            exact sg_s215 hw p1 p2 p3 p4 p5 ghs gas gth gta ob (iv (p5 &&& (3 : Int32)) : Slot) (p4 &&& (2147483647 : Int32)) (0 : Int32) h0 hs1 X29 hS hL hJ hx hby hml hret hlk hZ hown hnm Kc31 N0 O0 K0 (fp0.keep K1) (fp1.keep K1 nin0) (fp2.keep K1 nin0) hT (own_X0 (own_1lt hp30)) (by omega) (by omega)
          · refine own_goW (fun _ k => XS.ifYes X29.here hx rfl (pc0 := 204) (pc' := 211) rfl (hb hby at_204) rfl ((if0 _ _).trans (feq hc34).2) (by decide) (by decide) k) ?_
            show own_GoW p e below s _ _ _ _ (T29.setTop (mkF m 211 #[iv p1, iv p2, iv p3, iv p4, iv p5, iv ghs, iv gas, .val (.double gth), .second, .val (.double gta), .second, rv ob, iv (p5 &&& (3 : Int32)), iv (p4 &&& (2147483647 : Int32)), .unset, .unset, .unset, .unset, .unset, .unset, .unset] []))
            refine own_goW (fun _ k => XS.iload X29.here hx rfl (hb hby at_211) rfl k) ?_
            show own_GoW p e below s _ _ _ _ (T29.setTop (mkF m 213 #[iv p1, iv p2, iv p3, iv p4, iv p5, iv ghs, iv gas, .val (.double gth), .second, .val (.double gta), .second, rv ob, iv (p5 &&& (3 : Int32)), iv (p4 &&& (2147483647 : Int32)), .unset, .unset, .unset, .unset, .unset, .unset, .unset] [(.int (p4 &&& (2147483647 : Int32)))]))
            refine own_goW (fun _ k => XS.istore X29.here hx rfl (hb hby at_213) rfl (l' := #[iv p1, iv p2, iv p3, iv p4, iv p5, iv ghs, iv gas, .val (.double gth), .second, .val (.double gta), .second, rv ob, iv (p5 &&& (3 : Int32)), iv (p4 &&& (2147483647 : Int32)), iv (p4 &&& (2147483647 : Int32)), .unset, .unset, .unset, .unset, .unset, .unset]) rfl k) ?_
            show own_GoW p e below s _ _ _ _ (T29.setTop (mkF m 215 #[iv p1, iv p2, iv p3, iv p4, iv p5, iv ghs, iv gas, .val (.double gth), .second, .val (.double gta), .second, rv ob, iv (p5 &&& (3 : Int32)), iv (p4 &&& (2147483647 : Int32)), iv (p4 &&& (2147483647 : Int32)), .unset, .unset, .unset, .unset, .unset, .unset] []))
            exact sg_s215 hw p1 p2 p3 p4 p5 ghs gas gth gta ob (iv (p5 &&& (3 : Int32)) : Slot) (p4 &&& (2147483647 : Int32)) (p4 &&& (2147483647 : Int32)) h0 hs1 X29 hS hL hJ hx hby hml hret hlk hZ hown hnm Kc31 N0 O0 K0 (fp0.keep K1) (fp1.keep K1 nin0) (fp2.keep K1 nin0) hT (own_Xn (own_1lt hp30)) (by omega) (by omega)
      · obtain ⟨rfl, Nc37, hp35, Kc36⟩ := hQ29
        refine own_goW st29 ?_
        clear st29 X0 e0
        replace N0 := Fr.app N0 Nc37
        clear Nc37
        show own_GoW p e below s _ _ _ _ (T29.setTop (mkF m 172 #[iv p1, iv p2, iv p3, iv p4, iv p5, iv ghs, iv gas, .val (.double gth), .second, .val (.double gta), .second, rv ob, iv (p5 &&& (3 : Int32)), .unset, .unset, .unset, .unset, .unset, .unset, .unset, .unset] [(.int (1 : Int32))]))
        refine own_goW (fun _ k => XS.istore X29.here hx rfl (hb hby at_172) rfl (l' := #[iv p1, iv p2, iv p3, iv p4, iv p5, iv ghs, iv gas, .val (.double gth), .second, .val (.double gta), .second, rv ob, iv (p5 &&& (3 : Int32)), iv (1 : Int32), .unset, .unset, .unset, .unset, .unset, .unset, .unset]) rfl k) ?_
        show own_GoW p e below s _ _ _ _ (T29.setTop (mkF m 174 #[iv p1, iv p2, iv p3, iv p4, iv p5, iv ghs, iv gas, .val (.double gth), .second, .val (.double gta), .second, rv ob, iv (p5 &&& (3 : Int32)), iv (1 : Int32), .unset, .unset, .unset, .unset, .unset, .unset, .unset] []))
        refine own_goW (fun _ k => XS.iload X29.here hx rfl (hb hby at_174) rfl k) ?_
        show own_GoW p e below s _ _ _ _ (T29.setTop (mkF m 176 #[iv p1, iv p2, iv p3, iv p4, iv p5, iv ghs, iv gas, .val (.double gth), .second, .val (.double gta), .second, rv ob, iv (p5 &&& (3 : Int32)), iv (1 : Int32), .unset, .unset, .unset, .unset, .unset, .unset, .unset] [(.int (p5 &&& (3 : Int32)))]))
        refine own_goW (fun _ k => XS.iconst X29.here hx rfl (hb hby at_176) k) ?_
        show own_GoW p e below s _ _ _ _ (T29.setTop (mkF m 177 #[iv p1, iv p2, iv p3, iv p4, iv p5, iv ghs, iv gas, .val (.double gth), .second, .val (.double gta), .second, rv ob, iv (p5 &&& (3 : Int32)), iv (1 : Int32), .unset, .unset, .unset, .unset, .unset, .unset, .unset] [(.int (2 : Int32)), (.int (p5 &&& (3 : Int32)))]))
        by_cases hc38 : (p5 &&& (3 : Int32)) = (2 : Int32)
        · refine own_goW (fun _ k => XS.icmpNo X29.here hx rfl (hb hby at_177) rfl (teq hc38).2 k) ?_
          show own_GoW p e below s _ _ _ _ (T29.setTop (mkF m 180 #[iv p1, iv p2, iv p3, iv p4, iv p5, iv ghs, iv gas, .val (.double gth), .second, .val (.double gta), .second, rv ob, iv (p5 &&& (3 : Int32)), iv (1 : Int32), .unset, .unset, .unset, .unset, .unset, .unset, .unset] []))
          refine own_goW (fun _ k => XS.iloadN X29.here hx rfl (hb hby at_180) rfl k) ?_
          show own_GoW p e below s _ _ _ _ (T29.setTop (mkF m 181 #[iv p1, iv p2, iv p3, iv p4, iv p5, iv ghs, iv gas, .val (.double gth), .second, .val (.double gta), .second, rv ob, iv (p5 &&& (3 : Int32)), iv (1 : Int32), .unset, .unset, .unset, .unset, .unset, .unset, .unset] [(.int p3)]))
          refine own_goW (fun _ k => XS.i2l X29.here hx rfl (hb hby at_181) rfl k) ?_
          show own_GoW p e below s _ _ _ _ (T29.setTop (mkF m 182 #[iv p1, iv p2, iv p3, iv p4, iv p5, iv ghs, iv gas, .val (.double gth), .second, .val (.double gta), .second, rv ob, iv (p5 &&& (3 : Int32)), iv (1 : Int32), .unset, .unset, .unset, .unset, .unset, .unset, .unset] [(.long (p3.toInt64))]))
          refine own_goW (X29.ldc2Long hx hown (mvT hZ (ow60 hw)) (g := (mkF m 182 #[iv p1, iv p2, iv p3, iv p4, iv p5, iv ghs, iv gas, .val (.double gth), .second, .val (.double gta), .second, rv ob, iv (p5 &&& (3 : Int32)), iv (1 : Int32), .unset, .unset, .unset, .unset, .unset, .unset, .unset] [(.long (p3.toInt64))])) rfl (hb hby at_182)) ?_
          show own_GoW p e below s _ _ _ _ (T29.setTop (mkF m 185 #[iv p1, iv p2, iv p3, iv p4, iv p5, iv ghs, iv gas, .val (.double gth), .second, .val (.double gta), .second, rv ob, iv (p5 &&& (3 : Int32)), iv (1 : Int32), .unset, .unset, .unset, .unset, .unset, .unset, .unset] [(.long (2147483647 : Int64)), (.long (p3.toInt64))]))
          refine own_goW (fun _ k => XS.land X29.here hx rfl (hb hby at_185) rfl k) ?_
          show own_GoW p e below s _ _ _ _ (T29.setTop (mkF m 186 #[iv p1, iv p2, iv p3, iv p4, iv p5, iv ghs, iv gas, .val (.double gth), .second, .val (.double gta), .second, rv ob, iv (p5 &&& (3 : Int32)), iv (1 : Int32), .unset, .unset, .unset, .unset, .unset, .unset, .unset] [(.long ((p3.toInt64) &&& (2147483647 : Int64)))]))
          refine own_goW (fun _ k => XS.iload X29.here hx rfl (hb hby at_186) rfl k) ?_
          show own_GoW p e below s _ _ _ _ (T29.setTop (mkF m 188 #[iv p1, iv p2, iv p3, iv p4, iv p5, iv ghs, iv gas, .val (.double gth), .second, .val (.double gta), .second, rv ob, iv (p5 &&& (3 : Int32)), iv (1 : Int32), .unset, .unset, .unset, .unset, .unset, .unset, .unset] [(.int (1 : Int32)), (.long ((p3.toInt64) &&& (2147483647 : Int64)))]))
          refine own_goW (fun _ k => XS.i2l X29.here hx rfl (hb hby at_188) rfl k) ?_
          show own_GoW p e below s _ _ _ _ (T29.setTop (mkF m 189 #[iv p1, iv p2, iv p3, iv p4, iv p5, iv ghs, iv gas, .val (.double gth), .second, .val (.double gta), .second, rv ob, iv (p5 &&& (3 : Int32)), iv (1 : Int32), .unset, .unset, .unset, .unset, .unset, .unset, .unset] [(.long ((1 : Int32).toInt64)), (.long ((p3.toInt64) &&& (2147483647 : Int64)))]))
          refine own_goW (fun _ k => XS.lconst X29.here hx rfl (hb hby at_189) k) ?_
          show own_GoW p e below s _ _ _ _ (T29.setTop (mkF m 190 #[iv p1, iv p2, iv p3, iv p4, iv p5, iv ghs, iv gas, .val (.double gth), .second, .val (.double gta), .second, rv ob, iv (p5 &&& (3 : Int32)), iv (1 : Int32), .unset, .unset, .unset, .unset, .unset, .unset, .unset] [(.long (1 : Int64)), (.long ((1 : Int32).toInt64)), (.long ((p3.toInt64) &&& (2147483647 : Int64)))]))
          refine own_goW (fun _ k => XS.ladd X29.here hx rfl (hb hby at_190) rfl k) ?_
          show own_GoW p e below s _ _ _ _ (T29.setTop (mkF m 191 #[iv p1, iv p2, iv p3, iv p4, iv p5, iv ghs, iv gas, .val (.double gth), .second, .val (.double gta), .second, rv ob, iv (p5 &&& (3 : Int32)), iv (1 : Int32), .unset, .unset, .unset, .unset, .unset, .unset, .unset] [(.long (((1 : Int32).toInt64) + (1 : Int64))), (.long ((p3.toInt64) &&& (2147483647 : Int64)))]))
          refine own_goW (fun _ k => XS.lrem X29.here hx rfl (hb hby at_191) rfl (own_ny (by decide : 1 ≤ (1 : Int32).toInt)) k) ?_
          show own_GoW p e below s _ _ _ _ (T29.setTop (mkF m 192 #[iv p1, iv p2, iv p3, iv p4, iv p5, iv ghs, iv gas, .val (.double gth), .second, .val (.double gta), .second, rv ob, iv (p5 &&& (3 : Int32)), iv (1 : Int32), .unset, .unset, .unset, .unset, .unset, .unset, .unset] [(.long (((p3.toInt64) &&& (2147483647 : Int64)) - (((p3.toInt64) &&& (2147483647 : Int64)) / (((1 : Int32).toInt64) + (1 : Int64))) * (((1 : Int32).toInt64) + (1 : Int64))))]))
          refine own_goW (fun _ k => XS.l2i X29.here hx rfl (hb hby at_192) rfl k) ?_
          show own_GoW p e below s _ _ _ _ (T29.setTop (mkF m 193 #[iv p1, iv p2, iv p3, iv p4, iv p5, iv ghs, iv gas, .val (.double gth), .second, .val (.double gta), .second, rv ob, iv (p5 &&& (3 : Int32)), iv (1 : Int32), .unset, .unset, .unset, .unset, .unset, .unset, .unset] [(.int ((((p3.toInt64) &&& (2147483647 : Int64)) - (((p3.toInt64) &&& (2147483647 : Int64)) / (((1 : Int32).toInt64) + (1 : Int64))) * (((1 : Int32).toInt64) + (1 : Int64))).toInt32))]))
          refine own_goW (fun _ k => XS.istore X29.here hx rfl (hb hby at_193) rfl (l' := #[iv p1, iv p2, iv p3, iv p4, iv p5, iv ghs, iv gas, .val (.double gth), .second, .val (.double gta), .second, rv ob, iv (p5 &&& (3 : Int32)), iv (1 : Int32), iv ((((p3.toInt64) &&& (2147483647 : Int64)) - (((p3.toInt64) &&& (2147483647 : Int64)) / (((1 : Int32).toInt64) + (1 : Int64))) * (((1 : Int32).toInt64) + (1 : Int64))).toInt32), .unset, .unset, .unset, .unset, .unset, .unset]) rfl k) ?_
          show own_GoW p e below s _ _ _ _ (T29.setTop (mkF m 195 #[iv p1, iv p2, iv p3, iv p4, iv p5, iv ghs, iv gas, .val (.double gth), .second, .val (.double gta), .second, rv ob, iv (p5 &&& (3 : Int32)), iv (1 : Int32), iv ((((p3.toInt64) &&& (2147483647 : Int64)) - (((p3.toInt64) &&& (2147483647 : Int64)) / (((1 : Int32).toInt64) + (1 : Int64))) * (((1 : Int32).toInt64) + (1 : Int64))).toInt32), .unset, .unset, .unset, .unset, .unset, .unset] []))
          refine own_goW (fun _ k => XS.goto X29.here hx rfl (pc0 := 195) (pc' := 215) rfl (hb hby at_195) (by decide) (by decide) k) ?_
          show own_GoW p e below s _ _ _ _ (T29.setTop (mkF m 215 #[iv p1, iv p2, iv p3, iv p4, iv p5, iv ghs, iv gas, .val (.double gth), .second, .val (.double gta), .second, rv ob, iv (p5 &&& (3 : Int32)), iv (1 : Int32), iv ((((p3.toInt64) &&& (2147483647 : Int64)) - (((p3.toInt64) &&& (2147483647 : Int64)) / (((1 : Int32).toInt64) + (1 : Int64))) * (((1 : Int32).toInt64) + (1 : Int64))).toInt32), .unset, .unset, .unset, .unset, .unset, .unset] []))
          exact sg_s215 hw p1 p2 p3 p4 p5 ghs gas gth gta ob (iv (p5 &&& (3 : Int32)) : Slot) (1 : Int32) ((((p3.toInt64) &&& (2147483647 : Int64)) - (((p3.toInt64) &&& (2147483647 : Int64)) / (((1 : Int32).toInt64) + (1 : Int64))) * (((1 : Int32).toInt64) + (1 : Int64))).toInt32) h0 hs1 X29 hS hL hJ hx hby hml hret hlk hZ hown hnm Kc36 N0 O0 K0 (fp0.keep K1) (fp1.keep K1 nin0) (fp2.keep K1 nin0) hT (own_X2 p3 (by decide : 1 ≤ (1 : Int32).toInt)) (by omega) (by omega)
        · refine own_goW (fun _ k => XS.icmpYes X29.here hx rfl (pc0 := 177) (pc' := 198) rfl (hb hby at_177) rfl (feq hc38).2 (by decide) (by decide) k) ?_
          show own_GoW p e below s _ _ _ _ (T29.setTop (mkF m 198 #[iv p1, iv p2, iv p3, iv p4, iv p5, iv ghs, iv gas, .val (.double gth), .second, .val (.double gta), .second, rv ob, iv (p5 &&& (3 : Int32)), iv (1 : Int32), .unset, .unset, .unset, .unset, .unset, .unset, .unset] []))
          refine own_goW (fun _ k => XS.iload X29.here hx rfl (hb hby at_198) rfl k) ?_
          show own_GoW p e below s _ _ _ _ (T29.setTop (mkF m 200 #[iv p1, iv p2, iv p3, iv p4, iv p5, iv ghs, iv gas, .val (.double gth), .second, .val (.double gta), .second, rv ob, iv (p5 &&& (3 : Int32)), iv (1 : Int32), .unset, .unset, .unset, .unset, .unset, .unset, .unset] [(.int p5)]))
          refine own_goW (fun _ k => XS.iconst X29.here hx rfl (hb hby at_200) k) ?_
          show own_GoW p e below s _ _ _ _ (T29.setTop (mkF m 201 #[iv p1, iv p2, iv p3, iv p4, iv p5, iv ghs, iv gas, .val (.double gth), .second, .val (.double gta), .second, rv ob, iv (p5 &&& (3 : Int32)), iv (1 : Int32), .unset, .unset, .unset, .unset, .unset, .unset, .unset] [(.int (2 : Int32)), (.int p5)]))
          refine own_goW (fun _ k => XS.ishr X29.here hx rfl (hb hby at_201) rfl k) ?_
          show own_GoW p e below s _ _ _ _ (T29.setTop (mkF m 202 #[iv p1, iv p2, iv p3, iv p4, iv p5, iv ghs, iv gas, .val (.double gth), .second, .val (.double gta), .second, rv ob, iv (p5 &&& (3 : Int32)), iv (1 : Int32), .unset, .unset, .unset, .unset, .unset, .unset, .unset] [(.int (p5 >>> ((2 : Int32) &&& 31)))]))
          refine own_goW (fun _ k => XS.iconst X29.here hx rfl (hb hby at_202) k) ?_
          show own_GoW p e below s _ _ _ _ (T29.setTop (mkF m 203 #[iv p1, iv p2, iv p3, iv p4, iv p5, iv ghs, iv gas, .val (.double gth), .second, .val (.double gta), .second, rv ob, iv (p5 &&& (3 : Int32)), iv (1 : Int32), .unset, .unset, .unset, .unset, .unset, .unset, .unset] [(.int (1 : Int32)), (.int (p5 >>> ((2 : Int32) &&& 31)))]))
          refine own_goW (fun _ k => XS.iand X29.here hx rfl (hb hby at_203) rfl k) ?_
          show own_GoW p e below s _ _ _ _ (T29.setTop (mkF m 204 #[iv p1, iv p2, iv p3, iv p4, iv p5, iv ghs, iv gas, .val (.double gth), .second, .val (.double gta), .second, rv ob, iv (p5 &&& (3 : Int32)), iv (1 : Int32), .unset, .unset, .unset, .unset, .unset, .unset, .unset] [(.int ((p5 >>> ((2 : Int32) &&& 31)) &&& (1 : Int32)))]))
          by_cases hc39 : ((p5 >>> ((2 : Int32) &&& 31)) &&& (1 : Int32)) = (0 : Int32)
          · refine own_goW (fun _ k => XS.ifNo X29.here hx rfl (hb hby at_204) rfl ((if0 _ _).trans (teq hc39).2) k) ?_
            show own_GoW p e below s _ _ _ _ (T29.setTop (mkF m 207 #[iv p1, iv p2, iv p3, iv p4, iv p5, iv ghs, iv gas, .val (.double gth), .second, .val (.double gta), .second, rv ob, iv (p5 &&& (3 : Int32)), iv (1 : Int32), .unset, .unset, .unset, .unset, .unset, .unset, .unset] []))
            refine own_goW (fun _ k => XS.iconst X29.here hx rfl (hb hby at_207) k) ?_
            show own_GoW p e below s _ _ _ _ (T29.setTop (mkF m 208 #[iv p1, iv p2, iv p3, iv p4, iv p5, iv ghs, iv gas, .val (.double gth), .second, .val (.double gta), .second, rv ob, iv (p5 &&& (3 : Int32)), iv (1 : Int32), .unset, .unset, .unset, .unset, .unset, .unset, .unset] [(.int (0 : Int32))]))
            refine own_goW (fun _ k => XS.goto X29.here hx rfl (pc0 := 208) (pc' := 213) rfl (hb hby at_208) (by decide) (by decide) k) ?_
            show own_GoW p e below s _ _ _ _ (T29.setTop (mkF m 213 #[iv p1, iv p2, iv p3, iv p4, iv p5, iv ghs, iv gas, .val (.double gth), .second, .val (.double gta), .second, rv ob, iv (p5 &&& (3 : Int32)), iv (1 : Int32), .unset, .unset, .unset, .unset, .unset, .unset, .unset] [(.int (0 : Int32))]))
            refine own_goW (fun _ k => XS.istore X29.here hx rfl (hb hby at_213) rfl (l' := #[iv p1, iv p2, iv p3, iv p4, iv p5, iv ghs, iv gas, .val (.double gth), .second, .val (.double gta), .second, rv ob, iv (p5 &&& (3 : Int32)), iv (1 : Int32), iv (0 : Int32), .unset, .unset, .unset, .unset, .unset, .unset]) rfl k) ?_
            show own_GoW p e below s _ _ _ _ (T29.setTop (mkF m 215 #[iv p1, iv p2, iv p3, iv p4, iv p5, iv ghs, iv gas, .val (.double gth), .second, .val (.double gta), .second, rv ob, iv (p5 &&& (3 : Int32)), iv (1 : Int32), iv (0 : Int32), .unset, .unset, .unset, .unset, .unset, .unset] []))
            exact sg_s215 hw p1 p2 p3 p4 p5 ghs gas gth gta ob (iv (p5 &&& (3 : Int32)) : Slot) (1 : Int32) (0 : Int32) h0 hs1 X29 hS hL hJ hx hby hml hret hlk hZ hown hnm Kc36 N0 O0 K0 (fp0.keep K1) (fp1.keep K1 nin0) (fp2.keep K1 nin0) hT (own_X0 (by decide : 1 ≤ (1 : Int32).toInt)) (by omega) (by omega)
          · refine own_goW (fun _ k => XS.ifYes X29.here hx rfl (pc0 := 204) (pc' := 211) rfl (hb hby at_204) rfl ((if0 _ _).trans (feq hc39).2) (by decide) (by decide) k) ?_
            show own_GoW p e below s _ _ _ _ (T29.setTop (mkF m 211 #[iv p1, iv p2, iv p3, iv p4, iv p5, iv ghs, iv gas, .val (.double gth), .second, .val (.double gta), .second, rv ob, iv (p5 &&& (3 : Int32)), iv (1 : Int32), .unset, .unset, .unset, .unset, .unset, .unset, .unset] []))
            refine own_goW (fun _ k => XS.iload X29.here hx rfl (hb hby at_211) rfl k) ?_
            show own_GoW p e below s _ _ _ _ (T29.setTop (mkF m 213 #[iv p1, iv p2, iv p3, iv p4, iv p5, iv ghs, iv gas, .val (.double gth), .second, .val (.double gta), .second, rv ob, iv (p5 &&& (3 : Int32)), iv (1 : Int32), .unset, .unset, .unset, .unset, .unset, .unset, .unset] [(.int (1 : Int32))]))
            refine own_goW (fun _ k => XS.istore X29.here hx rfl (hb hby at_213) rfl (l' := #[iv p1, iv p2, iv p3, iv p4, iv p5, iv ghs, iv gas, .val (.double gth), .second, .val (.double gta), .second, rv ob, iv (p5 &&& (3 : Int32)), iv (1 : Int32), iv (1 : Int32), .unset, .unset, .unset, .unset, .unset, .unset]) rfl k) ?_
            show own_GoW p e below s _ _ _ _ (T29.setTop (mkF m 215 #[iv p1, iv p2, iv p3, iv p4, iv p5, iv ghs, iv gas, .val (.double gth), .second, .val (.double gta), .second, rv ob, iv (p5 &&& (3 : Int32)), iv (1 : Int32), iv (1 : Int32), .unset, .unset, .unset, .unset, .unset, .unset] []))
            exact sg_s215 hw p1 p2 p3 p4 p5 ghs gas gth gta ob (iv (p5 &&& (3 : Int32)) : Slot) (1 : Int32) (1 : Int32) h0 hs1 X29 hS hL hJ hx hby hml hret hlk hZ hown hnm Kc36 N0 O0 K0 (fp0.keep K1) (fp1.keep K1 nin0) (fp2.keep K1 nin0) hT (own_Xn (by decide : 1 ≤ (1 : Int32).toInt)) (by omega) (by omega)
theorem ef_law (m : MethodId) (x0 : Int32) (x1 : Int32) (x2 : Int32) (x3 : Int32) (x4 : Int32) : entryFrame m #[(.int x0), (.int x1), (.int x2), (.int x3), (.int x4)] maxLocals = mkF m 0 #[iv x0, iv x1, iv x2, iv x3, iv x4, .unset, .unset, .unset, .unset, .unset, .unset, .unset, .unset, .unset, .unset, .unset, .unset, .unset, .unset, .unset, .unset] [] := by first | (simp [entryFrame, mkF, argsToLocals, Value.category, maxLocals]; done) | rfl
set_option maxRecDepth 65536 in
set_option maxHeartbeats 40000000 in
theorem rm_law (l : Launch) (Z : State) (a0 : Array Value) (hw : ∀ d ∈ tables_1, d.before a0 Z = true) (ws : List Jvm.Cond) (p1 : Int32) (p2 : Int32) (p3 : Int32) (p4 : Int32) (p5 : Int32) (h0 : Heap) (O0 : Ext Z.heap h0) :
    MetFree l x (head1 (Jvm.Cond.code x code maxLocals ret :: ws) room_1) (fun a U => a = #[(.int p1), (.int p2), (.int p3), (.int p4), (.int p5)] ∧ Z.Warmed39 U.vm ∧ U.heap = h0 ∧ own_J Z U.vm U.heap) (fun _ _ _ _ _ => True) (fun _ U o U' => ∃ v L, o = .returned v ∧ ((Q_law Z p1 p2 p3 p4 p5 h0) v U'.heap L ∧ own_J Z U'.vm U'.heap) ∧ ReturnedEndW U o U' L room_1.cells room_1.slots) := by
  refine own_metW (Q := (Q_law Z p1 p2 p3 p4 p5 h0)) _ _ (plainFor_of_name own_pn_4) ?_
  intro p e s vm0 m below meth c T X0 hS hJ hJ0 hZ0 hI hs0 hx hby hml hret hlk hZ hown hnm e0
  replace hown : (s.setVm vm0).vm.findClass "com/example/nudo/nudo/VehicleClassesMeanReactionTimePinLaw" = some m.cls := hown
  replace hnm : meth.name = "law" := hnm
  have hml : c.maxLocals = 21 := hml
  have N0 := Fr.nil Z.heap.size
  have hL := own_Lhw hw
  have K0 := Keep.refl h0 []
  refine own_goW (fun _ k => castTop (ef_law m p1 p2 p3 p4 p5) k) ?_
  show own_GoW p e below s _ _ _ _ (T.setTop (mkF m 0 #[iv p1, iv p2, iv p3, iv p4, iv p5, .unset, .unset, .unset, .unset, .unset, .unset, .unset, .unset, .unset, .unset, .unset, .unset, .unset, .unset, .unset, .unset] []))
  refine own_goW (fun _ k => XS.iloadN X0.here hx rfl (hb hby at_0) rfl k) ?_
  show own_GoW p e below s _ _ _ _ (T.setTop (mkF m 1 #[iv p1, iv p2, iv p3, iv p4, iv p5, .unset, .unset, .unset, .unset, .unset, .unset, .unset, .unset, .unset, .unset, .unset, .unset, .unset, .unset, .unset, .unset] [(.int p1)]))
  refine own_goW (X0.ldcInt hx hown (mvT hZ (ow0 hw)) (g := (mkF m 1 #[iv p1, iv p2, iv p3, iv p4, iv p5, .unset, .unset, .unset, .unset, .unset, .unset, .unset, .unset, .unset, .unset, .unset, .unset, .unset, .unset, .unset, .unset] [(.int p1)])) rfl (hb hby at_1)) ?_
  show own_GoW p e below s _ _ _ _ (T.setTop (mkF m 3 #[iv p1, iv p2, iv p3, iv p4, iv p5, .unset, .unset, .unset, .unset, .unset, .unset, .unset, .unset, .unset, .unset, .unset, .unset, .unset, .unset, .unset, .unset] [(.int (65535 : Int32)), (.int p1)]))
  refine own_goW (fun _ k => XS.iand X0.here hx rfl (hb hby at_3) rfl k) ?_
  show own_GoW p e below s _ _ _ _ (T.setTop (mkF m 4 #[iv p1, iv p2, iv p3, iv p4, iv p5, .unset, .unset, .unset, .unset, .unset, .unset, .unset, .unset, .unset, .unset, .unset, .unset, .unset, .unset, .unset, .unset] [(.int (p1 &&& (65535 : Int32)))]))
  refine own_goW (fun _ k => XS.iconst X0.here hx rfl (hb hby at_4) k) ?_
  show own_GoW p e below s _ _ _ _ (T.setTop (mkF m 5 #[iv p1, iv p2, iv p3, iv p4, iv p5, .unset, .unset, .unset, .unset, .unset, .unset, .unset, .unset, .unset, .unset, .unset, .unset, .unset, .unset, .unset, .unset] [(.int (1 : Int32)), (.int (p1 &&& (65535 : Int32)))]))
  refine own_goW (fun _ k => XS.iadd X0.here hx rfl (hb hby at_5) rfl k) ?_
  show own_GoW p e below s _ _ _ _ (T.setTop (mkF m 6 #[iv p1, iv p2, iv p3, iv p4, iv p5, .unset, .unset, .unset, .unset, .unset, .unset, .unset, .unset, .unset, .unset, .unset, .unset, .unset, .unset, .unset, .unset] [(.int ((p1 &&& (65535 : Int32)) + (1 : Int32)))]))
  refine own_goW (fun _ k => XS.istore X0.here hx rfl (hb hby at_6) rfl (l' := #[iv p1, iv p2, iv p3, iv p4, iv p5, iv ((p1 &&& (65535 : Int32)) + (1 : Int32)), .unset, .unset, .unset, .unset, .unset, .unset, .unset, .unset, .unset, .unset, .unset, .unset, .unset, .unset, .unset]) rfl k) ?_
  show own_GoW p e below s _ _ _ _ (T.setTop (mkF m 8 #[iv p1, iv p2, iv p3, iv p4, iv p5, iv ((p1 &&& (65535 : Int32)) + (1 : Int32)), .unset, .unset, .unset, .unset, .unset, .unset, .unset, .unset, .unset, .unset, .unset, .unset, .unset, .unset, .unset] []))
  refine own_goW (fun _ k => XS.iloadN X0.here hx rfl (hb hby at_8) rfl k) ?_
  show own_GoW p e below s _ _ _ _ (T.setTop (mkF m 9 #[iv p1, iv p2, iv p3, iv p4, iv p5, iv ((p1 &&& (65535 : Int32)) + (1 : Int32)), .unset, .unset, .unset, .unset, .unset, .unset, .unset, .unset, .unset, .unset, .unset, .unset, .unset, .unset, .unset] [(.int p2)]))
  refine own_goW (X0.ldcInt hx hown (mvT hZ (ow0 hw)) (g := (mkF m 9 #[iv p1, iv p2, iv p3, iv p4, iv p5, iv ((p1 &&& (65535 : Int32)) + (1 : Int32)), .unset, .unset, .unset, .unset, .unset, .unset, .unset, .unset, .unset, .unset, .unset, .unset, .unset, .unset, .unset] [(.int p2)])) rfl (hb hby at_9)) ?_
  show own_GoW p e below s _ _ _ _ (T.setTop (mkF m 11 #[iv p1, iv p2, iv p3, iv p4, iv p5, iv ((p1 &&& (65535 : Int32)) + (1 : Int32)), .unset, .unset, .unset, .unset, .unset, .unset, .unset, .unset, .unset, .unset, .unset, .unset, .unset, .unset, .unset] [(.int (65535 : Int32)), (.int p2)]))
  refine own_goW (fun _ k => XS.iand X0.here hx rfl (hb hby at_11) rfl k) ?_
  show own_GoW p e below s _ _ _ _ (T.setTop (mkF m 12 #[iv p1, iv p2, iv p3, iv p4, iv p5, iv ((p1 &&& (65535 : Int32)) + (1 : Int32)), .unset, .unset, .unset, .unset, .unset, .unset, .unset, .unset, .unset, .unset, .unset, .unset, .unset, .unset, .unset] [(.int (p2 &&& (65535 : Int32)))]))
  refine own_goW (fun _ k => XS.iconst X0.here hx rfl (hb hby at_12) k) ?_
  show own_GoW p e below s _ _ _ _ (T.setTop (mkF m 13 #[iv p1, iv p2, iv p3, iv p4, iv p5, iv ((p1 &&& (65535 : Int32)) + (1 : Int32)), .unset, .unset, .unset, .unset, .unset, .unset, .unset, .unset, .unset, .unset, .unset, .unset, .unset, .unset, .unset] [(.int (1 : Int32)), (.int (p2 &&& (65535 : Int32)))]))
  refine own_goW (fun _ k => XS.iadd X0.here hx rfl (hb hby at_13) rfl k) ?_
  show own_GoW p e below s _ _ _ _ (T.setTop (mkF m 14 #[iv p1, iv p2, iv p3, iv p4, iv p5, iv ((p1 &&& (65535 : Int32)) + (1 : Int32)), .unset, .unset, .unset, .unset, .unset, .unset, .unset, .unset, .unset, .unset, .unset, .unset, .unset, .unset, .unset] [(.int ((p2 &&& (65535 : Int32)) + (1 : Int32)))]))
  refine own_goW (fun _ k => XS.istore X0.here hx rfl (hb hby at_14) rfl (l' := #[iv p1, iv p2, iv p3, iv p4, iv p5, iv ((p1 &&& (65535 : Int32)) + (1 : Int32)), iv ((p2 &&& (65535 : Int32)) + (1 : Int32)), .unset, .unset, .unset, .unset, .unset, .unset, .unset, .unset, .unset, .unset, .unset, .unset, .unset, .unset]) rfl k) ?_
  show own_GoW p e below s _ _ _ _ (T.setTop (mkF m 16 #[iv p1, iv p2, iv p3, iv p4, iv p5, iv ((p1 &&& (65535 : Int32)) + (1 : Int32)), iv ((p2 &&& (65535 : Int32)) + (1 : Int32)), .unset, .unset, .unset, .unset, .unset, .unset, .unset, .unset, .unset, .unset, .unset, .unset, .unset, .unset] []))
  refine own_goW (fun _ k => XS.iload X0.here hx rfl (hb hby at_16) rfl k) ?_
  show own_GoW p e below s _ _ _ _ (T.setTop (mkF m 18 #[iv p1, iv p2, iv p3, iv p4, iv p5, iv ((p1 &&& (65535 : Int32)) + (1 : Int32)), iv ((p2 &&& (65535 : Int32)) + (1 : Int32)), .unset, .unset, .unset, .unset, .unset, .unset, .unset, .unset, .unset, .unset, .unset, .unset, .unset, .unset] [(.int ((p1 &&& (65535 : Int32)) + (1 : Int32)))]))
  refine own_goW (fun _ k => XS.i2dS X0.here hx rfl (hb hby at_18) rfl rfl k) ?_
  show own_GoW p e below s _ _ _ _ (T.setTop (mkF m 19 #[iv p1, iv p2, iv p3, iv p4, iv p5, iv ((p1 &&& (65535 : Int32)) + (1 : Int32)), iv ((p2 &&& (65535 : Int32)) + (1 : Int32)), .unset, .unset, .unset, .unset, .unset, .unset, .unset, .unset, .unset, .unset, .unset, .unset, .unset, .unset] [(.double (FP.i2d ((p1 &&& (65535 : Int32)) + (1 : Int32))))]))
  refine own_goW (X0.ldc2DoubleC hx hown (mvT hZ (ow1 hw)) (g := (mkF m 19 #[iv p1, iv p2, iv p3, iv p4, iv p5, iv ((p1 &&& (65535 : Int32)) + (1 : Int32)), iv ((p2 &&& (65535 : Int32)) + (1 : Int32)), .unset, .unset, .unset, .unset, .unset, .unset, .unset, .unset, .unset, .unset, .unset, .unset, .unset, .unset] [(.double (FP.i2d ((p1 &&& (65535 : Int32)) + (1 : Int32))))])) rfl (hb hby at_19)) ?_
  show own_GoW p e below s _ _ _ _ (T.setTop (mkF m 22 #[iv p1, iv p2, iv p3, iv p4, iv p5, iv ((p1 &&& (65535 : Int32)) + (1 : Int32)), iv ((p2 &&& (65535 : Int32)) + (1 : Int32)), .unset, .unset, .unset, .unset, .unset, .unset, .unset, .unset, .unset, .unset, .unset, .unset, .unset, .unset] [(.double (4643211215818981376 : UInt64)), (.double (FP.i2d ((p1 &&& (65535 : Int32)) + (1 : Int32))))]))
  refine own_goW (fun _ k => XS.ddivS X0.here hx rfl (hb hby at_22) rfl (own_nnTh p1) rfl k) ?_
  show own_GoW p e below s _ _ _ _ (T.setTop (mkF m 23 #[iv p1, iv p2, iv p3, iv p4, iv p5, iv ((p1 &&& (65535 : Int32)) + (1 : Int32)), iv ((p2 &&& (65535 : Int32)) + (1 : Int32)), .unset, .unset, .unset, .unset, .unset, .unset, .unset, .unset, .unset, .unset, .unset, .unset, .unset, .unset] [(.double (FP.ddiv (FP.i2d ((p1 &&& (65535 : Int32)) + (1 : Int32))) (4643211215818981376 : UInt64)))]))
  refine own_goW (fun _ k => XS.dstore X0.here hx rfl (hb hby at_23) rfl (l' := #[iv p1, iv p2, iv p3, iv p4, iv p5, iv ((p1 &&& (65535 : Int32)) + (1 : Int32)), iv ((p2 &&& (65535 : Int32)) + (1 : Int32)), .val (.double (FP.ddiv (FP.i2d ((p1 &&& (65535 : Int32)) + (1 : Int32))) (4643211215818981376 : UInt64))), .second, .unset, .unset, .unset, .unset, .unset, .unset, .unset, .unset, .unset, .unset, .unset, .unset]) rfl k) ?_
  show own_GoW p e below s _ _ _ _ (T.setTop (mkF m 25 #[iv p1, iv p2, iv p3, iv p4, iv p5, iv ((p1 &&& (65535 : Int32)) + (1 : Int32)), iv ((p2 &&& (65535 : Int32)) + (1 : Int32)), .val (.double (FP.ddiv (FP.i2d ((p1 &&& (65535 : Int32)) + (1 : Int32))) (4643211215818981376 : UInt64))), .second, .unset, .unset, .unset, .unset, .unset, .unset, .unset, .unset, .unset, .unset, .unset, .unset] []))
  refine own_goW (fun _ k => XS.iload X0.here hx rfl (hb hby at_25) rfl k) ?_
  show own_GoW p e below s _ _ _ _ (T.setTop (mkF m 27 #[iv p1, iv p2, iv p3, iv p4, iv p5, iv ((p1 &&& (65535 : Int32)) + (1 : Int32)), iv ((p2 &&& (65535 : Int32)) + (1 : Int32)), .val (.double (FP.ddiv (FP.i2d ((p1 &&& (65535 : Int32)) + (1 : Int32))) (4643211215818981376 : UInt64))), .second, .unset, .unset, .unset, .unset, .unset, .unset, .unset, .unset, .unset, .unset, .unset, .unset] [(.int ((p2 &&& (65535 : Int32)) + (1 : Int32)))]))
  refine own_goW (fun _ k => XS.i2dS X0.here hx rfl (hb hby at_27) rfl rfl k) ?_
  show own_GoW p e below s _ _ _ _ (T.setTop (mkF m 28 #[iv p1, iv p2, iv p3, iv p4, iv p5, iv ((p1 &&& (65535 : Int32)) + (1 : Int32)), iv ((p2 &&& (65535 : Int32)) + (1 : Int32)), .val (.double (FP.ddiv (FP.i2d ((p1 &&& (65535 : Int32)) + (1 : Int32))) (4643211215818981376 : UInt64))), .second, .unset, .unset, .unset, .unset, .unset, .unset, .unset, .unset, .unset, .unset, .unset, .unset] [(.double (FP.i2d ((p2 &&& (65535 : Int32)) + (1 : Int32))))]))
  refine own_goW (X0.ldc2DoubleC hx hown (mvT hZ (ow1 hw)) (g := (mkF m 28 #[iv p1, iv p2, iv p3, iv p4, iv p5, iv ((p1 &&& (65535 : Int32)) + (1 : Int32)), iv ((p2 &&& (65535 : Int32)) + (1 : Int32)), .val (.double (FP.ddiv (FP.i2d ((p1 &&& (65535 : Int32)) + (1 : Int32))) (4643211215818981376 : UInt64))), .second, .unset, .unset, .unset, .unset, .unset, .unset, .unset, .unset, .unset, .unset, .unset, .unset] [(.double (FP.i2d ((p2 &&& (65535 : Int32)) + (1 : Int32))))])) rfl (hb hby at_28)) ?_
  show own_GoW p e below s _ _ _ _ (T.setTop (mkF m 31 #[iv p1, iv p2, iv p3, iv p4, iv p5, iv ((p1 &&& (65535 : Int32)) + (1 : Int32)), iv ((p2 &&& (65535 : Int32)) + (1 : Int32)), .val (.double (FP.ddiv (FP.i2d ((p1 &&& (65535 : Int32)) + (1 : Int32))) (4643211215818981376 : UInt64))), .second, .unset, .unset, .unset, .unset, .unset, .unset, .unset, .unset, .unset, .unset, .unset, .unset] [(.double (4643211215818981376 : UInt64)), (.double (FP.i2d ((p2 &&& (65535 : Int32)) + (1 : Int32))))]))
  refine own_goW (fun _ k => XS.ddivS X0.here hx rfl (hb hby at_31) rfl (own_nnTh p2) rfl k) ?_
  show own_GoW p e below s _ _ _ _ (T.setTop (mkF m 32 #[iv p1, iv p2, iv p3, iv p4, iv p5, iv ((p1 &&& (65535 : Int32)) + (1 : Int32)), iv ((p2 &&& (65535 : Int32)) + (1 : Int32)), .val (.double (FP.ddiv (FP.i2d ((p1 &&& (65535 : Int32)) + (1 : Int32))) (4643211215818981376 : UInt64))), .second, .unset, .unset, .unset, .unset, .unset, .unset, .unset, .unset, .unset, .unset, .unset, .unset] [(.double (FP.ddiv (FP.i2d ((p2 &&& (65535 : Int32)) + (1 : Int32))) (4643211215818981376 : UInt64)))]))
  refine own_goW (fun _ k => XS.dstore X0.here hx rfl (hb hby at_32) rfl (l' := #[iv p1, iv p2, iv p3, iv p4, iv p5, iv ((p1 &&& (65535 : Int32)) + (1 : Int32)), iv ((p2 &&& (65535 : Int32)) + (1 : Int32)), .val (.double (FP.ddiv (FP.i2d ((p1 &&& (65535 : Int32)) + (1 : Int32))) (4643211215818981376 : UInt64))), .second, .val (.double (FP.ddiv (FP.i2d ((p2 &&& (65535 : Int32)) + (1 : Int32))) (4643211215818981376 : UInt64))), .second, .unset, .unset, .unset, .unset, .unset, .unset, .unset, .unset, .unset, .unset]) rfl k) ?_
  show own_GoW p e below s _ _ _ _ (T.setTop (mkF m 34 #[iv p1, iv p2, iv p3, iv p4, iv p5, iv ((p1 &&& (65535 : Int32)) + (1 : Int32)), iv ((p2 &&& (65535 : Int32)) + (1 : Int32)), .val (.double (FP.ddiv (FP.i2d ((p1 &&& (65535 : Int32)) + (1 : Int32))) (4643211215818981376 : UInt64))), .second, .val (.double (FP.ddiv (FP.i2d ((p2 &&& (65535 : Int32)) + (1 : Int32))) (4643211215818981376 : UInt64))), .second, .unset, .unset, .unset, .unset, .unset, .unset, .unset, .unset, .unset, .unset] []))
  obtain ⟨T40, h40, X40, e40, E40, A40, D40, -, st40⟩ := newO X0 hx hZ hown (ow2 hw) (ow3 hw) (ow4 hw) e0 (g := (mkF m 34 #[iv p1, iv p2, iv p3, iv p4, iv p5, iv ((p1 &&& (65535 : Int32)) + (1 : Int32)), iv ((p2 &&& (65535 : Int32)) + (1 : Int32)), .val (.double (FP.ddiv (FP.i2d ((p1 &&& (65535 : Int32)) + (1 : Int32))) (4643211215818981376 : UInt64))), .second, .val (.double (FP.ddiv (FP.i2d ((p2 &&& (65535 : Int32)) + (1 : Int32))) (4643211215818981376 : UInt64))), .second, .unset, .unset, .unset, .unset, .unset, .unset, .unset, .unset, .unset, .unset] [])) rfl (hb hby at_34) (by show _ ≤ 16; omega) (by show _ ≤ 2176; omega)
  obtain ⟨b40, g40⟩ : ∃ z, z = h0.size := ⟨_, rfl⟩
  rw [← g40] at A40 D40 st40
  refine own_goW st40 ?_
  clear st40 X0 e0
  have ge40 := Nat.le_of_eq g40.symm
  have big41 : Z.heap.size ≤ b40 := Nat.le_trans O0.1 ge40
  have sz42 : h0.size ≤ b40 := Nat.le_trans K0.1 ge40
  replace O0 := own_oldExt O0 E40
  replace K0 := K0.ext E40
  replace hS := own_since hS E40.1
  replace hJ := own_Jext hJ E40
  clear E40
  have f43 : Fld Z h40 b40 "com/example/nudo/nudo/VehicleClasses" "humanReactionTime" "D" (.double (0 : UInt64)) := D40 (Or.inr (ow34 hw)) (ty := .double) own_fd0
  have f44 : Fld Z h40 b40 "com/example/nudo/nudo/VehicleClasses" "automatedReactionTime" "D" (.double (0 : UInt64)) := D40 (Or.inr (ow36 hw)) (ty := .double) own_fd0
  have f45 : Fld Z h40 b40 "com/example/nudo/nudo/VehicleClasses" "vehicleLength" "D" (.double (0 : UInt64)) := D40 (Or.inr (ow38 hw)) (ty := .double) own_fd0
  have f46 : Fld Z h40 b40 "com/example/nudo/nudo/VehicleClasses" "distance" "Lcom/example/nudo/nudo/FollowingDistance;" .null := D40 (Or.inr (ow50 hw)) (ty := (.object "com/example/nudo/nudo/FollowingDistance")) own_fd1
  show own_GoW p e below s _ _ _ _ (T40.setTop (mkF m 37 #[iv p1, iv p2, iv p3, iv p4, iv p5, iv ((p1 &&& (65535 : Int32)) + (1 : Int32)), iv ((p2 &&& (65535 : Int32)) + (1 : Int32)), .val (.double (FP.ddiv (FP.i2d ((p1 &&& (65535 : Int32)) + (1 : Int32))) (4643211215818981376 : UInt64))), .second, .val (.double (FP.ddiv (FP.i2d ((p2 &&& (65535 : Int32)) + (1 : Int32))) (4643211215818981376 : UInt64))), .second, .unset, .unset, .unset, .unset, .unset, .unset, .unset, .unset, .unset, .unset] [(.ref b40)]))
  refine own_goW (fun _ k => XS.dup X40.here hx rfl (hb hby at_37) rfl rfl k) ?_
  show own_GoW p e below s _ _ _ _ (T40.setTop (mkF m 38 #[iv p1, iv p2, iv p3, iv p4, iv p5, iv ((p1 &&& (65535 : Int32)) + (1 : Int32)), iv ((p2 &&& (65535 : Int32)) + (1 : Int32)), .val (.double (FP.ddiv (FP.i2d ((p1 &&& (65535 : Int32)) + (1 : Int32))) (4643211215818981376 : UInt64))), .second, .val (.double (FP.ddiv (FP.i2d ((p2 &&& (65535 : Int32)) + (1 : Int32))) (4643211215818981376 : UInt64))), .second, .unset, .unset, .unset, .unset, .unset, .unset, .unset, .unset, .unset, .unset] [(.ref b40), (.ref b40)]))
  refine own_goW (fun _ k => XS.dload X40.here hx rfl (hb hby at_38) rfl k) ?_
  show own_GoW p e below s _ _ _ _ (T40.setTop (mkF m 40 #[iv p1, iv p2, iv p3, iv p4, iv p5, iv ((p1 &&& (65535 : Int32)) + (1 : Int32)), iv ((p2 &&& (65535 : Int32)) + (1 : Int32)), .val (.double (FP.ddiv (FP.i2d ((p1 &&& (65535 : Int32)) + (1 : Int32))) (4643211215818981376 : UInt64))), .second, .val (.double (FP.ddiv (FP.i2d ((p2 &&& (65535 : Int32)) + (1 : Int32))) (4643211215818981376 : UInt64))), .second, .unset, .unset, .unset, .unset, .unset, .unset, .unset, .unset, .unset, .unset] [(.double (FP.ddiv (FP.i2d ((p1 &&& (65535 : Int32)) + (1 : Int32))) (4643211215818981376 : UInt64))), (.ref b40), (.ref b40)]))
  refine own_goW (fun _ k => XS.dload X40.here hx rfl (hb hby at_40) rfl k) ?_
  show own_GoW p e below s _ _ _ _ (T40.setTop (mkF m 42 #[iv p1, iv p2, iv p3, iv p4, iv p5, iv ((p1 &&& (65535 : Int32)) + (1 : Int32)), iv ((p2 &&& (65535 : Int32)) + (1 : Int32)), .val (.double (FP.ddiv (FP.i2d ((p1 &&& (65535 : Int32)) + (1 : Int32))) (4643211215818981376 : UInt64))), .second, .val (.double (FP.ddiv (FP.i2d ((p2 &&& (65535 : Int32)) + (1 : Int32))) (4643211215818981376 : UInt64))), .second, .unset, .unset, .unset, .unset, .unset, .unset, .unset, .unset, .unset, .unset] [(.double (FP.ddiv (FP.i2d ((p2 &&& (65535 : Int32)) + (1 : Int32))) (4643211215818981376 : UInt64))), (.double (FP.ddiv (FP.i2d ((p1 &&& (65535 : Int32)) + (1 : Int32))) (4643211215818981376 : UInt64))), (.ref b40), (.ref b40)]))
  refine own_goW (fun _ k => XS.dconst1 X40.here hx rfl (hb hby at_42) rfl k) ?_
  show own_GoW p e below s _ _ _ _ (T40.setTop (mkF m 43 #[iv p1, iv p2, iv p3, iv p4, iv p5, iv ((p1 &&& (65535 : Int32)) + (1 : Int32)), iv ((p2 &&& (65535 : Int32)) + (1 : Int32)), .val (.double (FP.ddiv (FP.i2d ((p1 &&& (65535 : Int32)) + (1 : Int32))) (4643211215818981376 : UInt64))), .second, .val (.double (FP.ddiv (FP.i2d ((p2 &&& (65535 : Int32)) + (1 : Int32))) (4643211215818981376 : UInt64))), .second, .unset, .unset, .unset, .unset, .unset, .unset, .unset, .unset, .unset, .unset] [(.double FP.dconst1), (.double (FP.ddiv (FP.i2d ((p2 &&& (65535 : Int32)) + (1 : Int32))) (4643211215818981376 : UInt64))), (.double (FP.ddiv (FP.i2d ((p1 &&& (65535 : Int32)) + (1 : Int32))) (4643211215818981376 : UInt64))), (.ref b40), (.ref b40)]))
  obtain ⟨v47, T47, L47, X47, hSn, hZn, hownn, hQ47, hJn, st47⟩ := own_callIW (y := (⟨"com/example/nudo/nudo/VehicleClasses", "<init>", "(DDD)V"⟩ : MethodName)) X40 hS hL hJ hx hZ hown (ow5 hw) (ow6 hw) (ow4 hw) (ow7 hw) (rm_vcinit l Z a0 hw [] b40 (FP.ddiv (FP.i2d ((p1 &&& (65535 : Int32)) + (1 : Int32))) (4643211215818981376 : UInt64)) (FP.ddiv (FP.i2d ((p2 &&& (65535 : Int32)) + (1 : Int32))) (4643211215818981376 : UInt64)) FP.dconst1 h40 O0 A40 f43 f44 f45 f46 big41 (own_posT1 (own_Tmk p1 p2)) (own_posT2 (own_Tmk p1 p2)) own_pos1) 1 5 205 rfl (by show _ ≤ 16; omega) (by show _ ≤ 2176; omega) e40 (g := (mkF m 43 #[iv p1, iv p2, iv p3, iv p4, iv p5, iv ((p1 &&& (65535 : Int32)) + (1 : Int32)), iv ((p2 &&& (65535 : Int32)) + (1 : Int32)), .val (.double (FP.ddiv (FP.i2d ((p1 &&& (65535 : Int32)) + (1 : Int32))) (4643211215818981376 : UInt64))), .second, .val (.double (FP.ddiv (FP.i2d ((p2 &&& (65535 : Int32)) + (1 : Int32))) (4643211215818981376 : UInt64))), .second, .unset, .unset, .unset, .unset, .unset, .unset, .unset, .unset, .unset, .unset] [(.double FP.dconst1), (.double (FP.ddiv (FP.i2d ((p2 &&& (65535 : Int32)) + (1 : Int32))) (4643211215818981376 : UInt64))), (.double (FP.ddiv (FP.i2d ((p1 &&& (65535 : Int32)) + (1 : Int32))) (4643211215818981376 : UInt64))), (.ref b40), (.ref b40)])) rfl (by rw [hml]; rfl) b40 [(.double (FP.ddiv (FP.i2d ((p1 &&& (65535 : Int32)) + (1 : Int32))) (4643211215818981376 : UInt64))), (.double (FP.ddiv (FP.i2d ((p2 &&& (65535 : Int32)) + (1 : Int32))) (4643211215818981376 : UInt64))), (.double FP.dconst1)] [(.ref b40)] (lenOf own_pd_6 rfl) rfl rfl (hb hby at_43)
  replace hS := hSn
  replace hZ := hZn
  replace hown := hownn
  replace hJ := hJn
  clear hSn hZn hownn hJn
  obtain ⟨rfl, Nc52, Kc51, f48, f49, f50⟩ := hQ47
  refine own_goW st47 ?_
  clear st47 X40 e40
  replace N0 := Fr.app N0 Nc52
  clear Nc52
  replace A40 := A40.keep Kc51
  clear f43
  clear f44
  clear f45
  clear f46
  replace O0 := own_oldKeep O0 Kc51 (allS big41 all0)
  replace K0 := K0.trans Kc51 (allS (Or.inr sz42) all0)
  clear Kc51
  show own_GoW p e below s _ _ _ _ (T47.setTop (mkF m 46 #[iv p1, iv p2, iv p3, iv p4, iv p5, iv ((p1 &&& (65535 : Int32)) + (1 : Int32)), iv ((p2 &&& (65535 : Int32)) + (1 : Int32)), .val (.double (FP.ddiv (FP.i2d ((p1 &&& (65535 : Int32)) + (1 : Int32))) (4643211215818981376 : UInt64))), .second, .val (.double (FP.ddiv (FP.i2d ((p2 &&& (65535 : Int32)) + (1 : Int32))) (4643211215818981376 : UInt64))), .second, .unset, .unset, .unset, .unset, .unset, .unset, .unset, .unset, .unset, .unset] [(.ref b40)]))
  refine own_goW (fun _ k => XS.astore X47.here hx rfl (hb hby at_46) rfl rfl (l' := #[iv p1, iv p2, iv p3, iv p4, iv p5, iv ((p1 &&& (65535 : Int32)) + (1 : Int32)), iv ((p2 &&& (65535 : Int32)) + (1 : Int32)), .val (.double (FP.ddiv (FP.i2d ((p1 &&& (65535 : Int32)) + (1 : Int32))) (4643211215818981376 : UInt64))), .second, .val (.double (FP.ddiv (FP.i2d ((p2 &&& (65535 : Int32)) + (1 : Int32))) (4643211215818981376 : UInt64))), .second, rv b40, .unset, .unset, .unset, .unset, .unset, .unset, .unset, .unset, .unset]) rfl k) ?_
  show own_GoW p e below s _ _ _ _ (T47.setTop (mkF m 48 #[iv p1, iv p2, iv p3, iv p4, iv p5, iv ((p1 &&& (65535 : Int32)) + (1 : Int32)), iv ((p2 &&& (65535 : Int32)) + (1 : Int32)), .val (.double (FP.ddiv (FP.i2d ((p1 &&& (65535 : Int32)) + (1 : Int32))) (4643211215818981376 : UInt64))), .second, .val (.double (FP.ddiv (FP.i2d ((p2 &&& (65535 : Int32)) + (1 : Int32))) (4643211215818981376 : UInt64))), .second, rv b40, .unset, .unset, .unset, .unset, .unset, .unset, .unset, .unset, .unset] []))
  exact sg_s48 hw p1 p2 p3 p4 p5 ((p1 &&& (65535 : Int32)) + (1 : Int32)) ((p2 &&& (65535 : Int32)) + (1 : Int32)) (FP.ddiv (FP.i2d ((p1 &&& (65535 : Int32)) + (1 : Int32))) (4643211215818981376 : UInt64)) (FP.ddiv (FP.i2d ((p2 &&& (65535 : Int32)) + (1 : Int32))) (4643211215818981376 : UInt64)) b40 h0 T47.heap X47 hS hL hJ hx hby hml hret hlk hZ hown hnm (rfl : T47.heap = T47.heap) N0 O0 K0 f48 f49 f50 (own_Tmk p1 p2) (by omega) (by omega)
set_option maxRecDepth 65536 in
set_option maxHeartbeats 40000000 in
theorem comes_1 {Post : Tables → Env → Array Value → State → Outcome → State → Prop} (hpost : ∀ tb e args s v u, (limb_1_1.after args s (.returned v) u = true ∧ limb_1_2.after args s (.returned v) u = true ∧ True) → ReturnedEndW s (.returned v) u (Jvm.fieldLocs frame_1_writes args s ++ Jvm.arrayLocs frame_1_arrays args s ++ Jvm.staticLocs frame_1_statics s) 16 2176 → Post tb e args s (.returned v) u) :
    ArmFor flags0 classFile x code maxLocals ret World_1 tables_1 room_1 Calls_1 rest_1 Pre_1 Post := by
  intro l hfl _ _ p e ha hc hk s m args below hf hA hF happ hP
  obtain ⟨hcalls, hrest, hpre⟩ := hP
  obtain ⟨-, -, -, hnamed, -, -, -, hat⟩ := (Spec.applies_iff hf).mp happ
  obtain ⟨hg, hn⟩ := and_e (Cond.before_iff.mp (show (Jvm.Cond.and given_1 narrow_1).before args s = true from hpre))
  obtain ⟨gA0, gB0⟩ := and_e hg
  obtain ⟨gA1, gB1⟩ := and_e gB0
  obtain ⟨gA2, gB2⟩ := and_e gB1
  obtain ⟨gA3, gB3⟩ := and_e gB2
  obtain ⟨gA4, gB4⟩ := and_e gB3
  obtain ⟨w0, w1, w2, w3, w4, rfl⟩ : ∃ w0 w1 w2 w3 w4 : Value, args = #[w0, w1, w2, w3, w4] := by
    have hs : args.size = 5 := by simpa [Cond.value, given_1] using gA0
    obtain ⟨L⟩ := args
    match L, hs with
    | [w0, w1, w2, w3, w4], _ => exact ⟨w0, w1, w2, w3, w4, rfl⟩
  have hw := fun d (hd : d ∈ tables_1) => atoms_spec (ws := Jvm.Cond.code x code maxLocals ret :: tables_1) hat d (List.mem_cons_of_mem _ hd)
  have hfit : Fit s := fun {y c} hc i hi => by
    obtain ⟨ha, rfl⟩ := Array.getElem?_eq_some_iff.mp hc
    have q := List.all_eq_true.mp ((Array.all_eq_true_iff_forall_mem.mp hF) _ (Array.getElem_mem ha)) i (List.mem_range.mpr hi)
    simpa [Array.getElem?_eq_getElem hi] using q
  obtain ⟨i0, ei0⟩ := is_v gA1
  obtain rfl : w0 = (.int i0) := Option.some.inj ei0
  obtain ⟨i1, ei1⟩ := is_v gA2
  obtain rfl : w1 = (.int i1) := Option.some.inj ei1
  obtain ⟨i2, ei2⟩ := is_v gA3
  obtain rfl : w2 = (.int i2) := Option.some.inj ei2
  obtain ⟨i3, ei3⟩ := is_v gA4
  obtain rfl : w3 = (.int i3) := Option.some.inj ei3
  obtain ⟨i4, ei4⟩ := is_v gB4
  obtain rfl : w4 = (.int i4) := Option.some.inj ei4
  have hJst : own_J s s.vm s.heap := trivial
  obtain ⟨n, o, h1, h2, h3, _, L, rfl, ⟨⟨rfl, N, -⟩, -⟩, hq⟩ := rm_law l s _ hw tables_1 i0 i1 i2 i3 i4  s.heap ⟨Nat.le_refl _, fun _ _ q => q⟩  p e ha hc hk s m _ below hf ((Spec.applies_iff_loose hf).mp happ).1 ⟨rfl, State.Warmed39.refl s, rfl, hJst⟩ trivial
  refine ⟨n, _, h1, h2, h3, hpost _ _ _ _ _ _ ⟨Cond.after_iff.mpr rfl, Cond.after_iff.mpr (eq_i res_at (Term.int_eval (1)) rfl), trivial⟩ ⟨hq.1, hq.2.1, hq.2.2.1, (hq.2.2.2.sift fun y hy => Or.inr (N y hy)).mono (by decide) (by decide)⟩⟩
theorem main_1_1 : Claimed_1_1 := comes_1 fun _ _ _ _ _ _ h hF => ⟨h.1, hF⟩
theorem main_1_2 : Claimed_1_2 := comes_1 fun _ _ _ _ _ _ h hF => ⟨h.2.1, hF⟩
end Jvm.Pilot.@@N@@
namespace Jvm.Pilot.@@N@@
open Jvm Jvm.ClassFile Sem Op Lib Jvm.Free Jvm.Stand Jvm.Pilot.@@N@@.Jvm.D
/-! MADE BY PROGRAM (witnessworld.py) out of the Statement's table words and the real class files: 19 classes; the members and pool entries that the words name. The judged class is class 1, her method 1. -/
namespace start1
open Jvm.ClassFile
def u (s : String) : CpInfo := .utf8 (stringToUtf16 s)
/-- a pool by its gaps: so many unusable entries, then the entry; so many at the end -/
def gap : Nat → List CpInfo → List CpInfo
  | 0, r => r
  | n + 1, r => .unusable :: gap n r
def poolList (es : List (Nat × CpInfo)) (last : Nat) : List CpInfo := es.foldr (fun e r => gap e.1 (e.2 :: r)) (gap last [])
def pool (es : List (Nat × CpInfo)) (last : Nat) : Array CpInfo := ⟨poolList es last⟩
def fileOf (pool : Array CpInfo) (this : Nat) (attrs : Array Attribute := #[]) (ms : Array MethodInfo := #[]) (fl : Nat := 33) (sup : Nat := 0) (ifs : Array Nat := #[]) (fds : Array FieldInfo := #[]) : ClassFile where
  minorVersion := 0
  majorVersion := 65
  constantPool := pool
  accessFlags := fl
  thisClass := this
  superClass := sup
  interfaces := ifs
  fields := fds
  methods := ms
  attributes := attrs
def plain (name : String) (sup : Option ClassId) : Class where
  name := name
  kind := .ordinary
  loader := none
  accessFlags := 33
  super := sup
  interfaces := #[]
  cf := none
  fields := #[]
  methods := #[]
  instanceTypes := #[]
  staticTypes := #[]
  resolved := #[]
  callSites := []
  init := .initialized
  statics := none
  mirror := none

def pool0 : Array CpInfo := pool [(5, u "<init>"), (0, u "()V"), (1, .class_ 10), (1, u "java/lang/Object")] 113

def k0c0 : Code := { maxStack := 0, maxLocals := 1, code := object_method_1_code, exceptionTable := #[], attributes := #[] }
def k0m0 : Method := { name := "<init>", desc := "()V", sig := { parameters := [], returnType := none }, accessFlags := 1, code := some k0c0 }
/-- java/lang/Object -/
def k0 : Class := { plain "java/lang/Object" none with
  accessFlags := 33
  interfaces := #[]
  cf := some (fileOf pool0 8 #[] #[{ accessFlags := 1, nameIndex := 5, descriptorIndex := 6, attributes := #[] }] 33 0 #[] #[])
  fields := #[]
  methods := #[k0m0]
  instanceTypes := #[]
  staticTypes := #[]
  resolved := Array.replicate 124 none
  statics := none }

def pool1 : Array CpInfo := pool [(2, .class_ 4), (1, u "java/lang/Object"), (0, u "<init>"), (0, u "()V"), (0, .integer 65535), (0, .double 4643211215818981376), (1, .class_ 11), (0, u "com/example/nudo/nudo/VehicleClasses"), (0, .methodref 10 13), (0, .nameAndType 5 14), (0, u "(DDD)V"), (0, .methodref 10 16), (0, .nameAndType 17 18), (0, u "meanReactionTime"), (0, u "(II)D"), (0, .integer 2147483647), (0, .methodref 21 22), (0, .class_ 23), (0, .nameAndType 24 25), (0, u "java/lang/Math"), (0, u "max"), (0, u "(II)I"), (0, .long 2147483647), (1, .class_ 29), (0, u "com/example/nudo/nudo/VehicleClassesMeanReactionTimePinLaw"), (2, u "law"), (0, u "(IIIII)Z")] 3

def k1m0 : Method := { name := "<init>", desc := "()V", sig := { parameters := [], returnType := none }, accessFlags := 1, code := none }
def k1c1 : Code := { maxStack := 8, maxLocals := 21, code := code, exceptionTable := #[], attributes := #[] }
def k1m1 : Method := { name := "law", desc := "(IIIII)Z", sig := { parameters := [.int, .int, .int, .int, .int], returnType := some .boolean }, accessFlags := 9, code := some k1c1 }
/-- com/example/nudo/nudo/VehicleClassesMeanReactionTimePinLaw -/
def k1 : Class := { plain "com/example/nudo/nudo/VehicleClassesMeanReactionTimePinLaw" (some 0) with
  accessFlags := 49
  interfaces := #[]
  cf := some (fileOf pool1 28 #[] #[{ accessFlags := 1, nameIndex := 5, descriptorIndex := 6, attributes := #[] }, { accessFlags := 9, nameIndex := 32, descriptorIndex := 33, attributes := #[] }] 49 2 #[] #[])
  fields := #[]
  methods := #[k1m0, k1m1]
  instanceTypes := #[]
  staticTypes := #[]
  resolved := Array.replicate 37 none
  statics := none }

def pool2 : Array CpInfo := pool [(1, .methodref 2 3), (0, .class_ 4), (0, .nameAndType 5 6), (0, u "java/lang/Object"), (0, u "<init>"), (0, u "()V"), (0, .string 8), (0, u "human-driven reaction time"), (0, .methodref 10 11), (0, .class_ 12), (0, .nameAndType 13 14), (0, u "com/example/nudo/nudo/Link"), (0, u "requirePositive"), (0, u "(DLjava/lang/String;)D"), (0, .string 16), (0, u "automated reaction time"), (0, .fieldref 18 19), (0, .class_ 20), (0, .nameAndType 21 22), (0, u "com/example/nudo/nudo/VehicleClasses"), (0, u "humanReactionTime"), (0, u "D"), (0, .fieldref 18 24), (0, .nameAndType 25 22), (0, u "automatedReactionTime"), (0, .fieldref 18 27), (0, .nameAndType 28 22), (0, u "vehicleLength"), (0, .class_ 30), (0, u "com/example/nudo/nudo/FollowingDistance"), (0, .methodref 29 32), (0, .nameAndType 5 33), (0, u "(D)V"), (0, .fieldref 18 35), (0, .nameAndType 36 37), (0, u "distance"), (0, u "Lcom/example/nudo/nudo/FollowingDistance;"), (47, u "(DDD)V"), (2, u "DEFAULT"), (0, u "Lcom/example/nudo/nudo/VehicleClasses;"), (3, u "meanReactionTime"), (0, u "(II)D")] 8

def k2c0 : Code := { maxStack := 5, maxLocals := 7, code := prog_50_method_1_code, exceptionTable := #[], attributes := #[] }
def k2m0 : Method := { name := "<init>", desc := "(DDD)V", sig := { parameters := [.double, .double, .double], returnType := none }, accessFlags := 1, code := some k2c0 }
def k2c1 : Code := { maxStack := 8, maxLocals := 5, code := prog_50_method_4_code, exceptionTable := #[], attributes := #[] }
def k2m1 : Method := { name := "meanReactionTime", desc := "(II)D", sig := { parameters := [.int, .int], returnType := some .double }, accessFlags := 1, code := some k2c1 }
/-- com/example/nudo/nudo/VehicleClasses -/
def k2 : Class := { plain "com/example/nudo/nudo/VehicleClasses" (some 0) with
  accessFlags := 49
  interfaces := #[]
  cf := some (fileOf pool2 18 #[] #[{ accessFlags := 1, nameIndex := 5, descriptorIndex := 85, attributes := #[] }, { accessFlags := 1, nameIndex := 93, descriptorIndex := 94, attributes := #[] }] 49 2 #[] #[{ accessFlags := 25, nameIndex := 88, descriptorIndex := 89, attributes := #[] }, { accessFlags := 18, nameIndex := 21, descriptorIndex := 22, attributes := #[] }, { accessFlags := 18, nameIndex := 25, descriptorIndex := 22, attributes := #[] }, { accessFlags := 18, nameIndex := 28, descriptorIndex := 22, attributes := #[] }, { accessFlags := 18, nameIndex := 36, descriptorIndex := 37, attributes := #[] }])
  fields := #[{ name := "DEFAULT", type := (.object "com/example/nudo/nudo/VehicleClasses"), accessFlags := 25, slot := 0, constantValue := 0 }, { name := "humanReactionTime", type := .double, accessFlags := 18, slot := 0, constantValue := 0 }, { name := "automatedReactionTime", type := .double, accessFlags := 18, slot := 1, constantValue := 0 }, { name := "vehicleLength", type := .double, accessFlags := 18, slot := 2, constantValue := 0 }, { name := "distance", type := (.object "com/example/nudo/nudo/FollowingDistance"), accessFlags := 18, slot := 3, constantValue := 0 }]
  methods := #[k2m0, k2m1]
  instanceTypes := #[.double, .double, .double, (.object "com/example/nudo/nudo/FollowingDistance")]
  staticTypes := #[(.object "com/example/nudo/nudo/VehicleClasses")]
  resolved := Array.replicate 103 none
  statics := none }

def pool3 : Array CpInfo := pool [(1, .class_ 2), (0, u "java/io/Serializable"), (0, .class_ 4), (0, u "java/lang/Object")] 2

/-- java/io/Serializable -/
def k3 : Class := { plain "java/io/Serializable" (some 0) with
  accessFlags := 1537
  interfaces := #[]
  cf := some (fileOf pool3 1 #[] #[] 1537 3 #[] #[])
  fields := #[]
  methods := #[]
  instanceTypes := #[]
  staticTypes := #[]
  resolved := Array.replicate 7 none
  statics := none }

def pool4 : Array CpInfo := pool [(1, .class_ 2), (0, u "java/lang/Comparable"), (0, .class_ 4), (0, u "java/lang/Object")] 7

/-- java/lang/Comparable -/
def k4 : Class := { plain "java/lang/Comparable" (some 0) with
  accessFlags := 1537
  interfaces := #[]
  cf := some (fileOf pool4 1 #[] #[] 1537 3 #[] #[])
  fields := #[]
  methods := #[]
  instanceTypes := #[]
  staticTypes := #[]
  resolved := Array.replicate 12 none
  statics := none }

def pool5 : Array CpInfo := pool [(2, .class_ 4), (1, u "java/lang/CharSequence"), (42, .class_ 48), (0, u "java/lang/CharSequence$1CodePointIterator"), (10, .class_ 60), (0, u "java/lang/CharSequence$1CharIterator"), (5, .class_ 67), (0, u "java/lang/Object")] 63

/-- java/lang/CharSequence -/
def k5 : Class := { plain "java/lang/CharSequence" (some 0) with
  accessFlags := 1537
  interfaces := #[]
  cf := some (fileOf pool5 2 #[.nestMembers #[47, 59]] #[] 1537 66 #[] #[])
  fields := #[]
  methods := #[]
  instanceTypes := #[]
  staticTypes := #[]
  resolved := Array.replicate 131 none
  statics := none }

def pool6 : Array CpInfo := pool [(1, .class_ 2), (0, u "java/lang/constant/Constable"), (0, .class_ 4), (0, u "java/lang/Object")] 6

/-- java/lang/constant/Constable -/
def k6 : Class := { plain "java/lang/constant/Constable" (some 0) with
  accessFlags := 1537
  interfaces := #[]
  cf := some (fileOf pool6 1 #[] #[] 1537 3 #[] #[])
  fields := #[]
  methods := #[]
  instanceTypes := #[]
  staticTypes := #[]
  resolved := Array.replicate 11 none
  statics := none }

def pool7 : Array CpInfo := pool [(1, .class_ 2), (0, u "java/lang/constant/ConstantDesc"), (0, .class_ 4), (0, u "java/lang/Object")] 32

/-- java/lang/constant/ConstantDesc -/
def k7 : Class := { plain "java/lang/constant/ConstantDesc" (some 0) with
  accessFlags := 1537
  interfaces := #[]
  cf := some (fileOf pool7 1 #[] #[] 1537 3 #[] #[])
  fields := #[]
  methods := #[]
  instanceTypes := #[]
  staticTypes := #[]
  resolved := Array.replicate 37 none
  statics := none }

def pool8 : Array CpInfo := pool [(2, .class_ 4), (1, u "java/lang/Object"), (0, u "<init>"), (0, u "()V"), (3, .class_ 12), (1, u "java/lang/String"), (0, u "value"), (0, u "[B"), (2, u "coder"), (0, u "B"), (2, u "hash"), (0, u "I"), (2, u "hashIsZero"), (0, u "Z"), (13, u "COMPACT_STRINGS"), (534, .class_ 576), (0, u "java/lang/CharSequence"), (22, u "CASE_INSENSITIVE_ORDER"), (0, u "Ljava/util/Comparator;"), (500, u "serialPersistentFields"), (0, u "[Ljava/io/ObjectStreamField;"), (0, .class_ 1104), (0, u "java/lang/String$CaseInsensitiveComparator"), (1, .class_ 1107), (0, u "java/io/Serializable"), (0, .class_ 1109), (0, u "java/lang/Comparable"), (0, .class_ 1111), (0, u "java/lang/constant/Constable"), (0, .class_ 1113), (0, u "java/lang/constant/ConstantDesc"), (2, u "serialVersionUID"), (0, u "J"), (3, u "REPL"), (0, u "C"), (2, u "LATIN1"), (1, u "UTF16")] 323

def k8m0 : Method := { name := "<init>", desc := "()V", sig := { parameters := [], returnType := none }, accessFlags := 1, code := none }
/-- java/lang/String -/
def k8 : Class := { plain "java/lang/String" (some 0) with
  accessFlags := 49
  interfaces := #[3, 4, 5, 6, 7]
  cf := some (fileOf pool8 10 #[.nestMembers #[1103]] #[{ accessFlags := 1, nameIndex := 5, descriptorIndex := 6, attributes := #[] }] 49 2 #[1106, 1108, 575, 1110, 1112] #[{ accessFlags := 18, nameIndex := 13, descriptorIndex := 14, attributes := #[] }, { accessFlags := 18, nameIndex := 17, descriptorIndex := 18, attributes := #[] }, { accessFlags := 2, nameIndex := 21, descriptorIndex := 22, attributes := #[] }, { accessFlags := 2, nameIndex := 25, descriptorIndex := 26, attributes := #[] }, { accessFlags := 26, nameIndex := 1116, descriptorIndex := 1117, attributes := #[] }, { accessFlags := 24, nameIndex := 40, descriptorIndex := 26, attributes := #[] }, { accessFlags := 26, nameIndex := 1101, descriptorIndex := 1102, attributes := #[] }, { accessFlags := 26, nameIndex := 1121, descriptorIndex := 1122, attributes := #[] }, { accessFlags := 25, nameIndex := 599, descriptorIndex := 600, attributes := #[] }, { accessFlags := 24, nameIndex := 1125, descriptorIndex := 18, attributes := #[] }, { accessFlags := 24, nameIndex := 1127, descriptorIndex := 18, attributes := #[] }])
  fields := #[{ name := "value", type := (.array .byte), accessFlags := 18, slot := 0, constantValue := 0 }, { name := "coder", type := .byte, accessFlags := 18, slot := 1, constantValue := 0 }, { name := "hash", type := .int, accessFlags := 2, slot := 2, constantValue := 0 }, { name := "hashIsZero", type := .boolean, accessFlags := 2, slot := 3, constantValue := 0 }, { name := "serialVersionUID", type := .long, accessFlags := 26, slot := 0, constantValue := 0 }, { name := "COMPACT_STRINGS", type := .boolean, accessFlags := 24, slot := 1, constantValue := 0 }, { name := "serialPersistentFields", type := (.array (.object "java/io/ObjectStreamField")), accessFlags := 26, slot := 2, constantValue := 0 }, { name := "REPL", type := .char, accessFlags := 26, slot := 3, constantValue := 0 }, { name := "CASE_INSENSITIVE_ORDER", type := (.object "java/util/Comparator"), accessFlags := 25, slot := 4, constantValue := 0 }, { name := "LATIN1", type := .byte, accessFlags := 24, slot := 5, constantValue := 0 }, { name := "UTF16", type := .byte, accessFlags := 24, slot := 6, constantValue := 0 }]
  methods := #[k8m0]
  instanceTypes := #[(.array .byte), .byte, .int, .boolean]
  staticTypes := #[.long, .boolean, (.array (.object "java/io/ObjectStreamField")), .char, (.object "java/util/Comparator"), .byte, .byte]
  resolved := Array.replicate 1451 none
  statics := none }

def pool9 : Array CpInfo := pool [(2, u "length"), (1, .class_ 6), (1, u "com/example/nudo/nudo/Link"), (0, u "requirePositive"), (0, u "(DLjava/lang/String;)D"), (11, .class_ 22), (1, u "java/lang/Object"), (2, u "capacity"), (11, u "id"), (0, u "Ljava/lang/String;"), (2, u "from"), (0, u "Lcom/example/nudo/nudo/Node;"), (2, u "to"), (2, u "D"), (2, u "lanes"), (0, u "I"), (2, u "freeSpeed"), (4, u "waveSpeed"), (2, u "jamDensity"), (2, u "index"), (2, u "storageLimit"), (0, u "Z"), (0, .class_ 72), (0, u "java/lang/Double"), (25, .methodref 71 99), (0, .nameAndType 100 101), (0, u "isInfinite"), (0, u "(D)Z")] 41

def k9c0 : Code := { maxStack := 5, maxLocals := 3, code := prog_27_method_20_code, exceptionTable := #[], attributes := #[] }
def k9m0 : Method := { name := "requirePositive", desc := "(DLjava/lang/String;)D", sig := { parameters := [.double, (.object "java/lang/String")], returnType := some .double }, accessFlags := 8, code := some k9c0 }
/-- com/example/nudo/nudo/Link -/
def k9 : Class := { plain "com/example/nudo/nudo/Link" (some 0) with
  accessFlags := 49
  interfaces := #[]
  cf := some (fileOf pool9 4 #[] #[{ accessFlags := 8, nameIndex := 7, descriptorIndex := 8, attributes := #[] }] 49 20 #[] #[{ accessFlags := 18, nameIndex := 37, descriptorIndex := 38, attributes := #[] }, { accessFlags := 18, nameIndex := 41, descriptorIndex := 42, attributes := #[] }, { accessFlags := 18, nameIndex := 45, descriptorIndex := 42, attributes := #[] }, { accessFlags := 18, nameIndex := 2, descriptorIndex := 48, attributes := #[] }, { accessFlags := 18, nameIndex := 51, descriptorIndex := 52, attributes := #[] }, { accessFlags := 18, nameIndex := 55, descriptorIndex := 48, attributes := #[] }, { accessFlags := 18, nameIndex := 25, descriptorIndex := 48, attributes := #[] }, { accessFlags := 18, nameIndex := 60, descriptorIndex := 48, attributes := #[] }, { accessFlags := 18, nameIndex := 63, descriptorIndex := 48, attributes := #[] }, { accessFlags := 18, nameIndex := 66, descriptorIndex := 52, attributes := #[] }, { accessFlags := 18, nameIndex := 69, descriptorIndex := 70, attributes := #[] }])
  fields := #[{ name := "id", type := (.object "java/lang/String"), accessFlags := 18, slot := 0, constantValue := 0 }, { name := "from", type := (.object "com/example/nudo/nudo/Node"), accessFlags := 18, slot := 1, constantValue := 0 }, { name := "to", type := (.object "com/example/nudo/nudo/Node"), accessFlags := 18, slot := 2, constantValue := 0 }, { name := "length", type := .double, accessFlags := 18, slot := 3, constantValue := 0 }, { name := "lanes", type := .int, accessFlags := 18, slot := 4, constantValue := 0 }, { name := "freeSpeed", type := .double, accessFlags := 18, slot := 5, constantValue := 0 }, { name := "capacity", type := .double, accessFlags := 18, slot := 6, constantValue := 0 }, { name := "waveSpeed", type := .double, accessFlags := 18, slot := 7, constantValue := 0 }, { name := "jamDensity", type := .double, accessFlags := 18, slot := 8, constantValue := 0 }, { name := "index", type := .int, accessFlags := 18, slot := 9, constantValue := 0 }, { name := "storageLimit", type := .boolean, accessFlags := 18, slot := 10, constantValue := 0 }]
  methods := #[k9m0]
  instanceTypes := #[(.object "java/lang/String"), (.object "com/example/nudo/nudo/Node"), (.object "com/example/nudo/nudo/Node"), .double, .int, .double, .double, .double, .double, .int, .boolean]
  staticTypes := #[]
  resolved := Array.replicate 143 none
  statics := none }

def pool10 : Array CpInfo := pool [(2, .class_ 4), (1, u "java/lang/Object"), (0, u "<init>"), (0, u "()V"), (1, .class_ 10), (1, u "java/lang/Number"), (2, .class_ 14), (0, u "java/io/Serializable"), (0, u "serialVersionUID"), (0, u "J")] 20

def k10m0 : Method := { name := "<init>", desc := "()V", sig := { parameters := [], returnType := none }, accessFlags := 1, code := none }
/-- java/lang/Number -/
def k10 : Class := { plain "java/lang/Number" (some 0) with
  accessFlags := 1057
  interfaces := #[3]
  cf := some (fileOf pool10 8 #[] #[{ accessFlags := 1, nameIndex := 5, descriptorIndex := 6, attributes := #[] }] 1057 2 #[13] #[{ accessFlags := 26, nameIndex := 15, descriptorIndex := 16, attributes := #[] }])
  fields := #[{ name := "serialVersionUID", type := .long, accessFlags := 26, slot := 0, constantValue := 0 }]
  methods := #[k10m0]
  instanceTypes := #[]
  staticTypes := #[.long]
  resolved := Array.replicate 37 none
  statics := none }

def pool11 : Array CpInfo := pool [(1, .class_ 2), (0, u "java/lang/Double"), (11, u "(D)Z"), (8, .class_ 25), (1, u "java/lang/Math"), (12, .methodref 23 39), (0, .nameAndType 40 41), (0, u "abs"), (0, u "(D)D"), (69, .double 9218868437227405311), (2, .class_ 116), (1, u "java/lang/Number"), (3, u "value"), (0, u "D"), (5, u "isInfinite"), (45, u "TYPE"), (0, u "Ljava/lang/Class;"), (0, .class_ 176), (0, u "java/lang/Comparable"), (0, .class_ 178), (0, u "java/lang/constant/Constable"), (0, .class_ 180), (0, u "java/lang/constant/ConstantDesc"), (0, u "POSITIVE_INFINITY"), (3, u "NEGATIVE_INFINITY"), (2, u "NaN"), (2, u "MAX_VALUE"), (0, u "MIN_NORMAL"), (0, u "MIN_VALUE"), (2, u "SIZE"), (0, u "I"), (1, u "PRECISION"), (1, u "MAX_EXPONENT"), (1, u "MIN_EXPONENT"), (1, u "BYTES"), (3, u "serialVersionUID"), (0, u "J")] 79

def k11c0 : Code := { maxStack := 4, maxLocals := 2, code := jdk_117_method_7_code, exceptionTable := #[], attributes := #[] }
def k11m0 : Method := { name := "isInfinite", desc := "(D)Z", sig := { parameters := [.double], returnType := some .boolean }, accessFlags := 9, code := some k11c0 }
/-- java/lang/Double -/
def k11 : Class := { plain "java/lang/Double" (some 10) with
  accessFlags := 49
  interfaces := #[4, 6, 7]
  cf := some (fileOf pool11 1 #[] #[{ accessFlags := 9, nameIndex := 127, descriptorIndex := 14, attributes := #[] }] 49 114 #[175, 177, 179] #[{ accessFlags := 25, nameIndex := 181, descriptorIndex := 121, attributes := #[] }, { accessFlags := 25, nameIndex := 185, descriptorIndex := 121, attributes := #[] }, { accessFlags := 25, nameIndex := 188, descriptorIndex := 121, attributes := #[] }, { accessFlags := 25, nameIndex := 191, descriptorIndex := 121, attributes := #[] }, { accessFlags := 25, nameIndex := 192, descriptorIndex := 121, attributes := #[] }, { accessFlags := 25, nameIndex := 193, descriptorIndex := 121, attributes := #[] }, { accessFlags := 25, nameIndex := 196, descriptorIndex := 197, attributes := #[] }, { accessFlags := 25, nameIndex := 199, descriptorIndex := 197, attributes := #[] }, { accessFlags := 25, nameIndex := 201, descriptorIndex := 197, attributes := #[] }, { accessFlags := 25, nameIndex := 203, descriptorIndex := 197, attributes := #[] }, { accessFlags := 25, nameIndex := 205, descriptorIndex := 197, attributes := #[] }, { accessFlags := 25, nameIndex := 173, descriptorIndex := 174, attributes := #[] }, { accessFlags := 18, nameIndex := 120, descriptorIndex := 121, attributes := #[] }, { accessFlags := 26, nameIndex := 209, descriptorIndex := 210, attributes := #[] }])
  fields := #[{ name := "POSITIVE_INFINITY", type := .double, accessFlags := 25, slot := 0, constantValue := 0 }, { name := "NEGATIVE_INFINITY", type := .double, accessFlags := 25, slot := 1, constantValue := 0 }, { name := "NaN", type := .double, accessFlags := 25, slot := 2, constantValue := 0 }, { name := "MAX_VALUE", type := .double, accessFlags := 25, slot := 3, constantValue := 0 }, { name := "MIN_NORMAL", type := .double, accessFlags := 25, slot := 4, constantValue := 0 }, { name := "MIN_VALUE", type := .double, accessFlags := 25, slot := 5, constantValue := 0 }, { name := "SIZE", type := .int, accessFlags := 25, slot := 6, constantValue := 0 }, { name := "PRECISION", type := .int, accessFlags := 25, slot := 7, constantValue := 0 }, { name := "MAX_EXPONENT", type := .int, accessFlags := 25, slot := 8, constantValue := 0 }, { name := "MIN_EXPONENT", type := .int, accessFlags := 25, slot := 9, constantValue := 0 }, { name := "BYTES", type := .int, accessFlags := 25, slot := 10, constantValue := 0 }, { name := "TYPE", type := (.object "java/lang/Class"), accessFlags := 25, slot := 11, constantValue := 0 }, { name := "value", type := .double, accessFlags := 18, slot := 0, constantValue := 0 }, { name := "serialVersionUID", type := .long, accessFlags := 26, slot := 12, constantValue := 0 }]
  methods := #[k11m0]
  instanceTypes := #[.double]
  staticTypes := #[.double, .double, .double, .double, .double, .double, .int, .int, .int, .int, .int, (.object "java/lang/Class"), .long]
  resolved := Array.replicate 290 none
  statics := none }

def pool12 : Array CpInfo := pool [(1, .class_ 2), (0, u "java/lang/Math"), (1, .class_ 6), (1, u "java/lang/Object"), (0, u "<init>"), (0, u "()V"), (5, u "(D)D"), (83, .class_ 100), (1, u "java/lang/Math$RandomNumberGeneratorHolder"), (23, u "abs"), (47, u "negativeZeroFloatBits"), (0, u "J"), (2, u "negativeZeroDoubleBits"), (21, u "max"), (46, u "$assertionsDisabled"), (0, u "Z"), (88, u "(II)I"), (2, u "twoToTheDoubleScaleDown"), (0, u "D"), (4, u "twoToTheDoubleScaleUp"), (9, u "E"), (3, u "PI"), (2, u "TAU"), (2, u "DEGREES_TO_RADIANS"), (0, u "RADIANS_TO_DEGREES")] 94

def k12m0 : Method := { name := "<init>", desc := "()V", sig := { parameters := [], returnType := none }, accessFlags := 2, code := none }
def k12c1 : Code := { maxStack := 4, maxLocals := 2, code := jdk_29_method_64_code, exceptionTable := #[], attributes := #[] }
def k12m1 : Method := { name := "abs", desc := "(D)D", sig := { parameters := [.double], returnType := some .double }, accessFlags := 9, code := some k12c1 }
def k12c2 : Code := { maxStack := 2, maxLocals := 2, code := jdk_29_method_65_code, exceptionTable := #[], attributes := #[] }
def k12m2 : Method := { name := "max", desc := "(II)I", sig := { parameters := [.int, .int], returnType := some .int }, accessFlags := 9, code := some k12c2 }
/-- java/lang/Math -/
def k12 : Class := { plain "java/lang/Math" (some 0) with
  accessFlags := 49
  interfaces := #[]
  cf := some (fileOf pool12 1 #[.nestMembers #[98]] #[{ accessFlags := 2, nameIndex := 7, descriptorIndex := 8, attributes := #[] }, { accessFlags := 9, nameIndex := 124, descriptorIndex := 14, attributes := #[] }, { accessFlags := 9, nameIndex := 198, descriptorIndex := 335, attributes := #[] }] 49 4 #[] #[{ accessFlags := 25, nameIndex := 354, descriptorIndex := 339, attributes := #[] }, { accessFlags := 25, nameIndex := 358, descriptorIndex := 339, attributes := #[] }, { accessFlags := 25, nameIndex := 361, descriptorIndex := 339, attributes := #[] }, { accessFlags := 26, nameIndex := 364, descriptorIndex := 339, attributes := #[] }, { accessFlags := 26, nameIndex := 365, descriptorIndex := 339, attributes := #[] }, { accessFlags := 26, nameIndex := 172, descriptorIndex := 173, attributes := #[] }, { accessFlags := 26, nameIndex := 176, descriptorIndex := 173, attributes := #[] }, { accessFlags := 8, nameIndex := 344, descriptorIndex := 339, attributes := #[] }, { accessFlags := 8, nameIndex := 338, descriptorIndex := 339, attributes := #[] }, { accessFlags := 4120, nameIndex := 245, descriptorIndex := 246, attributes := #[] }])
  fields := #[{ name := "E", type := .double, accessFlags := 25, slot := 0, constantValue := 0 }, { name := "PI", type := .double, accessFlags := 25, slot := 1, constantValue := 0 }, { name := "TAU", type := .double, accessFlags := 25, slot := 2, constantValue := 0 }, { name := "DEGREES_TO_RADIANS", type := .double, accessFlags := 26, slot := 3, constantValue := 0 }, { name := "RADIANS_TO_DEGREES", type := .double, accessFlags := 26, slot := 4, constantValue := 0 }, { name := "negativeZeroFloatBits", type := .long, accessFlags := 26, slot := 5, constantValue := 0 }, { name := "negativeZeroDoubleBits", type := .long, accessFlags := 26, slot := 6, constantValue := 0 }, { name := "twoToTheDoubleScaleUp", type := .double, accessFlags := 8, slot := 7, constantValue := 0 }, { name := "twoToTheDoubleScaleDown", type := .double, accessFlags := 8, slot := 8, constantValue := 0 }, { name := "$assertionsDisabled", type := .boolean, accessFlags := 4120, slot := 9, constantValue := 0 }]
  methods := #[k12m0, k12m1, k12m2]
  instanceTypes := #[]
  staticTypes := #[.double, .double, .double, .double, .double, .long, .long, .double, .double, .boolean]
  resolved := Array.replicate 460 none
  statics := none }

def pool13 : Array CpInfo := pool [(1, .methodref 2 3), (0, .class_ 4), (0, .nameAndType 5 6), (0, u "java/lang/Object"), (0, u "<init>"), (0, u "()V"), (0, .methodref 8 9), (0, .class_ 10), (0, .nameAndType 11 12), (0, u "java/lang/Double"), (0, u "isInfinite"), (0, u "(D)Z"), (9, .fieldref 23 24), (0, .class_ 25), (0, .nameAndType 26 27), (0, u "com/example/nudo/nudo/FollowingDistance"), (0, u "vehicleLength"), (0, u "D"), (15, u "(D)V")] 24

def k13c0 : Code := { maxStack := 4, maxLocals := 3, code := prog_20_method_1_code, exceptionTable := #[], attributes := #[] }
def k13m0 : Method := { name := "<init>", desc := "(D)V", sig := { parameters := [.double], returnType := none }, accessFlags := 1, code := some k13c0 }
/-- com/example/nudo/nudo/FollowingDistance -/
def k13 : Class := { plain "com/example/nudo/nudo/FollowingDistance" (some 0) with
  accessFlags := 49
  interfaces := #[]
  cf := some (fileOf pool13 23 #[] #[{ accessFlags := 1, nameIndex := 5, descriptorIndex := 43, attributes := #[] }] 49 2 #[] #[{ accessFlags := 18, nameIndex := 26, descriptorIndex := 27, attributes := #[] }])
  fields := #[{ name := "vehicleLength", type := .double, accessFlags := 18, slot := 0, constantValue := 0 }]
  methods := #[k13m0]
  instanceTypes := #[.double]
  staticTypes := #[]
  resolved := Array.replicate 68 none
  statics := none }

def pool14 : Array CpInfo := pool [(1, u "java/lang/Cloneable"), (0, .class_ 1), (0, u "java/lang/Object"), (0, .class_ 3)] 3

/-- java/lang/Cloneable -/
def k14 : Class := { plain "java/lang/Cloneable" (some 0) with
  accessFlags := 1537
  interfaces := #[]
  cf := some (fileOf pool14 2 #[] #[] 1537 4 #[] #[])
  fields := #[]
  methods := #[]
  instanceTypes := #[]
  staticTypes := #[]
  resolved := Array.replicate 8 none
  statics := none }

/-- the primitive byte -/
def k15 : Class := { plain "byte" none with kind := .primitive 'B', accessFlags := 0x411 }
/-- [B -/
def k16 : Class := { plain "[B" (some 0) with kind := .array 15 .byte, interfaces := #[14, 3], accessFlags := 1041 }

/-- the primitive int -/
def k17 : Class := { plain "int" none with kind := .primitive 'I', accessFlags := 0x411 }
/-- [I -/
def k18 : Class := { plain "[I" (some 0) with kind := .array 17 .int, interfaces := #[14, 3], accessFlags := 1041 }

def heap : Heap := #[]
def classes : Array Class := #[k0, k1, k2, k3, k4, k5, k6, k7, k8, k9, k10, k11, k12, k13, k14, k15, k16, k17, k18]
def interned : List (Array UInt16 × Addr) := []
def slotsUsed : Nat := 0
def theMethod : MethodId := ⟨1, 1⟩
def args0 : Array Value := #[.int 3, .int 4, .int 5, .int 6, .int 7]
def aboutOver (below : List Frame) : State where
  vm := { classes := classes, interned := interned.toArray }
  heap := heap
  slotsUsed := slotsUsed
  threads := #[{ frames := .invoking theMethod args0 :: below }]
def below0 : List Frame := [.native { method := ⟨0, 0⟩, args := #[] }]
def about1 : State := aboutOver below0
def p0 : Program := .bare "" "" ""
def e0 : Env := launch0.env 0 0 0
theorem w_frames : about1.frames = Frame.invoking theMethod args0 :: below0 := rfl
set_option maxRecDepth 65536 in
theorem w_args : argsFit about1.vm theMethod args0 = true := by decide +kernel
set_option maxRecDepth 65536 in
theorem w_heap : heapFits about1 = true := by decide +kernel
set_option maxRecDepth 65536 in
theorem w_runnable : about1.curStatus? = some .runnable := by decide +kernel
set_option maxRecDepth 65536 in
theorem w_alone : about1.alone = true := by decide +kernel
set_option maxRecDepth 65536 in
theorem w_named : about1.methodNamed? x = some theMethod := by decide +kernel
set_option maxRecDepth 65536 in
theorem w_hears : about1.hears theMethod below0 = true := by decide +kernel
set_option maxRecDepth 65536 in
theorem w_ripe : about1.ripe theMethod args0 below0 = true := by decide +kernel
theorem w_running : about1.status = .running := rfl
set_option maxRecDepth 65536 in
theorem w_room : about1.hasRoom e0.platform room_1 = true :=
  launch0.hasRoom_least _ room_1 (by decide +kernel) (by decide +kernel) (by decide +kernel) (by decide +kernel) (by decide +kernel) (by decide +kernel)
theorem allAtoms_all (ts : List Jvm.Cond) (a : Array Jvm.Value) (st : Jvm.State) : (allAtoms ts).before a st = ts.all (fun c => c.before a st) := by
  induction ts with
  | nil => rfl
  | cons c t ih =>
    show (Jvm.Cond.and c (allAtoms t)).before a st = _
    rw [Jvm.Cond.before_and, ih, List.all_cons]
def words1 : List Jvm.Cond := Jvm.Cond.code x code maxLocals ret :: tables_1
/-- a 'code' word, met by the world's own term for the bytes: nothing is compared byte by byte -/
theorem code_word {y : MethodName} {bytes : ByteArray} {mx : Nat} {rt : Option FieldType} {a : Array Value} {s : State} {m : MethodId} {meth : Method} {c : Code} (h1 : s.methodNamed? y = some m) (h2 : s.vm.method? m = some meth) (h3 : meth.code = some c) (h4 : c.code = bytes)
    (h5 : (c.maxLocals == mx && c.exceptionTable.isEmpty && decide (c.maxStack ≤ mostOperands) && decide (meth.sig.returnType = rt) && !meth.locks && decide (parseMethodDescriptor y.desc = some meth.sig)) = true) : (Jvm.Cond.code y bytes mx rt).before a s = true := by
  simp only [Bool.and_eq_true, beq_iff_eq, Bool.not_eq_true', decide_eq_true_eq] at h5
  obtain ⟨⟨⟨⟨⟨g1, g2⟩, g3⟩, g4⟩, g5⟩, g6⟩ := h5
  simp [Cond.before, Cond.holds, Cond.value, h1, h2, h3, h4, g1, g2, g3, g4, g5, g6]
def isCode : Jvm.Cond → Bool
  | .code _ _ _ _ => true
  | _ => false
theorem all_split {L : List Jvm.Cond} {P : Jvm.Cond → Bool} (h1 : L.all (fun c => isCode c || P c) = true) (h2 : ∀ c ∈ L.filter isCode, P c = true) : L.all P = true := by
  refine List.all_eq_true.mpr fun c hc => ?_
  have h := List.all_eq_true.mp h1 c hc
  rcases Bool.eq_false_or_eq_true (isCode c) with hi | hi
  · exact h2 c (List.mem_filter.mpr ⟨hc, hi⟩)
  · simpa [hi] using h
set_option maxRecDepth 65536 in
theorem w_c0 : (Jvm.Cond.code x code maxLocals ret).before args0 about1 = true := code_word (m := ⟨1, 1⟩) (meth := k1m1) (c := k1c1) (by decide +kernel) rfl rfl rfl (by decide +kernel)
set_option maxRecDepth 65536 in
theorem w_c1 : (Jvm.Cond.code ({ cls := "com/example/nudo/nudo/VehicleClasses", name := "<init>", desc := "(DDD)V" } : Jvm.MethodName) prog_50_method_1_code (7 : Nat) (Option.none : Option Jvm.ClassFile.FieldType)).before args0 about1 = true := code_word (m := ⟨2, 0⟩) (meth := k2m0) (c := k2c0) (by decide +kernel) rfl rfl rfl (by decide +kernel)
set_option maxRecDepth 65536 in
theorem w_c2 : (Jvm.Cond.code ({ cls := "java/lang/Object", name := "<init>", desc := "()V" } : Jvm.MethodName) object_method_1_code (1 : Nat) (Option.none : Option Jvm.ClassFile.FieldType)).before args0 about1 = true := code_word (m := ⟨0, 0⟩) (meth := k0m0) (c := k0c0) (by decide +kernel) rfl rfl rfl (by decide +kernel)
set_option maxRecDepth 65536 in
theorem w_c3 : (Jvm.Cond.code ({ cls := "com/example/nudo/nudo/Link", name := "requirePositive", desc := "(DLjava/lang/String;)D" } : Jvm.MethodName) prog_27_method_20_code (3 : Nat) (Option.some Jvm.ClassFile.FieldType.double)).before args0 about1 = true := code_word (m := ⟨9, 0⟩) (meth := k9m0) (c := k9c0) (by decide +kernel) rfl rfl rfl (by decide +kernel)
set_option maxRecDepth 65536 in
theorem w_c4 : (Jvm.Cond.code ({ cls := "java/lang/Double", name := "isInfinite", desc := "(D)Z" } : Jvm.MethodName) jdk_117_method_7_code (2 : Nat) (Option.some Jvm.ClassFile.FieldType.boolean)).before args0 about1 = true := code_word (m := ⟨11, 0⟩) (meth := k11m0) (c := k11c0) (by decide +kernel) rfl rfl rfl (by decide +kernel)
set_option maxRecDepth 65536 in
theorem w_c5 : (Jvm.Cond.code ({ cls := "java/lang/Math", name := "abs", desc := "(D)D" } : Jvm.MethodName) jdk_29_method_64_code (2 : Nat) (Option.some Jvm.ClassFile.FieldType.double)).before args0 about1 = true := code_word (m := ⟨12, 1⟩) (meth := k12m1) (c := k12c1) (by decide +kernel) rfl rfl rfl (by decide +kernel)
set_option maxRecDepth 65536 in
theorem w_c6 : (Jvm.Cond.code ({ cls := "com/example/nudo/nudo/FollowingDistance", name := "<init>", desc := "(D)V" } : Jvm.MethodName) prog_20_method_1_code (3 : Nat) (Option.none : Option Jvm.ClassFile.FieldType)).before args0 about1 = true := code_word (m := ⟨13, 0⟩) (meth := k13m0) (c := k13c0) (by decide +kernel) rfl rfl rfl (by decide +kernel)
set_option maxRecDepth 65536 in
theorem w_c7 : (Jvm.Cond.code ({ cls := "com/example/nudo/nudo/VehicleClasses", name := "meanReactionTime", desc := "(II)D" } : Jvm.MethodName) prog_50_method_4_code (5 : Nat) (Option.some Jvm.ClassFile.FieldType.double)).before args0 about1 = true := code_word (m := ⟨2, 1⟩) (meth := k2m1) (c := k2c1) (by decide +kernel) rfl rfl rfl (by decide +kernel)
set_option maxRecDepth 65536 in
theorem w_c8 : (Jvm.Cond.code ({ cls := "java/lang/Math", name := "max", desc := "(II)I" } : Jvm.MethodName) jdk_29_method_65_code (2 : Nat) (Option.some Jvm.ClassFile.FieldType.int)).before args0 about1 = true := code_word (m := ⟨12, 2⟩) (meth := k12m2) (c := k12c2) (by decide +kernel) rfl rfl rfl (by decide +kernel)
def codes1 : List Jvm.Cond := [Jvm.Cond.code x code maxLocals ret, Jvm.Cond.code ({ cls := "com/example/nudo/nudo/VehicleClasses", name := "<init>", desc := "(DDD)V" } : Jvm.MethodName) prog_50_method_1_code (7 : Nat) (Option.none : Option Jvm.ClassFile.FieldType), Jvm.Cond.code ({ cls := "java/lang/Object", name := "<init>", desc := "()V" } : Jvm.MethodName) object_method_1_code (1 : Nat) (Option.none : Option Jvm.ClassFile.FieldType), Jvm.Cond.code ({ cls := "com/example/nudo/nudo/Link", name := "requirePositive", desc := "(DLjava/lang/String;)D" } : Jvm.MethodName) prog_27_method_20_code (3 : Nat) (Option.some Jvm.ClassFile.FieldType.double), Jvm.Cond.code ({ cls := "java/lang/Double", name := "isInfinite", desc := "(D)Z" } : Jvm.MethodName) jdk_117_method_7_code (2 : Nat) (Option.some Jvm.ClassFile.FieldType.boolean), Jvm.Cond.code ({ cls := "java/lang/Math", name := "abs", desc := "(D)D" } : Jvm.MethodName) jdk_29_method_64_code (2 : Nat) (Option.some Jvm.ClassFile.FieldType.double), Jvm.Cond.code ({ cls := "com/example/nudo/nudo/FollowingDistance", name := "<init>", desc := "(D)V" } : Jvm.MethodName) prog_20_method_1_code (3 : Nat) (Option.none : Option Jvm.ClassFile.FieldType), Jvm.Cond.code ({ cls := "com/example/nudo/nudo/VehicleClasses", name := "meanReactionTime", desc := "(II)D" } : Jvm.MethodName) prog_50_method_4_code (5 : Nat) (Option.some Jvm.ClassFile.FieldType.double), Jvm.Cond.code ({ cls := "java/lang/Math", name := "max", desc := "(II)I" } : Jvm.MethodName) jdk_29_method_65_code (2 : Nat) (Option.some Jvm.ClassFile.FieldType.int)]
set_option maxRecDepth 65536 in
theorem codes_eq : words1.filter isCode = codes1 := rfl
theorem w_codes : ∀ c ∈ words1.filter isCode, c.before args0 about1 = true := by
  rw [codes_eq]
  intro c hc
  simp only [codes1, List.mem_cons, List.not_mem_nil, or_false] at hc
  rcases hc with rfl | rfl | rfl | rfl | rfl | rfl | rfl | rfl | rfl
  · exact w_c0
  · exact w_c1
  · exact w_c2
  · exact w_c3
  · exact w_c4
  · exact w_c5
  · exact w_c6
  · exact w_c7
  · exact w_c8
set_option maxRecDepth 65536 in
theorem w_t1 : (words1.take 24).all (fun c => isCode c || c.before args0 about1) = true := by decide +kernel
set_option maxRecDepth 65536 in
theorem w_t2 : ((words1.drop 24).take 24).all (fun c => isCode c || c.before args0 about1) = true := by decide +kernel
set_option maxRecDepth 65536 in
theorem w_t3 : ((words1.drop 24).drop 24).all (fun c => isCode c || c.before args0 about1) = true := by decide +kernel
theorem w_tables : (allAtoms (Jvm.Cond.code x code maxLocals ret :: tables_1)).before args0 about1 = true := by
  rw [allAtoms_all]
  show words1.all (fun c => c.before args0 about1) = true
  refine all_split ?_ w_codes
  rw [← List.take_append_drop 24 words1, List.all_append, w_t1, ← List.take_append_drop 24 (words1.drop 24), List.all_append, w_t2, w_t3]
  rfl
set_option maxRecDepth 65536 in
theorem w_case : (Jvm.Cond.and given_1 narrow_1).before args0 about1 = true := by decide +kernel
theorem w_applies : (headSpec (Jvm.Cond.code x code maxLocals ret :: tables_1) room_1).applies x e0.platform about1 = true :=
  (Spec.applies_iff w_frames).mpr ⟨w_running, w_runnable, w_alone, w_named, w_hears, w_ripe, w_room, w_tables⟩
theorem atStart : AtStart classFile x code maxLocals ret World_1 tables_1 room_1 Calls_1 rest_1 Pre_1 launch0 p0 e0 about1 theMethod args0 below0 :=
  ⟨lists_1, trivial, launch0.admits_env _ _ _, launch0.least_env, fairChoices_fair.cas, fairChoices_fair.clock, w_frames, w_args, w_heap, w_applies, trivial, trivial, w_case⟩
end start1
theorem witness_1 : WitnessClaimed_1 := ⟨start1.p0, start1.e0, start1.about1, start1.theMethod, start1.args0, start1.below0, start1.atStart⟩
end Jvm.Pilot.@@N@@
