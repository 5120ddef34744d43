import JvmDerived
import JvmDerived.Pilot.@@N@@Statement
import JvmDerived.Pilot.@@N@@Code
set_option linter.unusedVariables false
set_option linter.unusedSimpArgs false
namespace Jvm.Pilot.@@N@@
open Jvm Jvm.ClassFile Sem Op Lib Jvm.Free Jvm.Stand Jvm.LawKit Jvm.RoadKit Bundle Jvm.Pilot.@@N@@.Jvm.D
/-- the run from U comes to a return whose value, heap and written places Q takes; it has made at most kc cells of ks slots -/
def own_Go (p : Program) (e : Env) (below : List Frame) (s : State) (Q : Option Value → Heap → List Loc → Prop) (kc ks : Nat) (U : State) : Prop :=
  ∃ t o, Steps p.tables e below U t ∧ t.status = .running ∧ Ended t below o ∧ ∃ v L, o = .returned v ∧ Q v t.heap L ∧ FrameEnd s o t L kc ks
section OwnKit
variable {p : Program} {l : Launch} {e : Env} {R : Room} {s : State} {m : MethodId} {args : Array Value} {below : List Frame} {meth : Method} {c : Code} {T : State} {locs : List Loc} {cells slots kc ks : Nat} {Z : State} {a0 : Array Value} {h : Heap} {Q : Option Value → Heap → List Loc → Prop}
theorem own_go {U U' : State} (f : ∀ t, Steps p.tables e below U' t → Steps p.tables e below U t) (g : own_Go p e below s Q kc ks U') : own_Go p e below s Q kc ks U := by
  obtain ⟨t, o, a, r⟩ := g
  exact ⟨t, o, f t a, r⟩
theorem own_end (X : Stand p l e R s m args below meth c T locs cells slots) (hlk : meth.locks = false) (eT : T.heap = h) {v : Option Value} (hv : meth.sig.returnType = none → v = none) (hc : cells ≤ kc) (hs : slots ≤ ks) (hq : Q v h locs) {U : State}
    (hst : ∀ fs, (∀ (f : JFrame) (acts : List Action), f.method = m → f.locked = none → f.entered = [] → (doReturn e (T.setTop f) acts v).1 = T.setFrames fs) → Steps p.tables e below U (T.setFrames fs)) : own_Go p e below s Q kc ks U := by
  obtain ⟨fs, hr, hrun, hended, hW, hsame⟩ := X.leave (v := v) hv hlk
  refine ⟨_, _, hst fs hr, hrun, hended, v, locs, rfl, ?_, ⟨v, rfl⟩, hW, hsame.mono hc hs⟩
  show Q v T.heap locs
  rw [eT]; exact hq
theorem own_retN (X : Stand p l e R s m args below meth c T locs cells slots) (hx : p.tables.exec = Jvm.exec) (hlk : meth.locks = false) (eT : T.heap = h) {pc : Nat} {Ls : Array Slot} {z : Int32} {t : FieldType} {rest : List Value} (hret : meth.sig.returnType = some t) (ht : t = .boolean ∨ t = .byte ∨ t = .char ∨ t = .short)
    (hd : decode c.code pc = .ok (.ireturn, 1)) (hc : cells ≤ kc) (hs : slots ≤ ks) (hq : Q (some (.int (nar t z))) h locs) : own_Go p e below s Q kc ks (T.setTop (mkF m pc Ls (.int z :: rest))) :=
  own_end X hlk eT (fun q => by rw [hret] at q; cases q) hc hs hq fun fs hr => retN X hx hret ht hd hr
theorem own_retI (X : Stand p l e R s m args below meth c T locs cells slots) (hx : p.tables.exec = Jvm.exec) (hlk : meth.locks = false) (eT : T.heap = h) {pc : Nat} {Ls : Array Slot} {z : Int32} {rest : List Value} (hret : meth.sig.returnType = some .int)
    (hd : decode c.code pc = .ok (.ireturn, 1)) (hc : cells ≤ kc) (hs : slots ≤ ks) (hq : Q (some (.int z)) h locs) : own_Go p e below s Q kc ks (T.setTop (mkF m pc Ls (.int z :: rest))) :=
  own_end X hlk eT (fun q => by rw [hret] at q; cases q) hc hs hq fun fs hr => retOut X hx hret rfl (Or.inl ⟨rfl, Or.inl rfl, z, rfl⟩) hd hr
theorem own_retJ (X : Stand p l e R s m args below meth c T locs cells slots) (hx : p.tables.exec = Jvm.exec) (hlk : meth.locks = false) (eT : T.heap = h) {pc : Nat} {Ls : Array Slot} {z : Int64} {rest : List Value} (hret : meth.sig.returnType = some .long)
    (hd : decode c.code pc = .ok (.lreturn, 1)) (hc : cells ≤ kc) (hs : slots ≤ ks) (hq : Q (some (.long z)) h locs) : own_Go p e below s Q kc ks (T.setTop (mkF m pc Ls (.long z :: rest))) :=
  own_end X hlk eT (fun q => by rw [hret] at q; cases q) hc hs hq fun fs hr => retOut X hx hret rfl (Or.inr (Or.inl ⟨rfl, rfl, z, rfl⟩)) hd hr
theorem own_retA (X : Stand p l e R s m args below meth c T locs cells slots) (hx : p.tables.exec = Jvm.exec) (hlk : meth.locks = false) (eT : T.heap = h) {pc : Nat} {Ls : Array Slot} {v : Value} {t : FieldType} {rest : List Value} (hret : meth.sig.returnType = some t) (ht : t.isReference = true) (hv : v.isRef = true)
    (hd : decode c.code pc = .ok (.areturn, 1)) (hc : cells ≤ kc) (hs : slots ≤ ks) (hq : Q (some v) h locs) : own_Go p e below s Q kc ks (T.setTop (mkF m pc Ls (v :: rest))) :=
  own_end X hlk eT (fun q => by rw [hret] at q; cases q) hc hs hq fun fs hr => retOut X hx hret (by cases t <;> first | (cases ht; done) | (rcases ref_cases hv with rfl | ⟨_, rfl⟩ <;> rfl)) (Or.inr (Or.inr (Or.inr (Or.inr ⟨rfl, ht, hv⟩)))) hd hr
theorem own_retV (X : Stand p l e R s m args below meth c T locs cells slots) (hx : p.tables.exec = Jvm.exec) (hlk : meth.locks = false) (eT : T.heap = h) {pc : Nat} {Ls : Array Slot} (hret : meth.sig.returnType = none)
    (hd : decode c.code pc = .ok (.return_, 1)) (hc : cells ≤ kc) (hs : slots ≤ ks) (hq : Q none h locs) : own_Go p e below s Q kc ks (T.setTop (mkF m pc Ls [])) :=
  own_end X hlk eT (fun _ => rfl) hc hs hq fun fs hr => X.returnOut hx hret hd hr
/-- a body's contract out of its walk -/
theorem own_met {y : MethodName} {bytes : ByteArray} {maxL : Nat} {ret : Option FieldType} {ws : List Jvm.Cond} {rm : Room} {as' : Array Value} (kc ks : Nat) (hpl : plainFor y = true)
    (body : ∀ (p : Program) (e : Env) (s : State) (m : MethodId) (below : List Frame) (meth : Method) (c : Code) (T : State), Stand p l e rm s m as' below meth c T [] 0 0 → p.tables.exec = Jvm.exec → c.code = bytes → c.maxLocals = maxL → meth.sig.returnType = ret → meth.locks = false → Z.Warmed39 s.vm → s.vm.findClass y.cls = some m.cls → meth.name = y.name → T.heap = h →
      own_Go p e below s Q kc ks (T.setTop (entryFrame m as' maxL))) :
    MetFree l y (head1 (Jvm.Cond.code y bytes maxL ret :: ws) rm) (fun a U => a = as' ∧ Z.Warmed39 U.vm ∧ U.heap = h) (fun _ _ _ _ _ => True) (fun _ U o U' => ∃ v L, o = .returned v ∧ Q v U'.heap L ∧ FrameEnd U o U' L kc ks) := by
  refine MetFree.of_bodySF hpl hisR ?_
  intro p e s m args below meth c s₁ Bd hml hP hK
  obtain ⟨rfl, hZ, hh⟩ := hP
  obtain ⟨t, o, h1, h2, h3, h4⟩ := body p e s m below meth c s₁ (Stand.of_body Bd) Bd.exec Bd.bytes hml Bd.returns Bd.notSynchronized hZ (findClass_of_methodNamed Bd.named) (name_of_methodNamed Bd.named Bd.method).1 (by rw [← hh, Bd.state]; rfl)
  exact ⟨t, o, h1, h2, h3, h4⟩
abbrev own_Met (l : Launch) (Z : State) (h : Heap) (y : MethodName) (bytes : ByteArray) (maxL : Nat) (ret : Option FieldType) (rm : Room) (as' : Array Value) (Q : Option Value → Heap → List Loc → Prop) : Prop :=
  MetFree l y (head1 [Jvm.Cond.code y bytes maxL ret] rm) (fun a U => a = as' ∧ Z.Warmed39 U.vm ∧ U.heap = h) (fun _ _ _ _ _ => True) (fun _ U o U' => ∃ v L, o = .returned v ∧ Q v U'.heap L ∧ FrameEnd U o U' L rm.cells rm.slots)
abbrev own_MF (l : Launch) (Z : State) (h : Heap) (y : MethodName) (bytes : ByteArray) (maxL : Nat) (ret : Option FieldType) (rm : Room) (as' : Array Value) (Q : Option Value → Heap → List Loc → Prop) (ws : List Jvm.Cond) : Prop :=
  MetFree l y (head1 (Jvm.Cond.code y bytes maxL ret :: ws) rm) (fun a U => a = as' ∧ Z.Warmed39 U.vm ∧ U.heap = h) (fun _ _ _ _ _ => True) (fun _ U o U' => ∃ v L, o = .returned v ∧ Q v U'.heap L ∧ FrameEnd U o U' L rm.cells rm.slots)
theorem own_callS {y : MethodName} {bytes : ByteArray} {maxL : Nat} {ret : Option FieldType} {rm : Room} {as' : Array Value} {own : String} {index : Nat} (X : Stand p l e R s m args below meth c T locs cells slots) (hx : p.tables.exec = Jvm.exec) (hZ : Z.Warmed39 s.vm) (hown : s.vm.findClass own = some m.cls)
    (w1 : (Jvm.Cond.methodLink own index y).before a0 Z = true) (w2 : (Jvm.Cond.static y).before a0 Z = true) (w3 : (Jvm.Cond.initialized y.cls).before a0 Z = true) (w4 : (Jvm.Cond.code y bytes maxL ret).before a0 Z = true) (hM : own_Met l Z h y bytes maxL ret rm as' Q) (W : Nat) (nc ns : Nat) 
    (hc : cells + nc ≤ R.cells) (hs : slots + ns ≤ R.slots) (eT : T.heap = h) {g : JFrame} (hg : g.method = m) (hsize : g.locals.size = c.maxLocals)
    (argsL rest : List Value) (hlen : ∀ sig, parseMethodDescriptor y.desc = some sig → argsL.length = sig.parameters.length) (hstack : g.stack = argsL.reverse ++ rest) (has : argsL.toArray = as') (hdg : decode c.code g.pc = .ok (.invokestatic index, 3))
    (hy : y.cls ≠ "java/lang/invoke/MethodHandle" ∧ y.cls ≠ "java/lang/invoke/VarHandle" := by decide) (hf : rm.frames + 1 ≤ R.frames := by decide) (hl : W + (maxL + 11) + rm.locals ≤ R.locals := by decide) (hW : 2 * g.monitorRoom + (rest.map fun v => v.category).sum ≤ W := by exact Nat.le_of_eq rfl) (hnc : rm.cells = nc := by rfl) (hns : rm.slots = ns := by rfl) :
    ∃ v T' L, Stand p l e R s m args below meth c T' (locs ++ L) (cells + nc) (slots + ns) ∧ Q v T'.heap L ∧ ∀ target, Steps p.tables e below (T'.setTop { g with pc := g.pc + 3, stack := v.toList ++ rest }) target → Steps p.tables e below (T.setTop g) target := by
  subst hnc hns
  obtain ⟨v, _, ⟨T', L', k', n'⟩, -, X', ⟨L, hQ, h1, h2, h3⟩, st⟩ := Jvm.LawKit.callS X hx hown (mvT hZ w1) (mvT hZ w2) (mvT hZ w3) (mvT hZ w4) hy (backOf (W := W) hM hZ w4 w3 hf hl) hg hsize hlen hstack hW hdg (fun _ _ => ⟨has, eT, hc, hs⟩)
  dsimp only [Pt.U, Pt.locs, Pt.cells, Pt.slots] at X' hQ h1 h2 h3 st
  subst h1 h2 h3
  exact ⟨v, T', L, X', hQ, st⟩
theorem own_callI {y : MethodName} {bytes : ByteArray} {maxL : Nat} {rm : Room} {as' : Array Value} {own : String} {index : Nat} (X : Stand p l e R s m args below meth c T locs cells slots) (hx : p.tables.exec = Jvm.exec) (hZ : Z.Warmed39 s.vm) (hown : s.vm.findClass own = some m.cls)
    (w1 : (Jvm.Cond.methodLink own index y).before a0 Z = true) (w2 : (Jvm.Cond.instanceMethod y).before a0 Z = true) (w3 : (Jvm.Cond.initialized y.cls).before a0 Z = true) (w4 : (Jvm.Cond.code y bytes maxL none).before a0 Z = true) (hM : own_Met l Z h y bytes maxL none rm as' Q) (W : Nat) (nc ns : Nat) (hy1 : y.name = "<init>")
    (hc : cells + nc ≤ R.cells) (hs : slots + ns ≤ R.slots) (eT : T.heap = h) {g : JFrame} (hg : g.method = m) (hsize : g.locals.size = c.maxLocals)
    (a : Addr) (argsL rest : List Value) (hlen : ∀ sig, parseMethodDescriptor y.desc = some sig → argsL.length = sig.parameters.length) (hstack : g.stack = argsL.reverse ++ .ref a :: rest) (has : (Value.ref a :: argsL).toArray = as') (hdg : decode c.code g.pc = .ok (.invokespecial index, 3))
    (hy : y.cls ≠ "java/lang/invoke/MethodHandle" ∧ y.cls ≠ "java/lang/invoke/VarHandle" := by decide) (hf : rm.frames + 1 ≤ R.frames := by decide) (hl : W + (maxL + 11) + rm.locals ≤ R.locals := by decide) (hW : 2 * g.monitorRoom + (rest.map fun v => v.category).sum ≤ W := by exact Nat.le_of_eq rfl) (hnc : rm.cells = nc := by rfl) (hns : rm.slots = ns := by rfl) :
    ∃ v T' L, Stand p l e R s m args below meth c T' (locs ++ L) (cells + nc) (slots + ns) ∧ Q v T'.heap L ∧ ∀ target, Steps p.tables e below (T'.setTop { g with pc := g.pc + 3, stack := v.toList ++ rest }) target → Steps p.tables e below (T.setTop g) target := by
  subst hnc hns
  obtain ⟨v, _, ⟨T', L', k', n'⟩, -, X', ⟨L, hQ, h1, h2, h3⟩, st⟩ := X.specialBack hx hy1 hown (mvT hZ w1) (mvT hZ w2) (mvT hZ w4) hy (backOf (W := W) hM hZ w4 w3 hf hl) hg hsize (Steps.refl _) (a := a) (argsL := argsL) (rest := rest) hlen hstack hW hdg (fun _ _ => ⟨has, eT, hc, hs⟩)
  dsimp only [Pt.U, Pt.locs, Pt.cells, Pt.slots] at X' hQ h1 h2 h3 st
  subst h1 h2 h3
  exact ⟨v, T', L, X', hQ, fun _ k => st.trans k⟩
theorem own_callV {y z : MethodName} {bytes : ByteArray} {maxL : Nat} {ret : Option FieldType} {rm : Room} {as' : Array Value} {own C : String} {index : Nat} (X : Stand p l e R s m args below meth c T locs cells slots) (hx : p.tables.exec = Jvm.exec) (hZ : Z.Warmed39 s.vm) (hown : s.vm.findClass own = some m.cls)
    (w1 : (Jvm.Cond.methodLink own index y).before a0 Z = true) (wd : (Jvm.Cond.declares y).before a0 Z = true) (nf : NotFace s y) (wsel : (Jvm.Cond.selects C y z).before a0 Z = true) (w2 : (Jvm.Cond.instanceMethod z).before a0 Z = true) (w3 : (Jvm.Cond.initialized z.cls).before a0 Z = true) (w4 : (Jvm.Cond.code z bytes maxL ret).before a0 Z = true) (hM : own_Met l Z h z bytes maxL ret rm as' Q) (W : Nat) (nc ns : Nat) 
    (hc : cells + nc ≤ R.cells) (hs : slots + ns ≤ R.slots) (eT : T.heap = h) {a : Addr} (E : Exa Z h a C) {g : JFrame} (hg : g.method = m) (hsize : g.locals.size = c.maxLocals)
    (argsL rest : List Value) (hlen : ∀ sig, parseMethodDescriptor y.desc = some sig → argsL.length = sig.parameters.length) (hstack : g.stack = argsL.reverse ++ .ref a :: rest) (has : (Value.ref a :: argsL).toArray = as') (hdg : decode c.code g.pc = .ok (.invokevirtual index, 3))
    (hy : y.cls ≠ "java/lang/invoke/MethodHandle" ∧ y.cls ≠ "java/lang/invoke/VarHandle" := by decide) (hf : rm.frames + 1 ≤ R.frames := by decide) (hl : W + (maxL + 11) + rm.locals ≤ R.locals := by decide) (hW : 2 * g.monitorRoom + (rest.map fun v => v.category).sum ≤ W := by exact Nat.le_of_eq rfl) (hnc : rm.cells = nc := by rfl) (hns : rm.slots = ns := by rfl) :
    ∃ v T' L, Stand p l e R s m args below meth c T' (locs ++ L) (cells + nc) (slots + ns) ∧ Q v T'.heap L ∧ ∀ target, Steps p.tables e below (T'.setTop { g with pc := g.pc + 3, stack := v.toList ++ rest }) target → Steps p.tables e below (T.setTop g) target := by
  subst hnc hns
  obtain ⟨cq, kq, qa, qb, qc⟩ := isOf hZ eT E
  obtain ⟨v, _, ⟨T', L', k', n'⟩, -, X', ⟨L, hQ, h1, h2, h3⟩, st⟩ := X.virtualBack hx hown (mvT hZ w1) (mvT hZ wd) nf (mvT hZ wsel) (mvT hZ w2) hy (backOf (W := W) hM hZ w4 w3 hf hl) qa qc hg hsize (Steps.refl _) (argsL := argsL) (rest := rest) hlen hstack hW hdg (fun _ _ => ⟨has, eT, hc, hs⟩)
  dsimp only [Pt.U, Pt.locs, Pt.cells, Pt.slots] at X' hQ h1 h2 h3 st
  subst h1 h2 h3
  exact ⟨v, T', L, X', hQ, fun _ k => st.trans k⟩
theorem own_callP {y : MethodName} {bytes : ByteArray} {maxL : Nat} {ret : Option FieldType} {rm : Room} {as' : Array Value} {own C : String} {index : Nat} (X : Stand p l e R s m args below meth c T locs cells slots) (hx : p.tables.exec = Jvm.exec) (hZ : Z.Warmed39 s.vm) (hown : s.vm.findClass own = some m.cls)
    (w1 : (Jvm.Cond.methodLink own index y).before a0 Z = true) (w2 : (Jvm.Cond.instanceMethod y).before a0 Z = true) (wsel : (Jvm.Cond.selects y.cls y y).before a0 Z = true) (wp : (Jvm.Cond.privateMethod y).before a0 Z = true) (w3 : (Jvm.Cond.initialized y.cls).before a0 Z = true) (w4 : (Jvm.Cond.code y bytes maxL ret).before a0 Z = true) (hM : own_Met l Z h y bytes maxL ret rm as' Q) (W : Nat) (nc ns : Nat) 
    (hc : cells + nc ≤ R.cells) (hs : slots + ns ≤ R.slots) (eT : T.heap = h) {a : Addr} (E : Exa Z h a C) {g : JFrame} (hg : g.method = m) (hsize : g.locals.size = c.maxLocals)
    (argsL rest : List Value) (hlen : ∀ sig, parseMethodDescriptor y.desc = some sig → argsL.length = sig.parameters.length) (hstack : g.stack = argsL.reverse ++ .ref a :: rest) (has : (Value.ref a :: argsL).toArray = as') (hdg : decode c.code g.pc = .ok (.invokevirtual index, 3))
    (hy : y.cls ≠ "java/lang/invoke/MethodHandle" ∧ y.cls ≠ "java/lang/invoke/VarHandle" := by decide) (hf : rm.frames + 1 ≤ R.frames := by decide) (hl : W + (maxL + 11) + rm.locals ≤ R.locals := by decide) (hW : 2 * g.monitorRoom + (rest.map fun v => v.category).sum ≤ W := by exact Nat.le_of_eq rfl) (hnc : rm.cells = nc := by rfl) (hns : rm.slots = ns := by rfl) :
    ∃ v T' L, Stand p l e R s m args below meth c T' (locs ++ L) (cells + nc) (slots + ns) ∧ Q v T'.heap L ∧ ∀ target, Steps p.tables e below (T'.setTop { g with pc := g.pc + 3, stack := v.toList ++ rest }) target → Steps p.tables e below (T.setTop g) target := by
  subst hnc hns
  obtain ⟨cq, q1, q2⟩ := E.cell
  obtain ⟨v, _, ⟨T', L', k', n'⟩, -, X', ⟨L, hQ, h1, h2, h3⟩, st⟩ := X.privateBack hx hown (mvT hZ w1) (mvT hZ w2) (mvT hZ wsel) (Cond.privateMethod_at (mvP hZ wp (args := #[]))) (mvT hZ w4) hy (backOf (W := W) hM hZ w4 w3 hf hl) hg hsize (Steps.refl _) (a := a) (by rw [eT]; exact q1) q2 (argsL := argsL) (rest := rest) hlen hstack hW hdg (fun _ _ => ⟨has, eT, hc, hs⟩)
  dsimp only [Pt.U, Pt.locs, Pt.cells, Pt.slots] at X' hQ h1 h2 h3 st
  subst h1 h2 h3
  exact ⟨v, T', L, X', hQ, fun _ k => st.trans k⟩
theorem own_callF {xi y : MethodName} {bytes : ByteArray} {maxL : Nat} {ret : Option FieldType} {rm : Room} {as' : Array Value} {own C : String} {index count : Nat} (X : Stand p l e R s m args below meth c T locs cells slots) (hx : p.tables.exec = Jvm.exec) (hZ : Z.Warmed39 s.vm) (hown : s.vm.findClass own = some m.cls)
    (w1 : (Jvm.Cond.methodLink own index xi).before a0 Z = true) (wd : (Jvm.Cond.declares xi).before a0 Z = true) (wfa : (Jvm.Cond.interfaceMethod xi.cls xi.cls xi.name xi.desc).before a0 Z = true) (wsel : (Jvm.Cond.selects C xi y).before a0 Z = true) (w2 : (Jvm.Cond.instanceMethod y).before a0 Z = true) (wp : (Jvm.Cond.publicMethod y).before a0 Z = true) (wu : (Jvm.Cond.unhidden C xi.name xi.desc).before a0 Z = true) (wk : (Jvm.Cond.castable C xi.cls).before a0 Z = true) (w3 : (Jvm.Cond.initialized y.cls).before a0 Z = true) (w4 : (Jvm.Cond.code y bytes maxL ret).before a0 Z = true) (hfk : ((Jvm.Cond.interfaceMethod xi.cls xi.cls xi.name xi.desc).onTables && (Jvm.Cond.interfaceMethod xi.cls xi.cls xi.name xi.desc).keepsFace) = true) (hM : own_Met l Z h y bytes maxL ret rm as' Q) (W : Nat) (nc ns : Nat) 
    (hc : cells + nc ≤ R.cells) (hs : slots + ns ≤ R.slots) (eT : T.heap = h) {a : Addr} (E : Exa Z h a C) {g : JFrame} (hg : g.method = m) (hsize : g.locals.size = c.maxLocals)
    (argsL rest : List Value) (hlen : ∀ sig, parseMethodDescriptor xi.desc = some sig → argsL.length = sig.parameters.length) (hstack : g.stack = argsL.reverse ++ .ref a :: rest) (has : (Value.ref a :: argsL).toArray = as') (hdg : decode c.code g.pc = .ok (.invokeinterface index count, 5))
    (hy : xi.cls ≠ "java/lang/invoke/MethodHandle" ∧ xi.cls ≠ "java/lang/invoke/VarHandle" := by decide) (hf : rm.frames + 1 ≤ R.frames := by decide) (hl : W + (maxL + 11) + rm.locals ≤ R.locals := by decide) (hW : 2 * g.monitorRoom + (rest.map fun v => v.category).sum ≤ W := by exact Nat.le_of_eq rfl) (hnc : rm.cells = nc := by rfl) (hns : rm.slots = ns := by rfl) :
    ∃ v T' L, Stand p l e R s m args below meth c T' (locs ++ L) (cells + nc) (slots + ns) ∧ Q v T'.heap L ∧ ∀ target, Steps p.tables e below (T'.setTop { g with pc := g.pc + 5, stack := v.toList ++ rest }) target → Steps p.tables e below (T.setTop g) target := by
  subst hnc hns
  obtain ⟨cq, kq, qa, qb, qc⟩ := isOf hZ eT E
  obtain ⟨v, _, ⟨T', L', k', n'⟩, -, X', ⟨L, hQ, h1, h2, h3⟩, st⟩ := X.interfaceBack hx hown (mvT hZ w1) (mvT hZ wd) (mvT hZ wfa hfk) (mvT hZ wsel) (mvT hZ w2) (mvT hZ wp) (mvT hZ wu) (mvT hZ wk) hy (backOf (W := W) hM hZ w4 w3 hf hl) qa qb qc hg hsize (Steps.refl _) (argsL := argsL) (rest := rest) hlen hstack hW hdg (fun _ _ => ⟨has, eT, hc, hs⟩)
  dsimp only [Pt.U, Pt.locs, Pt.cells, Pt.slots] at X' hQ h1 h2 h3 st
  subst h1 h2 h3
  exact ⟨v, T', L, X', hQ, fun _ k => st.trans k⟩
theorem own_callU {y z : MethodName} {bytes : ByteArray} {maxL : Nat} {ret : Option FieldType} {rm : Room} {as' : Array Value} {own owner C : String} {index : Nat} (X : Stand p l e R s m args below meth c T locs cells slots) (hx : p.tables.exec = Jvm.exec) (hZ : Z.Warmed39 s.vm) (hown : s.vm.findClass own = some m.cls)
    (w1 : (Jvm.Cond.methodLink own index y).before a0 Z = true) (wsm : (Jvm.Cond.sameMethod y.cls owner y.name y.desc).before a0 Z = true) (wd : (Jvm.Cond.declares ⟨owner, y.name, y.desc⟩).before a0 Z = true) (wsel : (Jvm.Cond.selects C y z).before a0 Z = true) (w2 : (Jvm.Cond.instanceMethod z).before a0 Z = true) (w3 : (Jvm.Cond.initialized z.cls).before a0 Z = true) (w4 : (Jvm.Cond.code z bytes maxL ret).before a0 Z = true) (hM : own_Met l Z h z bytes maxL ret rm as' Q) (W : Nat) (nc ns : Nat) 
    (hc : cells + nc ≤ R.cells) (hs : slots + ns ≤ R.slots) (eT : T.heap = h) {a : Addr} (E : Exa Z h a C) {g : JFrame} (hg : g.method = m) (hsize : g.locals.size = c.maxLocals)
    (argsL rest : List Value) (hlen : ∀ sig, parseMethodDescriptor y.desc = some sig → argsL.length = sig.parameters.length) (hstack : g.stack = argsL.reverse ++ .ref a :: rest) (has : (Value.ref a :: argsL).toArray = as') (hdg : decode c.code g.pc = .ok (.invokevirtual index, 3))
    (howner : owner ≠ "java/lang/invoke/MethodHandle" ∧ owner ≠ "java/lang/invoke/VarHandle" := by decide) (hf : rm.frames + 1 ≤ R.frames := by decide) (hl : W + (maxL + 11) + rm.locals ≤ R.locals := by decide) (hW : 2 * g.monitorRoom + (rest.map fun v => v.category).sum ≤ W := by exact Nat.le_of_eq rfl) (hnc : rm.cells = nc := by rfl) (hns : rm.slots = ns := by rfl) :
    ∃ v T' L, Stand p l e R s m args below meth c T' (locs ++ L) (cells + nc) (slots + ns) ∧ Q v T'.heap L ∧ ∀ target, Steps p.tables e below (T'.setTop { g with pc := g.pc + 3, stack := v.toList ++ rest }) target → Steps p.tables e below (T.setTop g) target := by
  subst hnc hns
  obtain ⟨cq, kq, qa, qb, qc⟩ := isOf hZ eT E
  obtain ⟨v, _, ⟨T', L', k', n'⟩, -, X', ⟨L, hQ, h1, h2, h3⟩, st⟩ := X.virtualBackUp hx hown (mvT hZ w1) (mvT hZ wsm) (mvT hZ wd) howner (mvT hZ wsel) (mvT hZ w2) (backOf (W := W) hM hZ w4 w3 hf hl) qa qc hg hsize (Steps.refl _) (argsL := argsL) (rest := rest) hlen hstack hW hdg (fun _ _ => ⟨has, eT, hc, hs⟩)
  dsimp only [Pt.U, Pt.locs, Pt.cells, Pt.slots] at X' hQ h1 h2 h3 st
  subst h1 h2 h3
  exact ⟨v, T', L, X', hQ, fun _ k => st.trans k⟩
theorem own_callIB {y : MethodName} {bytes : ByteArray} {maxL : Nat} {as' : Array Value} {own : String} {index : Nat} (X : Stand p l e R s m args below meth c T locs cells slots) (hx : p.tables.exec = Jvm.exec) (hZ : Z.Warmed39 s.vm) (hown : s.vm.findClass own = some m.cls)
    (w1 : (Jvm.Cond.methodLink own index y).before a0 Z = true) (w2 : (Jvm.Cond.instanceMethod y).before a0 Z = true) (w3 : (Jvm.Cond.initialized y.cls).before a0 Z = true) (w4 : (Jvm.Cond.code y bytes maxL none).before a0 Z = true) (W nc ns : Nat) (hB : Back l R p e below s args y 3 W (fun A a => a = as' ∧ A.U.heap = h ∧ A.cells + nc ≤ R.cells ∧ A.slots + ns ≤ R.slots) (fun A _ v B => ∃ L, Q v B.U.heap L ∧ B.locs = A.locs ++ L ∧ B.cells = A.cells + nc ∧ B.slots = A.slots + ns)) (hy1 : y.name = "<init>")
    (hc : cells + nc ≤ R.cells) (hs : slots + ns ≤ R.slots) (eT : T.heap = h) {g : JFrame} (hg : g.method = m) (hsize : g.locals.size = c.maxLocals)
    (a : Addr) (argsL rest : List Value) (hlen : ∀ sig, parseMethodDescriptor y.desc = some sig → argsL.length = sig.parameters.length) (hstack : g.stack = argsL.reverse ++ .ref a :: rest) (has : (Value.ref a :: argsL).toArray = as') (hdg : decode c.code g.pc = .ok (.invokespecial index, 3))
    (hy : y.cls ≠ "java/lang/invoke/MethodHandle" ∧ y.cls ≠ "java/lang/invoke/VarHandle" := by decide) (hW : 2 * g.monitorRoom + (rest.map fun v => v.category).sum ≤ W := by exact Nat.le_of_eq rfl) :
    ∃ v T' L, Stand p l e R s m args below meth c T' (locs ++ L) (cells + nc) (slots + ns) ∧ Q v T'.heap L ∧ ∀ target, Steps p.tables e below (T'.setTop { g with pc := g.pc + 3, stack := v.toList ++ rest }) target → Steps p.tables e below (T.setTop g) target := by
  obtain ⟨v, _, ⟨T', L', k', n'⟩, -, X', ⟨L, hQ, h1, h2, h3⟩, st⟩ := X.specialBack hx hy1 hown (mvT hZ w1) (mvT hZ w2) (mvT hZ w4) hy hB hg hsize (Steps.refl _) (a := a) (argsL := argsL) (rest := rest) hlen hstack hW hdg (fun _ _ => ⟨has, eT, hc, hs⟩)
  dsimp only [Pt.U, Pt.locs, Pt.cells, Pt.slots] at X' hQ h1 h2 h3 st
  subst h1 h2 h3
  exact ⟨v, T', L, X', hQ, fun _ k => st.trans k⟩
theorem own_callVB {y z : MethodName} {bytes : ByteArray} {maxL : Nat} {ret : Option FieldType} {as' : Array Value} {own C : String} {index : Nat} (X : Stand p l e R s m args below meth c T locs cells slots) (hx : p.tables.exec = Jvm.exec) (hZ : Z.Warmed39 s.vm) (hown : s.vm.findClass own = some m.cls)
    (w1 : (Jvm.Cond.methodLink own index y).before a0 Z = true) (wd : (Jvm.Cond.declares y).before a0 Z = true) (nf : NotFace s y) (wsel : (Jvm.Cond.selects C y z).before a0 Z = true) (w2 : (Jvm.Cond.instanceMethod z).before a0 Z = true) (w3 : (Jvm.Cond.initialized z.cls).before a0 Z = true) (w4 : (Jvm.Cond.code z bytes maxL ret).before a0 Z = true) (W nc ns : Nat) (hB : Back l R p e below s args z 3 W (fun A a => a = as' ∧ A.U.heap = h ∧ A.cells + nc ≤ R.cells ∧ A.slots + ns ≤ R.slots) (fun A _ v B => ∃ L, Q v B.U.heap L ∧ B.locs = A.locs ++ L ∧ B.cells = A.cells + nc ∧ B.slots = A.slots + ns)) 
    (hc : cells + nc ≤ R.cells) (hs : slots + ns ≤ R.slots) (eT : T.heap = h) {a : Addr} (E : Exa Z h a C) {g : JFrame} (hg : g.method = m) (hsize : g.locals.size = c.maxLocals)
    (argsL rest : List Value) (hlen : ∀ sig, parseMethodDescriptor y.desc = some sig → argsL.length = sig.parameters.length) (hstack : g.stack = argsL.reverse ++ .ref a :: rest) (has : (Value.ref a :: argsL).toArray = as') (hdg : decode c.code g.pc = .ok (.invokevirtual index, 3))
    (hy : y.cls ≠ "java/lang/invoke/MethodHandle" ∧ y.cls ≠ "java/lang/invoke/VarHandle" := by decide) (hW : 2 * g.monitorRoom + (rest.map fun v => v.category).sum ≤ W := by exact Nat.le_of_eq rfl) :
    ∃ v T' L, Stand p l e R s m args below meth c T' (locs ++ L) (cells + nc) (slots + ns) ∧ Q v T'.heap L ∧ ∀ target, Steps p.tables e below (T'.setTop { g with pc := g.pc + 3, stack := v.toList ++ rest }) target → Steps p.tables e below (T.setTop g) target := by
  obtain ⟨cq, kq, qa, qb, qc⟩ := isOf hZ eT E
  obtain ⟨v, _, ⟨T', L', k', n'⟩, -, X', ⟨L, hQ, h1, h2, h3⟩, st⟩ := X.virtualBack hx hown (mvT hZ w1) (mvT hZ wd) nf (mvT hZ wsel) (mvT hZ w2) hy hB qa qc hg hsize (Steps.refl _) (argsL := argsL) (rest := rest) hlen hstack hW hdg (fun _ _ => ⟨has, eT, hc, hs⟩)
  dsimp only [Pt.U, Pt.locs, Pt.cells, Pt.slots] at X' hQ h1 h2 h3 st
  subst h1 h2 h3
  exact ⟨v, T', L, X', hQ, fun _ k => st.trans k⟩
/-- the start's heap stands in h unchanged -/
theorem own_oldExt {h' : Heap} (O : Ext Z.heap h) (E : Ext h h') : Ext Z.heap h' := ⟨Nat.le_trans O.1 E.1, fun x c q => E.2 x c (O.2 x c q)⟩
theorem own_oldKeep {h' : Heap} {ws : List Addr} (O : Ext Z.heap h) (K : Keep h h' ws) (q : ∀ x ∈ ws, Z.heap.size ≤ x) : Ext Z.heap h' :=
  ⟨Nat.le_trans O.1 K.1, fun x c r => K.2.1 x c (O.2 x c r) fun z => absurd (Array.getElem?_eq_some_iff.mp r).1 (Nat.not_lt.mpr (q x z))⟩
theorem own_oldWr {h' : Heap} {a : Addr} {sl : Nat} {v : Value} (O : Ext Z.heap h) (W : Wr h h' a sl v) (q : Z.heap.size ≤ a) : Ext Z.heap h' := own_oldKeep O (Keep.of_wr W) (allS q all0)
theorem own_keepTrans {h0 h' : Heap} {ws : List Addr} (K : Keep h0 h ws) (K' : Keep h h' []) : Keep h0 h' ws := K.trans K' fun x q => nomatch q
theorem own_insKeep {h' : Heap} {ws : List Addr} {a : Addr} {C : String} {b : Bool} (F : Ins Z h a C b) (K : Keep h h' ws) : Ins Z h' a C b := by
  obtain ⟨cell, cT, h1, h2, h3⟩ := F
  obtain ⟨c', q1, q2, q3, -⟩ := K.2.2 a cell h1
  exact ⟨c', cT, q1, h2, by rw [q2, q3]; exact h3⟩
theorem own_cat1 {v : Value} (r : v.isRef = true) : v.category = 1 := by cases v <;> simp [Value.isRef, Value.category] at r ⊢
theorem own_fitsRef {v : Value} (t : FieldType) (r : v.isRef = true) (ht : t.isReference = true) : fits t v = true := by
  cases t <;> first | (cases ht; done) | (rcases ref_cases r with rfl | ⟨_, rfl⟩ <;> rfl)
theorem own_narRef {v : Value} (t : FieldType) (r : v.isRef = true) (ht : t.isReference = true) : narrow t v = v := by
  cases t <;> first | (cases ht; done) | (rcases ref_cases r with rfl | ⟨_, rfl⟩ <;> rfl)
theorem own_keepSub {h0 : Heap} {ws ws' : List Addr} (K : Keep h0 h ws) (q : ∀ x ∈ ws, x ∈ ws') : Keep h0 h ws' := ⟨K.1, fun x c r z => K.2.1 x c r fun u => z (q x u), K.2.2⟩
theorem own_neTy {a b : Addr} {k k' : ClassId} {ty ty' : FieldType} {z z' : Int32} {vs vs' : List Value} {d d' : Value} (F : Arv Z h a k ty z vs d) (G : Arv Z h b k' ty' z' vs' d') (hn : ty ≠ ty') : a ≠ b := by
  rintro rfl
  obtain ⟨c, A, -⟩ := F
  obtain ⟨c', A', -⟩ := G
  cases A.1.symm.trans A'.1
  obtain ⟨-, k1, q1, cm1, r1⟩ := A.2.1
  obtain ⟨-, k2, q2, cm2, r2⟩ := A'.2.1
  cases q1.symm.trans q2
  rw [r1] at r2
  cases r2
  exact hn rfl
theorem own_catR (a : Addr) : (Value.ref a).category = 1 := rfl
theorem own_catN : Value.null.category = 1 := rfl
theorem own_catI (a : Int32) : (Value.int a).category = 1 := rfl
theorem own_catJ (a : Int64) : (Value.long a).category = 2 := rfl
end OwnKit

theorem ow0 {Z : State} {a0 : Array Value} (hw : ∀ d ∈ tables_1, d.before a0 Z = true) : (Jvm.Cond.constantDouble "com/example/nudo/nudo/ConflictRegionsFitsPinLaw" (7 : Nat) (4467570830351532032 : UInt64)).before a0 Z = true := hw _ (List.mem_of_getElem? (i := 0) rfl)
theorem ow1 {Z : State} {a0 : Array Value} (hw : ∀ d ∈ tables_1, d.before a0 Z = true) : (Jvm.Cond.constantDouble "com/example/nudo/nudo/ConflictRegionsFitsPinLaw" (9 : Nat) (4616189618054758400 : UInt64)).before a0 Z = true := hw _ (List.mem_of_getElem? (i := 1) rfl)
theorem ow2 {Z : State} {a0 : Array Value} (hw : ∀ d ∈ tables_1, d.before a0 Z = true) : (Jvm.Cond.methodLink "com/example/nudo/nudo/ConflictRegionsFitsPinLaw" (11 : Nat) ({ cls := "com/example/nudo/nudo/ConflictRegions", name := "fits", desc := "(DD)Z" } : Jvm.MethodName)).before a0 Z = true := hw _ (List.mem_of_getElem? (i := 2) rfl)
theorem ow3 {Z : State} {a0 : Array Value} (hw : ∀ d ∈ tables_1, d.before a0 Z = true) : (Jvm.Cond.static ({ cls := "com/example/nudo/nudo/ConflictRegions", name := "fits", desc := "(DD)Z" } : Jvm.MethodName)).before a0 Z = true := hw _ (List.mem_of_getElem? (i := 3) rfl)
theorem ow4 {Z : State} {a0 : Array Value} (hw : ∀ d ∈ tables_1, d.before a0 Z = true) : (Jvm.Cond.initialized "com/example/nudo/nudo/ConflictRegions").before a0 Z = true := hw _ (List.mem_of_getElem? (i := 4) rfl)
theorem ow5 {Z : State} {a0 : Array Value} (hw : ∀ d ∈ tables_1, d.before a0 Z = true) : (Jvm.Cond.code ({ cls := "com/example/nudo/nudo/ConflictRegions", name := "fits", desc := "(DD)Z" } : Jvm.MethodName) prog_11_method_2_code (4 : Nat) (Option.some Jvm.ClassFile.FieldType.boolean)).before a0 Z = true := hw _ (List.mem_of_getElem? (i := 5) rfl)
theorem ow6 {Z : State} {a0 : Array Value} (hw : ∀ d ∈ tables_1, d.before a0 Z = true) : (Jvm.Cond.constantDouble "com/example/nudo/nudo/ConflictRegions" (139 : Nat) (4472406533629990549 : UInt64)).before a0 Z = true := hw _ (List.mem_of_getElem? (i := 6) rfl)

theorem own_pd_0 : parseMethodDescriptor "(DD)Z" = some ⟨[.double, .double], some .boolean⟩ := by decide +kernel
theorem own_pn_0 : plainName "com/example/nudo/nudo/ConflictRegions" = true := by first | (simp [plainName, overriddenIn]; done) | decide +kernel
theorem own_pn_1 : plainName "com/example/nudo/nudo/ConflictRegionsFitsPinLaw" = true := by first | (simp [plainName, overriddenIn]; done) | decide +kernel
section FloatBits
open Jvm.FP.Core
abbrev own_zv (a : UInt64) : Int := zval b64 (val64 a)
theorem own_rep (n : Int) (k : Nat) (hn : n.natAbs < 2 ^ 53) (hk : k ≤ 2045) : ∃ V, Jvm.FP.Core.fits b64 V ∧ V ≠ .nan ∧ zval b64 V = n * ((2 ^ k : Nat) : Int) := by
  have hq1 : b64.qmin ≤ (k : Int) - 1074 := by rw [qmin_b64]; omega
  have hq2 : (k : Int) - 1074 ≤ b64.qmax := by rw [show b64.qmax = 971 from by decide]; omega
  obtain ⟨c, q, h1, h2⟩ := round_exact good_b64 (decide (n < 0)) (c := n.natAbs) (q := (k : Int) - 1074) hn hq1 hq2
  refine ⟨_, round_fits good_b64 (.fin (decide (n < 0)) n.natAbs ((k : Int) - 1074)), by rw [h1]; exact Datum.noConfusion, ?_⟩
  rw [h1]
  show signed (decide (n < 0)) (inUnits c q b64.qmin) = _
  rw [h2]
  unfold inUnits
  rw [qmin_b64, show ((k : Int) - 1074 - -1074).toNat = k by omega, signed_mul]
  congr 1
  unfold signed
  by_cases h : n < 0
  · simp [h]; omega
  · simp [h]; omega
theorem own_nn {a : UInt64} (h : DFin a) : val64 a ≠ .nan := h.ne_nan
theorem own_add_le {a b : UInt64} (ha : DFin a) (hb : DFin b) (n : Int) (k : Nat) (hn : n.natAbs < 2 ^ 53) (hk : k ≤ 2045) (h : own_zv a + own_zv b ≤ n * ((2 ^ k : Nat) : Int)) : own_zv (Jvm.FP.dadd a b) ≤ n * ((2 ^ k : Nat) : Int) := by
  obtain ⟨V, v1, v2, v3⟩ := own_rep n k hn hk
  show zval b64 (val64 (dadd a b)) ≤ _
  rw [val64_dadd, ← v3]
  exact sum_le good_b64 ha hb (val64_fits a) (val64_fits b) v1 v2 (by rw [v3]; exact h)
theorem own_add_ge {a b : UInt64} (ha : DFin a) (hb : DFin b) (n : Int) (k : Nat) (hn : n.natAbs < 2 ^ 53) (hk : k ≤ 2045) (h : n * ((2 ^ k : Nat) : Int) ≤ own_zv a + own_zv b) : n * ((2 ^ k : Nat) : Int) ≤ own_zv (Jvm.FP.dadd a b) := by
  obtain ⟨V, v1, v2, v3⟩ := own_rep n k hn hk
  show _ ≤ zval b64 (val64 (dadd a b))
  rw [val64_dadd, ← v3]
  exact sum_ge good_b64 ha hb (val64_fits a) (val64_fits b) v1 v2 (by rw [v3]; exact h)
def own_u : Nat := 2 ^ 1043
theorem own_one : one64 = 2147483648 * own_u := by decide +kernel
theorem own_uk (k : Nat) : 2 ^ (k + 1043) = 2 ^ k * own_u := Nat.pow_add 2 k 1043
theorem own_upos : 0 < (own_u : Int) := by decide +kernel
theorem own_zi (a : Int32) : own_zv (Jvm.FP.i2d a) = a.toInt * (2147483648 * (own_u : Int)) := by
  show zval b64 (val64 (i2d a)) = _
  rw [DInt_zval (i2d_int a), own_one, Int.natCast_mul]
  rfl
theorem own_cg {x y : UInt64} (hx : val64 x ≠ .nan) (hy : val64 y ≠ .nan) : (0 : Int32) < cmpValue (Jvm.FP.dcmp x y) .g ↔ own_zv y < own_zv x := by
  rw [show Jvm.FP.dcmp x y = _ from dcmp_zval hx hy, ← compare_gt_iff]
  generalize compare (zval b64 (val64 x)) (zval b64 (val64 y)) = o
  cases o <;> decide
theorem own_R1 : 2 * (own_u : Int) ≤ own_zv 4472406533629990549 := by decide +kernel
theorem own_R2 : own_zv 4472406533629990549 ≤ 3 * (own_u : Int) := by decide +kernel
theorem own_T1 : own_zv 4467570830351532032 = (own_u : Int) := by decide +kernel
theorem own_T2 : own_zv (Jvm.FP.dmul 4616189618054758400 4467570830351532032) = 4 * (own_u : Int) := by decide +kernel
theorem own_T3 : own_zv (Jvm.FP.dneg 4467570830351532032) = -(own_u : Int) := by decide +kernel
theorem own_finR : DFin 4472406533629990549 := (fin_bits _).mpr (by decide)
theorem own_fin1 : DFin 4467570830351532032 := (fin_bits _).mpr (by decide)
theorem own_fin2 : DFin (Jvm.FP.dmul 4616189618054758400 4467570830351532032) := (fin_bits _).mpr (by decide +kernel)
theorem own_fin3 : DFin (Jvm.FP.dneg 4467570830351532032) := (fin_bits _).mpr (by decide +kernel)
theorem own_finI (a : Int32) : DFin (Jvm.FP.i2d a) := i2d_fin a
theorem own_nna {a b : UInt64} (ha : DFin a) (hb : DFin b) : val64 (Jvm.FP.dadd a b) ≠ .nan := (notNaN_iff _).mp (dadd_out ha.notNaN hb)
theorem own_zcast (n : Int) (k : Nat) : n * ((2 ^ (k + 1043) : Nat) : Int) = n * ((2 ^ k : Nat) : Int) * (own_u : Int) := by
  rw [own_uk, Int.natCast_mul, Int.mul_assoc]
theorem own_addLe {a b : UInt64} (ha : DFin a) (hb : DFin b) (n : Int) (k : Nat) (hn : n.natAbs < 2 ^ 53) (hk : k ≤ 1000) (h : own_zv a + own_zv b ≤ n * ((2 ^ k : Nat) : Int) * (own_u : Int)) : own_zv (Jvm.FP.dadd a b) ≤ n * ((2 ^ k : Nat) : Int) * (own_u : Int) := by
  have q := own_add_le ha hb n (k + 1043) hn (by omega)
  rw [own_zcast] at q
  exact q h
theorem own_addGe {a b : UInt64} (ha : DFin a) (hb : DFin b) (n : Int) (k : Nat) (hn : n.natAbs < 2 ^ 53) (hk : k ≤ 1000) (h : n * ((2 ^ k : Nat) : Int) * (own_u : Int) ≤ own_zv a + own_zv b) : n * ((2 ^ k : Nat) : Int) * (own_u : Int) ≤ own_zv (Jvm.FP.dadd a b) := by
  have q := own_add_ge ha hb n (k + 1043) hn (by omega)
  rw [own_zcast] at q
  exact q h
theorem own_rge (b : Int32) : 2147483648 * (b.toInt * (own_u : Int)) ≤ own_zv (Jvm.FP.dadd (Jvm.FP.i2d b) 4472406533629990549) := by
  have r := rng32 b
  have q := own_addGe (own_finI b) own_finR b.toInt 31 (by omega) (by omega)
  have h1 := own_R1; have h2 := own_upos; have h3 := own_zi b
  generalize own_zv (Jvm.FP.i2d b) = z1 at *
  generalize own_zv 4472406533629990549 = z2 at *
  generalize own_zv (Jvm.FP.dadd (Jvm.FP.i2d b) 4472406533629990549) = z3 at *
  generalize (own_u : Int) = u at *
  grind
theorem own_rle (b : Int32) : own_zv (Jvm.FP.dadd (Jvm.FP.i2d b) 4472406533629990549) ≤ 2147483648 * (b.toInt * (own_u : Int)) + 1073741824 * (own_u : Int) := by
  have r := rng32 b
  have q := own_addLe (own_finI b) own_finR (2 * b.toInt + 1) 30 (by omega) (by omega)
  have h1 := own_R2; have h2 := own_upos; have h3 := own_zi b
  generalize own_zv (Jvm.FP.i2d b) = z1 at *
  generalize own_zv 4472406533629990549 = z2 at *
  generalize own_zv (Jvm.FP.dadd (Jvm.FP.i2d b) 4472406533629990549) = z3 at *
  generalize (own_u : Int) = u at *
  grind
def own_S (b : Int32) : Prop := -1048576 ≤ b.toInt ∧ b.toInt ≤ 1048576
theorem own_rge1 {b : Int32} (r : own_S b) : 2147483648 * (b.toInt * (own_u : Int)) + (own_u : Int) ≤ own_zv (Jvm.FP.dadd (Jvm.FP.i2d b) 4472406533629990549) := by
  have r1 := r.1; have r2 := r.2
  have q := own_addGe (own_finI b) own_finR (2147483648 * b.toInt + 1) 0 (by omega) (by omega)
  have h1 := own_R1; have h2 := own_upos; have h3 := own_zi b
  generalize own_zv (Jvm.FP.i2d b) = z1 at *
  generalize own_zv 4472406533629990549 = z2 at *
  generalize own_zv (Jvm.FP.dadd (Jvm.FP.i2d b) 4472406533629990549) = z3 at *
  generalize (own_u : Int) = u at *
  grind
theorem own_rle3 {b : Int32} (r : own_S b) : own_zv (Jvm.FP.dadd (Jvm.FP.i2d b) 4472406533629990549) ≤ 2147483648 * (b.toInt * (own_u : Int)) + 3 * (own_u : Int) := by
  have r1 := r.1; have r2 := r.2
  have q := own_addLe (own_finI b) own_finR (2147483648 * b.toInt + 3) 0 (by omega) (by omega)
  have h1 := own_R2; have h2 := own_upos; have h3 := own_zi b
  generalize own_zv (Jvm.FP.i2d b) = z1 at *
  generalize own_zv 4472406533629990549 = z2 at *
  generalize own_zv (Jvm.FP.dadd (Jvm.FP.i2d b) 4472406533629990549) = z3 at *
  generalize (own_u : Int) = u at *
  grind
theorem own_un {a : Int32} (r : own_S a) {o : UInt64} (ho : DFin o) {k : Int} (hk1 : -8 ≤ k) (hk2 : k ≤ 8) (hz : own_zv o = k * (own_u : Int)) : own_zv (Jvm.FP.dadd (Jvm.FP.i2d a) o) = 2147483648 * (a.toInt * (own_u : Int)) + k * (own_u : Int) := by
  have r1 := r.1; have r2 := r.2
  have q1 := own_addLe (own_finI a) ho (2147483648 * a.toInt + k) 0 (by omega) (by omega)
  have q2 := own_addGe (own_finI a) ho (2147483648 * a.toInt + k) 0 (by omega) (by omega)
  have h2 := own_upos; have h3 := own_zi a
  generalize own_zv (Jvm.FP.i2d a) = z1 at *
  generalize own_zv o = z2 at *
  generalize own_zv (Jvm.FP.dadd (Jvm.FP.i2d a) o) = z3 at *
  generalize (own_u : Int) = u at *
  grind
theorem own_mulLt {a b u : Int} (h : a < b) (hu : 0 < u) : a * u + u ≤ b * u := by
  have q : (a + 1) * u ≤ b * u := Int.mul_le_mul_of_nonneg_right (by omega) (by omega)
  rw [Int.add_mul, Int.one_mul] at q; exact q
theorem own_mulLe {a b u : Int} (h : a ≤ b) (hu : 0 < u) : a * u ≤ b * u := Int.mul_le_mul_of_nonneg_right h (by omega)
theorem own_law0 (a b : Int32) : ((0 : Int32) < cmpValue (Jvm.FP.dcmp (Jvm.FP.i2d a) (Jvm.FP.dadd (Jvm.FP.i2d b) 4472406533629990549)) .g) ↔ b.toInt < a.toInt := by
  rw [own_cg (own_nn (own_finI a)) (own_nna (own_finI b) own_finR), own_zi]
  have h1 := own_rge b; have h2 := own_rle b; have hu := own_upos
  constructor
  · intro h
    refine Int.lt_of_not_ge fun q => ?_
    have := own_mulLe q hu
    rw [Int.mul_left_comm] at h
    omega
  · intro h
    have := own_mulLt h hu
    rw [Int.mul_left_comm]
    omega
theorem own_lawk {a b : Int32} (ra : own_S a) (rb : own_S b) {o : UInt64} (ho : DFin o) {k : Int} (hk : k = 1 ∨ k = -1) (hz : own_zv o = k * (own_u : Int)) : ((0 : Int32) < cmpValue (Jvm.FP.dcmp (Jvm.FP.dadd (Jvm.FP.i2d a) o) (Jvm.FP.dadd (Jvm.FP.i2d b) 4472406533629990549)) .g) ↔ b.toInt < a.toInt := by
  rw [own_cg (own_nna (own_finI a) ho) (own_nna (own_finI b) own_finR), own_un ra ho (by omega) (by omega) hz]
  have h1 := own_rge1 rb; have h2 := own_rle3 rb; have hu := own_upos
  constructor
  · intro h
    refine Int.lt_of_not_ge fun q => ?_
    have := own_mulLe q hu
    rcases hk with rfl | rfl <;> omega
  · intro h
    have := own_mulLt h hu
    rcases hk with rfl | rfl <;> omega
theorem own_law4 {a b : Int32} (ra : own_S a) (rb : own_S b) {o : UInt64} (ho : DFin o) (hz : own_zv o = 4 * (own_u : Int)) : ((0 : Int32) < cmpValue (Jvm.FP.dcmp (Jvm.FP.dadd (Jvm.FP.i2d a) o) (Jvm.FP.dadd (Jvm.FP.i2d b) 4472406533629990549)) .g) ↔ b.toInt ≤ a.toInt := by
  rw [own_cg (own_nna (own_finI a) ho) (own_nna (own_finI b) own_finR), own_un ra ho (by omega) (by omega) hz]
  have h1 := own_rge1 rb; have h2 := own_rle3 rb; have hu := own_upos
  constructor
  · intro h
    refine Int.le_of_not_gt fun q => ?_
    have := own_mulLt q hu
    omega
  · intro h
    have := own_mulLe h hu
    omega
theorem own_law1 {a b : Int32} (ra : own_S a) (rb : own_S b) : ((0 : Int32) < cmpValue (Jvm.FP.dcmp (Jvm.FP.dadd (Jvm.FP.i2d a) 4467570830351532032) (Jvm.FP.dadd (Jvm.FP.i2d b) 4472406533629990549)) .g) ↔ b.toInt < a.toInt :=
  own_lawk ra rb own_fin1 (Or.inl rfl) (by rw [own_T1, Int.one_mul])
theorem own_law3 {a b : Int32} (ra : own_S a) (rb : own_S b) : ((0 : Int32) < cmpValue (Jvm.FP.dcmp (Jvm.FP.dadd (Jvm.FP.i2d a) (Jvm.FP.dneg 4467570830351532032)) (Jvm.FP.dadd (Jvm.FP.i2d b) 4472406533629990549)) .g) ↔ b.toInt < a.toInt :=
  own_lawk ra rb own_fin3 (Or.inr rfl) (by rw [own_T3, Int.neg_mul, Int.one_mul])
theorem own_law2 {a b : Int32} (ra : own_S a) (rb : own_S b) : ((0 : Int32) < cmpValue (Jvm.FP.dcmp (Jvm.FP.dadd (Jvm.FP.i2d a) (Jvm.FP.dmul 4616189618054758400 4467570830351532032)) (Jvm.FP.dadd (Jvm.FP.i2d b) 4472406533629990549)) .g) ↔ b.toInt ≤ a.toInt :=
  own_law4 ra rb own_fin2 own_T2
theorem own_Ssh (p : Int32) : own_S ((p <<< ((12 : Int32) &&& 31)) >>> ((12 : Int32) &&& 31)) := by
  have h1 := c_ishr (p <<< ((12 : Int32) &&& 31)) (12 : Int32) 12 (by decide)
  have h2 := rng32 (p <<< ((12 : Int32) &&& 31))
  have h3 := rng32 ((p <<< ((12 : Int32) &&& 31)) >>> ((12 : Int32) &&& 31))
  constructor <;> omega
theorem own_nn64 {a : UInt64} (h : val64 a ≠ .nan) : Jvm.Free.Fl.NoNaN64 a := Jvm.Free.Fl.noNaN64_no.mpr ((notNaN_iff a).mpr h)
end FloatBits
theorem d1_0 : decode prog_11_method_2_code 0 = .ok (.dload_n 0, 1) := by decide +kernel
theorem d1_1 : decode prog_11_method_2_code 1 = .ok (.dload_n 2, 1) := by decide +kernel
theorem d1_2 : decode prog_11_method_2_code 2 = .ok (.ldc2_w 139, 3) := by decide +kernel
theorem d1_5 : decode prog_11_method_2_code 5 = .ok (.dadd, 1) := by decide +kernel
theorem d1_6 : decode prog_11_method_2_code 6 = .ok (.dcmp .g, 1) := by decide +kernel
theorem d1_7 : decode prog_11_method_2_code 7 = .ok (.ifCond .gt 7, 3) := by decide +kernel
theorem d1_10 : decode prog_11_method_2_code 10 = .ok (.iconst 1, 1) := by decide +kernel
theorem d1_11 : decode prog_11_method_2_code 11 = .ok (.goto 4, 3) := by decide +kernel
theorem d1_14 : decode prog_11_method_2_code 14 = .ok (.iconst 0, 1) := by decide +kernel
theorem d1_15 : decode prog_11_method_2_code 15 = .ok (.ireturn, 1) := by decide +kernel
def Q_fits (Z : State) (du : UInt64) (dw : UInt64) (h0 : Heap) (v : Option Value) (h : Heap) (L : List Loc) : Prop := (v = some (.int (0 : Int32)) ∧ Fr Z.heap.size L ∧ (0 : Int32) < (cmpValue (FP.dcmp du (FP.dadd dw (4472406533629990549 : UInt64))) .g) ∧ h = h0) ∨ (v = some (.int (1 : Int32)) ∧ Fr Z.heap.size L ∧ ¬ ((0 : Int32) < (cmpValue (FP.dcmp du (FP.dadd dw (4472406533629990549 : UInt64))) .g)) ∧ h = h0)
theorem ef_fits (m : MethodId) (x0 : UInt64) (x1 : UInt64) : entryFrame m #[(.double x0), (.double x1)] 4 = mkF m 0 #[.val (.double x0), .second, .val (.double x1), .second] [] := by first | (simp [entryFrame, mkF, argsToLocals, Value.category]; done) | rfl
set_option maxRecDepth 65536 in
set_option maxHeartbeats 40000000 in
theorem rm_fits (l : Launch) (Z : State) (a0 : Array Value) (hw : ∀ d ∈ tables_1, d.before a0 Z = true) (ws : List Jvm.Cond) (du : UInt64) (dw : UInt64) (h0 : Heap) (O0 : Ext Z.heap h0) (hnw : Jvm.FP.Core.DFin dw) :
    own_MF l Z h0 (⟨"com/example/nudo/nudo/ConflictRegions", "fits", "(DD)Z"⟩ : MethodName) prog_11_method_2_code 4 (some .boolean) ({ frames := 0, cells := 0, slots := 0, locals := 0 } : Room) #[(.double du), (.double dw)] (Q_fits Z du dw h0) ws := by
  refine own_met (Q := (Q_fits Z du dw h0)) _ _ (plainFor_of_name own_pn_0) ?_
  intro p e s m below meth c T X0 hx hby hml hret hlk hZ hown hnm e0
  replace hown : s.vm.findClass "com/example/nudo/nudo/ConflictRegions" = some m.cls := hown
  replace hnm : meth.name = "fits" := hnm
  have hml : c.maxLocals = 4 := hml
  have N0 := Fr.nil Z.heap.size
  have K0 := Keep.refl h0 []
  refine own_go (fun _ k => castTop (ef_fits m du dw) k) ?_
  show own_Go p e below s _ _ _ (T.setTop (mkF m 0 #[.val (.double du), .second, .val (.double dw), .second] []))
  refine own_go (fun _ k => XS.dloadN X0.here hx rfl (hb hby d1_0) rfl k) ?_
  show own_Go p e below s _ _ _ (T.setTop (mkF m 1 #[.val (.double du), .second, .val (.double dw), .second] [(.double du)]))
  refine own_go (fun _ k => XS.dloadN X0.here hx rfl (hb hby d1_1) rfl k) ?_
  show own_Go p e below s _ _ _ (T.setTop (mkF m 2 #[.val (.double du), .second, .val (.double dw), .second] [(.double dw), (.double du)]))
  refine own_go (X0.ldc2DoubleC hx hown (mvT hZ (ow6 hw)) (g := (mkF m 2 #[.val (.double du), .second, .val (.double dw), .second] [(.double dw), (.double du)])) rfl (hb hby d1_2)) ?_
  show own_Go p e below s _ _ _ (T.setTop (mkF m 5 #[.val (.double du), .second, .val (.double dw), .second] [(.double (4472406533629990549 : UInt64)), (.double dw), (.double du)]))
  refine own_go (fun _ k => XS.daddS X0.here hx rfl (hb hby d1_5) rfl (own_nn64 (own_nna hnw own_finR)) rfl k) ?_
  show own_Go p e below s _ _ _ (T.setTop (mkF m 6 #[.val (.double du), .second, .val (.double dw), .second] [(.double (FP.dadd dw (4472406533629990549 : UInt64))), (.double du)]))
  refine own_go (fun _ k => XS.dcmpS X0.here hx rfl (hb hby d1_6) rfl rfl k) ?_
  show own_Go p e below s _ _ _ (T.setTop (mkF m 7 #[.val (.double du), .second, .val (.double dw), .second] [(.int (cmpValue (FP.dcmp du (FP.dadd dw (4472406533629990549 : UInt64))) .g))]))
  by_cases hc1 : (0 : Int32) < (cmpValue (FP.dcmp du (FP.dadd dw (4472406533629990549 : UInt64))) .g)
  · refine own_go (fun _ k => XS.ifYes X0.here hx rfl (pc0 := 7) (pc' := 14) rfl (hb hby d1_7) rfl ((if0 _ _).trans (tlt hc1).2.2.1) (by decide) (by decide) k) ?_
    show own_Go p e below s _ _ _ (T.setTop (mkF m 14 #[.val (.double du), .second, .val (.double dw), .second] []))
    refine own_go (fun _ k => XS.iconst X0.here hx rfl (hb hby d1_14) k) ?_
    show own_Go p e below s _ _ _ (T.setTop (mkF m 15 #[.val (.double du), .second, .val (.double dw), .second] [(.int (0 : Int32))]))
    refine own_retN X0 hx hlk e0 (t := .boolean) hret (by simp) (hb hby d1_15) (by show _ ≤ 0; omega) (by show _ ≤ 0; omega) ?_
    exact Or.inl ⟨rfl, N0, hc1, rfl⟩
  · refine own_go (fun _ k => XS.ifNo X0.here hx rfl (hb hby d1_7) rfl ((if0 _ _).trans (flt hc1).2.2.1) k) ?_
    show own_Go p e below s _ _ _ (T.setTop (mkF m 10 #[.val (.double du), .second, .val (.double dw), .second] []))
    refine own_go (fun _ k => XS.iconst X0.here hx rfl (hb hby d1_10) k) ?_
    show own_Go p e below s _ _ _ (T.setTop (mkF m 11 #[.val (.double du), .second, .val (.double dw), .second] [(.int (1 : Int32))]))
    refine own_go (fun _ k => XS.goto X0.here hx rfl (pc0 := 11) (pc' := 15) rfl (hb hby d1_11) (by decide) (by decide) k) ?_
    show own_Go p e below s _ _ _ (T.setTop (mkF m 15 #[.val (.double du), .second, .val (.double dw), .second] [(.int (1 : Int32))]))
    refine own_retN X0 hx hlk e0 (t := .boolean) hret (by simp) (hb hby d1_15) (by show _ ≤ 0; omega) (by show _ ≤ 0; omega) ?_
    exact Or.inr (⟨rfl, N0, hc1, rfl⟩)
def Q_law (Z : State) (p1 : Int32) (p2 : Int32) (p3 : Int32) (h0 : Heap) (v : Option Value) (h : Heap) (L : List Loc) : Prop := (v = some (.int (1 : Int32)) ∧ Fr Z.heap.size L ∧ Keep h0 h [])
theorem ef_law (m : MethodId) (x0 : Int32) (x1 : Int32) (x2 : Int32) : entryFrame m #[(.int x0), (.int x1), (.int x2)] maxLocals = mkF m 0 #[iv x0, iv x1, iv x2, .unset, .unset, .unset, .unset, .unset, .unset, .unset, .unset, .unset, .unset, .unset, .unset] [] := by first | (simp [entryFrame, mkF, argsToLocals, Value.category, maxLocals]; done) | rfl
set_option maxRecDepth 65536 in
set_option maxHeartbeats 40000000 in
theorem rm_law (l : Launch) (Z : State) (a0 : Array Value) (hw : ∀ d ∈ tables_1, d.before a0 Z = true) (ws : List Jvm.Cond) (p1 : Int32) (p2 : Int32) (p3 : Int32) (h0 : Heap) (O0 : Ext Z.heap h0) :
    own_MF l Z h0 x code maxLocals ret room_1 #[(.int p1), (.int p2), (.int p3)] (Q_law Z p1 p2 p3 h0) ws := by
  refine own_met (Q := (Q_law Z p1 p2 p3 h0)) _ _ (plainFor_of_name own_pn_1) ?_
  intro p e s m below meth c T X0 hx hby hml hret hlk hZ hown hnm e0
  replace hown : s.vm.findClass "com/example/nudo/nudo/ConflictRegionsFitsPinLaw" = some m.cls := hown
  replace hnm : meth.name = "law" := hnm
  have hml : c.maxLocals = 15 := hml
  have N0 := Fr.nil Z.heap.size
  have K0 := Keep.refl h0 []
  refine own_go (fun _ k => castTop (ef_law m p1 p2 p3) k) ?_
  show own_Go p e below s _ _ _ (T.setTop (mkF m 0 #[iv p1, iv p2, iv p3, .unset, .unset, .unset, .unset, .unset, .unset, .unset, .unset, .unset, .unset, .unset, .unset] []))
  refine own_go (fun _ k => XS.iloadN X0.here hx rfl (hb hby at_0) rfl k) ?_
  show own_Go p e below s _ _ _ (T.setTop (mkF m 1 #[iv p1, iv p2, iv p3, .unset, .unset, .unset, .unset, .unset, .unset, .unset, .unset, .unset, .unset, .unset, .unset] [(.int p3)]))
  refine own_go (fun _ k => XS.iconst X0.here hx rfl (hb hby at_1) k) ?_
  show own_Go p e below s _ _ _ (T.setTop (mkF m 2 #[iv p1, iv p2, iv p3, .unset, .unset, .unset, .unset, .unset, .unset, .unset, .unset, .unset, .unset, .unset, .unset] [(.int (3 : Int32)), (.int p3)]))
  refine own_go (fun _ k => XS.iand X0.here hx rfl (hb hby at_2) rfl k) ?_
  show own_Go p e below s _ _ _ (T.setTop (mkF m 3 #[iv p1, iv p2, iv p3, .unset, .unset, .unset, .unset, .unset, .unset, .unset, .unset, .unset, .unset, .unset, .unset] [(.int (p3 &&& (3 : Int32)))]))
  refine own_go (fun _ k => XS.istoreN X0.here hx rfl (hb hby at_3) rfl (l' := #[iv p1, iv p2, iv p3, iv (p3 &&& (3 : Int32)), .unset, .unset, .unset, .unset, .unset, .unset, .unset, .unset, .unset, .unset, .unset]) rfl k) ?_
  show own_Go p e below s _ _ _ (T.setTop (mkF m 4 #[iv p1, iv p2, iv p3, iv (p3 &&& (3 : Int32)), .unset, .unset, .unset, .unset, .unset, .unset, .unset, .unset, .unset, .unset, .unset] []))
  refine own_go (X0.ldc2DoubleC hx hown (mvT hZ (ow0 hw)) (g := (mkF m 4 #[iv p1, iv p2, iv p3, iv (p3 &&& (3 : Int32)), .unset, .unset, .unset, .unset, .unset, .unset, .unset, .unset, .unset, .unset, .unset] [])) rfl (hb hby at_4)) ?_
  show own_Go p e below s _ _ _ (T.setTop (mkF m 7 #[iv p1, iv p2, iv p3, iv (p3 &&& (3 : Int32)), .unset, .unset, .unset, .unset, .unset, .unset, .unset, .unset, .unset, .unset, .unset] [(.double (4467570830351532032 : UInt64))]))
  refine own_go (fun _ k => XS.dstore X0.here hx rfl (hb hby at_7) rfl (l' := #[iv p1, iv p2, iv p3, iv (p3 &&& (3 : Int32)), .val (.double (4467570830351532032 : UInt64)), .second, .unset, .unset, .unset, .unset, .unset, .unset, .unset, .unset, .unset]) rfl k) ?_
  show own_Go p e below s _ _ _ (T.setTop (mkF m 9 #[iv p1, iv p2, iv p3, iv (p3 &&& (3 : Int32)), .val (.double (4467570830351532032 : UInt64)), .second, .unset, .unset, .unset, .unset, .unset, .unset, .unset, .unset, .unset] []))
  refine own_go (fun _ k => XS.iloadN X0.here hx rfl (hb hby at_9) rfl k) ?_
  show own_Go p e below s _ _ _ (T.setTop (mkF m 10 #[iv p1, iv p2, iv p3, iv (p3 &&& (3 : Int32)), .val (.double (4467570830351532032 : UInt64)), .second, .unset, .unset, .unset, .unset, .unset, .unset, .unset, .unset, .unset] [(.int (p3 &&& (3 : Int32)))]))
  by_cases hc1 : (p3 &&& (3 : Int32)) = (0 : Int32)
  · refine own_go (fun _ k => XS.ifNo X0.here hx rfl (hb hby at_10) rfl ((if0 _ _).trans (teq hc1).2) k) ?_
    show own_Go p e below s _ _ _ (T.setTop (mkF m 13 #[iv p1, iv p2, iv p3, iv (p3 &&& (3 : Int32)), .val (.double (4467570830351532032 : UInt64)), .second, .unset, .unset, .unset, .unset, .unset, .unset, .unset, .unset, .unset] []))
    refine own_go (fun _ k => XS.iloadN X0.here hx rfl (hb hby at_13) rfl k) ?_
    show own_Go p e below s _ _ _ (T.setTop (mkF m 14 #[iv p1, iv p2, iv p3, iv (p3 &&& (3 : Int32)), .val (.double (4467570830351532032 : UInt64)), .second, .unset, .unset, .unset, .unset, .unset, .unset, .unset, .unset, .unset] [(.int p1)]))
    refine own_go (fun _ k => XS.i2dS X0.here hx rfl (hb hby at_14) rfl rfl k) ?_
    show own_Go p e below s _ _ _ (T.setTop (mkF m 15 #[iv p1, iv p2, iv p3, iv (p3 &&& (3 : Int32)), .val (.double (4467570830351532032 : UInt64)), .second, .unset, .unset, .unset, .unset, .unset, .unset, .unset, .unset, .unset] [(.double (FP.i2d p1))]))
    refine own_go (fun _ k => XS.dstore X0.here hx rfl (hb hby at_15) rfl (l' := #[iv p1, iv p2, iv p3, iv (p3 &&& (3 : Int32)), .val (.double (4467570830351532032 : UInt64)), .second, .val (.double (FP.i2d p1)), .second, .unset, .unset, .unset, .unset, .unset, .unset, .unset]) rfl k) ?_
    show own_Go p e below s _ _ _ (T.setTop (mkF m 17 #[iv p1, iv p2, iv p3, iv (p3 &&& (3 : Int32)), .val (.double (4467570830351532032 : UInt64)), .second, .val (.double (FP.i2d p1)), .second, .unset, .unset, .unset, .unset, .unset, .unset, .unset] []))
    refine own_go (fun _ k => XS.iloadN X0.here hx rfl (hb hby at_17) rfl k) ?_
    show own_Go p e below s _ _ _ (T.setTop (mkF m 18 #[iv p1, iv p2, iv p3, iv (p3 &&& (3 : Int32)), .val (.double (4467570830351532032 : UInt64)), .second, .val (.double (FP.i2d p1)), .second, .unset, .unset, .unset, .unset, .unset, .unset, .unset] [(.int p2)]))
    refine own_go (fun _ k => XS.i2dS X0.here hx rfl (hb hby at_18) rfl rfl k) ?_
    show own_Go p e below s _ _ _ (T.setTop (mkF m 19 #[iv p1, iv p2, iv p3, iv (p3 &&& (3 : Int32)), .val (.double (4467570830351532032 : UInt64)), .second, .val (.double (FP.i2d p1)), .second, .unset, .unset, .unset, .unset, .unset, .unset, .unset] [(.double (FP.i2d p2))]))
    refine own_go (fun _ k => XS.dstore X0.here hx rfl (hb hby at_19) rfl (l' := #[iv p1, iv p2, iv p3, iv (p3 &&& (3 : Int32)), .val (.double (4467570830351532032 : UInt64)), .second, .val (.double (FP.i2d p1)), .second, .val (.double (FP.i2d p2)), .second, .unset, .unset, .unset, .unset, .unset]) rfl k) ?_
    show own_Go p e below s _ _ _ (T.setTop (mkF m 21 #[iv p1, iv p2, iv p3, iv (p3 &&& (3 : Int32)), .val (.double (4467570830351532032 : UInt64)), .second, .val (.double (FP.i2d p1)), .second, .val (.double (FP.i2d p2)), .second, .unset, .unset, .unset, .unset, .unset] []))
    refine own_go (fun _ k => XS.iloadN X0.here hx rfl (hb hby at_21) rfl k) ?_
    show own_Go p e below s _ _ _ (T.setTop (mkF m 22 #[iv p1, iv p2, iv p3, iv (p3 &&& (3 : Int32)), .val (.double (4467570830351532032 : UInt64)), .second, .val (.double (FP.i2d p1)), .second, .val (.double (FP.i2d p2)), .second, .unset, .unset, .unset, .unset, .unset] [(.int p1)]))
    refine own_go (fun _ k => XS.iloadN X0.here hx rfl (hb hby at_22) rfl k) ?_
    show own_Go p e below s _ _ _ (T.setTop (mkF m 23 #[iv p1, iv p2, iv p3, iv (p3 &&& (3 : Int32)), .val (.double (4467570830351532032 : UInt64)), .second, .val (.double (FP.i2d p1)), .second, .val (.double (FP.i2d p2)), .second, .unset, .unset, .unset, .unset, .unset] [(.int p2), (.int p1)]))
    by_cases hc2 : p2 < p1
    · refine own_go (fun _ k => XS.icmpYes X0.here hx rfl (pc0 := 23) (pc' := 30) rfl (hb hby at_23) rfl (tlt hc2).2.2.1 (by decide) (by decide) k) ?_
      show own_Go p e below s _ _ _ (T.setTop (mkF m 30 #[iv p1, iv p2, iv p3, iv (p3 &&& (3 : Int32)), .val (.double (4467570830351532032 : UInt64)), .second, .val (.double (FP.i2d p1)), .second, .val (.double (FP.i2d p2)), .second, .unset, .unset, .unset, .unset, .unset] []))
      refine own_go (fun _ k => XS.iconst X0.here hx rfl (hb hby at_30) k) ?_
      show own_Go p e below s _ _ _ (T.setTop (mkF m 31 #[iv p1, iv p2, iv p3, iv (p3 &&& (3 : Int32)), .val (.double (4467570830351532032 : UInt64)), .second, .val (.double (FP.i2d p1)), .second, .val (.double (FP.i2d p2)), .second, .unset, .unset, .unset, .unset, .unset] [(.int (0 : Int32))]))
      refine own_go (fun _ k => XS.istore X0.here hx rfl (hb hby at_31) rfl (l' := #[iv p1, iv p2, iv p3, iv (p3 &&& (3 : Int32)), .val (.double (4467570830351532032 : UInt64)), .second, .val (.double (FP.i2d p1)), .second, .val (.double (FP.i2d p2)), .second, iv (0 : Int32), .unset, .unset, .unset, .unset]) rfl k) ?_
      show own_Go p e below s _ _ _ (T.setTop (mkF m 33 #[iv p1, iv p2, iv p3, iv (p3 &&& (3 : Int32)), .val (.double (4467570830351532032 : UInt64)), .second, .val (.double (FP.i2d p1)), .second, .val (.double (FP.i2d p2)), .second, iv (0 : Int32), .unset, .unset, .unset, .unset] []))
      refine own_go (fun _ k => XS.goto X0.here hx rfl (pc0 := 33) (pc' := 126) rfl (hb hby at_33) (by decide) (by decide) k) ?_
      show own_Go p e below s _ _ _ (T.setTop (mkF m 126 #[iv p1, iv p2, iv p3, iv (p3 &&& (3 : Int32)), .val (.double (4467570830351532032 : UInt64)), .second, .val (.double (FP.i2d p1)), .second, .val (.double (FP.i2d p2)), .second, iv (0 : Int32), .unset, .unset, .unset, .unset] []))
      refine own_go (fun _ k => XS.dload X0.here hx rfl (hb hby at_126) rfl k) ?_
      show own_Go p e below s _ _ _ (T.setTop (mkF m 128 #[iv p1, iv p2, iv p3, iv (p3 &&& (3 : Int32)), .val (.double (4467570830351532032 : UInt64)), .second, .val (.double (FP.i2d p1)), .second, .val (.double (FP.i2d p2)), .second, iv (0 : Int32), .unset, .unset, .unset, .unset] [(.double (FP.i2d p1))]))
      refine own_go (fun _ k => XS.dload X0.here hx rfl (hb hby at_128) rfl k) ?_
      show own_Go p e below s _ _ _ (T.setTop (mkF m 130 #[iv p1, iv p2, iv p3, iv (p3 &&& (3 : Int32)), .val (.double (4467570830351532032 : UInt64)), .second, .val (.double (FP.i2d p1)), .second, .val (.double (FP.i2d p2)), .second, iv (0 : Int32), .unset, .unset, .unset, .unset] [(.double (FP.i2d p2)), (.double (FP.i2d p1))]))
      obtain ⟨v3, T3, L3, X3, hQ3, st3⟩ := own_callS (y := (⟨"com/example/nudo/nudo/ConflictRegions", "fits", "(DD)Z"⟩ : MethodName)) X0 hx hZ hown (ow2 hw) (ow3 hw) (ow4 hw) (ow5 hw) (rm_fits l Z a0 hw [] (FP.i2d p1) (FP.i2d p2) h0 O0 (own_finI _)) 0 0 0 (by show _ ≤ 0; omega) (by show _ ≤ 0; omega) e0 (g := (mkF m 130 #[iv p1, iv p2, iv p3, iv (p3 &&& (3 : Int32)), .val (.double (4467570830351532032 : UInt64)), .second, .val (.double (FP.i2d p1)), .second, .val (.double (FP.i2d p2)), .second, iv (0 : Int32), .unset, .unset, .unset, .unset] [(.double (FP.i2d p2)), (.double (FP.i2d p1))])) rfl (by rw [hml]; rfl) [(.double (FP.i2d p1)), (.double (FP.i2d p2))] [] (lenOf own_pd_0 rfl) rfl rfl (hb hby at_130)
      rcases hQ3 with hQ3 | hQ3
      · obtain ⟨rfl, Nc6, hp4, Kc5⟩ := hQ3
        refine own_go st3 ?_
        clear st3 X0 e0
        replace N0 := Fr.app N0 Nc6
        clear Nc6
        show own_Go p e below s _ _ _ (T3.setTop (mkF m 133 #[iv p1, iv p2, iv p3, iv (p3 &&& (3 : Int32)), .val (.double (4467570830351532032 : UInt64)), .second, .val (.double (FP.i2d p1)), .second, .val (.double (FP.i2d p2)), .second, iv (0 : Int32), .unset, .unset, .unset, .unset] [(.int (0 : Int32))]))
        refine own_go (fun _ k => XS.iload X3.here hx rfl (hb hby at_133) rfl k) ?_
        show own_Go p e below s _ _ _ (T3.setTop (mkF m 135 #[iv p1, iv p2, iv p3, iv (p3 &&& (3 : Int32)), .val (.double (4467570830351532032 : UInt64)), .second, .val (.double (FP.i2d p1)), .second, .val (.double (FP.i2d p2)), .second, iv (0 : Int32), .unset, .unset, .unset, .unset] [(.int (0 : Int32)), (.int (0 : Int32))]))
        refine own_go (fun _ k => XS.icmpNo X3.here hx rfl (hb hby at_135) rfl (teq (by decide : (0 : Int32) = (0 : Int32))).2 k) ?_
        show own_Go p e below s _ _ _ (T3.setTop (mkF m 138 #[iv p1, iv p2, iv p3, iv (p3 &&& (3 : Int32)), .val (.double (4467570830351532032 : UInt64)), .second, .val (.double (FP.i2d p1)), .second, .val (.double (FP.i2d p2)), .second, iv (0 : Int32), .unset, .unset, .unset, .unset] []))
        refine own_go (fun _ k => XS.iconst X3.here hx rfl (hb hby at_138) k) ?_
        show own_Go p e below s _ _ _ (T3.setTop (mkF m 139 #[iv p1, iv p2, iv p3, iv (p3 &&& (3 : Int32)), .val (.double (4467570830351532032 : UInt64)), .second, .val (.double (FP.i2d p1)), .second, .val (.double (FP.i2d p2)), .second, iv (0 : Int32), .unset, .unset, .unset, .unset] [(.int (1 : Int32))]))
        refine own_go (fun _ k => XS.goto X3.here hx rfl (pc0 := 139) (pc' := 143) rfl (hb hby at_139) (by decide) (by decide) k) ?_
        show own_Go p e below s _ _ _ (T3.setTop (mkF m 143 #[iv p1, iv p2, iv p3, iv (p3 &&& (3 : Int32)), .val (.double (4467570830351532032 : UInt64)), .second, .val (.double (FP.i2d p1)), .second, .val (.double (FP.i2d p2)), .second, iv (0 : Int32), .unset, .unset, .unset, .unset] [(.int (1 : Int32))]))
        refine own_retN X3 hx hlk Kc5 (t := .boolean) hret (by simp) (hb hby at_143) (by show _ ≤ 0; omega) (by show _ ≤ 0; omega) ?_
        exact ⟨rfl, N0, K0⟩
      · obtain ⟨rfl, Nc9, hp7, Kc8⟩ := hQ3
        refine own_go st3 ?_
        clear st3 X0 e0
        replace N0 := Fr.app N0 Nc9
        clear Nc9
        show own_Go p e below s _ _ _ (T3.setTop (mkF m 133 #[iv p1, iv p2, iv p3, iv (p3 &&& (3 : Int32)), .val (.double (4467570830351532032 : UInt64)), .second, .val (.double (FP.i2d p1)), .second, .val (.double (FP.i2d p2)), .second, iv (0 : Int32), .unset, .unset, .unset, .unset] [(.int (1 : Int32))]))
        refine own_go (fun _ k => XS.iload X3.here hx rfl (hb hby at_133) rfl k) ?_
        show own_Go p e below s _ _ _ (T3.setTop (mkF m 135 #[iv p1, iv p2, iv p3, iv (p3 &&& (3 : Int32)), .val (.double (4467570830351532032 : UInt64)), .second, .val (.double (FP.i2d p1)), .second, .val (.double (FP.i2d p2)), .second, iv (0 : Int32), .unset, .unset, .unset, .unset] [(.int (0 : Int32)), (.int (1 : Int32))]))
        refine own_go (fun _ k => XS.icmpYes X3.here hx rfl (pc0 := 135) (pc' := 142) rfl (hb hby at_135) rfl (feq (by decide : ¬ ((1 : Int32) = (0 : Int32)))).2 (by decide) (by decide) k) ?_
        show own_Go p e below s _ _ _ (T3.setTop (mkF m 142 #[iv p1, iv p2, iv p3, iv (p3 &&& (3 : Int32)), .val (.double (4467570830351532032 : UInt64)), .second, .val (.double (FP.i2d p1)), .second, .val (.double (FP.i2d p2)), .second, iv (0 : Int32), .unset, .unset, .unset, .unset] []))
        refine own_go (fun _ k => XS.iconst X3.here hx rfl (hb hby at_142) k) ?_
        show own_Go p e below s _ _ _ (T3.setTop (mkF m 143 #[iv p1, iv p2, iv p3, iv (p3 &&& (3 : Int32)), .val (.double (4467570830351532032 : UInt64)), .second, .val (.double (FP.i2d p1)), .second, .val (.double (FP.i2d p2)), .second, iv (0 : Int32), .unset, .unset, .unset, .unset] [(.int (0 : Int32))]))
        refine own_retN X3 hx hlk Kc8 (t := .boolean) hret (by simp) (hb hby at_143) (by show _ ≤ 0; omega) (by show _ ≤ 0; omega) ?_
        exfalso
        have hz := mt (own_law0 p1 p2).mpr hp7
        have ar0 := rng32 p3
        have ar1 := c_mask p3 (3 : Int32) 2 (by decide) (by decide)
        have ar2 : (0 : Int32).toInt = 0 := by decide
        have ar3 := congrArg Int32.toInt hc1
        have ar4 := rng32 p2
        have ar5 := rng32 p1
        have ar6 := Int32.lt_iff_toInt_lt.mp hc2
        omega
    · refine own_go (fun _ k => XS.icmpNo X0.here hx rfl (hb hby at_23) rfl (flt hc2).2.2.1 k) ?_
      show own_Go p e below s _ _ _ (T.setTop (mkF m 26 #[iv p1, iv p2, iv p3, iv (p3 &&& (3 : Int32)), .val (.double (4467570830351532032 : UInt64)), .second, .val (.double (FP.i2d p1)), .second, .val (.double (FP.i2d p2)), .second, .unset, .unset, .unset, .unset, .unset] []))
      refine own_go (fun _ k => XS.iconst X0.here hx rfl (hb hby at_26) k) ?_
      show own_Go p e below s _ _ _ (T.setTop (mkF m 27 #[iv p1, iv p2, iv p3, iv (p3 &&& (3 : Int32)), .val (.double (4467570830351532032 : UInt64)), .second, .val (.double (FP.i2d p1)), .second, .val (.double (FP.i2d p2)), .second, .unset, .unset, .unset, .unset, .unset] [(.int (1 : Int32))]))
      refine own_go (fun _ k => XS.goto X0.here hx rfl (pc0 := 27) (pc' := 31) rfl (hb hby at_27) (by decide) (by decide) k) ?_
      show own_Go p e below s _ _ _ (T.setTop (mkF m 31 #[iv p1, iv p2, iv p3, iv (p3 &&& (3 : Int32)), .val (.double (4467570830351532032 : UInt64)), .second, .val (.double (FP.i2d p1)), .second, .val (.double (FP.i2d p2)), .second, .unset, .unset, .unset, .unset, .unset] [(.int (1 : Int32))]))
      refine own_go (fun _ k => XS.istore X0.here hx rfl (hb hby at_31) rfl (l' := #[iv p1, iv p2, iv p3, iv (p3 &&& (3 : Int32)), .val (.double (4467570830351532032 : UInt64)), .second, .val (.double (FP.i2d p1)), .second, .val (.double (FP.i2d p2)), .second, iv (1 : Int32), .unset, .unset, .unset, .unset]) rfl k) ?_
      show own_Go p e below s _ _ _ (T.setTop (mkF m 33 #[iv p1, iv p2, iv p3, iv (p3 &&& (3 : Int32)), .val (.double (4467570830351532032 : UInt64)), .second, .val (.double (FP.i2d p1)), .second, .val (.double (FP.i2d p2)), .second, iv (1 : Int32), .unset, .unset, .unset, .unset] []))
      refine own_go (fun _ k => XS.goto X0.here hx rfl (pc0 := 33) (pc' := 126) rfl (hb hby at_33) (by decide) (by decide) k) ?_
      show own_Go p e below s _ _ _ (T.setTop (mkF m 126 #[iv p1, iv p2, iv p3, iv (p3 &&& (3 : Int32)), .val (.double (4467570830351532032 : UInt64)), .second, .val (.double (FP.i2d p1)), .second, .val (.double (FP.i2d p2)), .second, iv (1 : Int32), .unset, .unset, .unset, .unset] []))
      refine own_go (fun _ k => XS.dload X0.here hx rfl (hb hby at_126) rfl k) ?_
      show own_Go p e below s _ _ _ (T.setTop (mkF m 128 #[iv p1, iv p2, iv p3, iv (p3 &&& (3 : Int32)), .val (.double (4467570830351532032 : UInt64)), .second, .val (.double (FP.i2d p1)), .second, .val (.double (FP.i2d p2)), .second, iv (1 : Int32), .unset, .unset, .unset, .unset] [(.double (FP.i2d p1))]))
      refine own_go (fun _ k => XS.dload X0.here hx rfl (hb hby at_128) rfl k) ?_
      show own_Go p e below s _ _ _ (T.setTop (mkF m 130 #[iv p1, iv p2, iv p3, iv (p3 &&& (3 : Int32)), .val (.double (4467570830351532032 : UInt64)), .second, .val (.double (FP.i2d p1)), .second, .val (.double (FP.i2d p2)), .second, iv (1 : Int32), .unset, .unset, .unset, .unset] [(.double (FP.i2d p2)), (.double (FP.i2d p1))]))
      obtain ⟨v10, T10, L10, X10, hQ10, st10⟩ := own_callS (y := (⟨"com/example/nudo/nudo/ConflictRegions", "fits", "(DD)Z"⟩ : MethodName)) X0 hx hZ hown (ow2 hw) (ow3 hw) (ow4 hw) (ow5 hw) (rm_fits l Z a0 hw [] (FP.i2d p1) (FP.i2d p2) h0 O0 (own_finI _)) 0 0 0 (by show _ ≤ 0; omega) (by show _ ≤ 0; omega) e0 (g := (mkF m 130 #[iv p1, iv p2, iv p3, iv (p3 &&& (3 : Int32)), .val (.double (4467570830351532032 : UInt64)), .second, .val (.double (FP.i2d p1)), .second, .val (.double (FP.i2d p2)), .second, iv (1 : Int32), .unset, .unset, .unset, .unset] [(.double (FP.i2d p2)), (.double (FP.i2d p1))])) rfl (by rw [hml]; rfl) [(.double (FP.i2d p1)), (.double (FP.i2d p2))] [] (lenOf own_pd_0 rfl) rfl rfl (hb hby at_130)
      rcases hQ10 with hQ10 | hQ10
      · obtain ⟨rfl, Nc13, hp11, Kc12⟩ := hQ10
        refine own_go st10 ?_
        clear st10 X0 e0
        replace N0 := Fr.app N0 Nc13
        clear Nc13
        show own_Go p e below s _ _ _ (T10.setTop (mkF m 133 #[iv p1, iv p2, iv p3, iv (p3 &&& (3 : Int32)), .val (.double (4467570830351532032 : UInt64)), .second, .val (.double (FP.i2d p1)), .second, .val (.double (FP.i2d p2)), .second, iv (1 : Int32), .unset, .unset, .unset, .unset] [(.int (0 : Int32))]))
        refine own_go (fun _ k => XS.iload X10.here hx rfl (hb hby at_133) rfl k) ?_
        show own_Go p e below s _ _ _ (T10.setTop (mkF m 135 #[iv p1, iv p2, iv p3, iv (p3 &&& (3 : Int32)), .val (.double (4467570830351532032 : UInt64)), .second, .val (.double (FP.i2d p1)), .second, .val (.double (FP.i2d p2)), .second, iv (1 : Int32), .unset, .unset, .unset, .unset] [(.int (1 : Int32)), (.int (0 : Int32))]))
        refine own_go (fun _ k => XS.icmpYes X10.here hx rfl (pc0 := 135) (pc' := 142) rfl (hb hby at_135) rfl (feq (by decide : ¬ ((0 : Int32) = (1 : Int32)))).2 (by decide) (by decide) k) ?_
        show own_Go p e below s _ _ _ (T10.setTop (mkF m 142 #[iv p1, iv p2, iv p3, iv (p3 &&& (3 : Int32)), .val (.double (4467570830351532032 : UInt64)), .second, .val (.double (FP.i2d p1)), .second, .val (.double (FP.i2d p2)), .second, iv (1 : Int32), .unset, .unset, .unset, .unset] []))
        refine own_go (fun _ k => XS.iconst X10.here hx rfl (hb hby at_142) k) ?_
        show own_Go p e below s _ _ _ (T10.setTop (mkF m 143 #[iv p1, iv p2, iv p3, iv (p3 &&& (3 : Int32)), .val (.double (4467570830351532032 : UInt64)), .second, .val (.double (FP.i2d p1)), .second, .val (.double (FP.i2d p2)), .second, iv (1 : Int32), .unset, .unset, .unset, .unset] [(.int (0 : Int32))]))
        refine own_retN X10 hx hlk Kc12 (t := .boolean) hret (by simp) (hb hby at_143) (by show _ ≤ 0; omega) (by show _ ≤ 0; omega) ?_
        exfalso
        have hz := (own_law0 p1 p2).mp hp11
        have ar0 := rng32 p3
        have ar1 := c_mask p3 (3 : Int32) 2 (by decide) (by decide)
        have ar2 : (0 : Int32).toInt = 0 := by decide
        have ar3 := congrArg Int32.toInt hc1
        have ar4 := rng32 p2
        have ar5 := rng32 p1
        have ar6 := mt Int32.lt_iff_toInt_lt.mpr hc2
        omega
      · obtain ⟨rfl, Nc16, hp14, Kc15⟩ := hQ10
        refine own_go st10 ?_
        clear st10 X0 e0
        replace N0 := Fr.app N0 Nc16
        clear Nc16
        show own_Go p e below s _ _ _ (T10.setTop (mkF m 133 #[iv p1, iv p2, iv p3, iv (p3 &&& (3 : Int32)), .val (.double (4467570830351532032 : UInt64)), .second, .val (.double (FP.i2d p1)), .second, .val (.double (FP.i2d p2)), .second, iv (1 : Int32), .unset, .unset, .unset, .unset] [(.int (1 : Int32))]))
        refine own_go (fun _ k => XS.iload X10.here hx rfl (hb hby at_133) rfl k) ?_
        show own_Go p e below s _ _ _ (T10.setTop (mkF m 135 #[iv p1, iv p2, iv p3, iv (p3 &&& (3 : Int32)), .val (.double (4467570830351532032 : UInt64)), .second, .val (.double (FP.i2d p1)), .second, .val (.double (FP.i2d p2)), .second, iv (1 : Int32), .unset, .unset, .unset, .unset] [(.int (1 : Int32)), (.int (1 : Int32))]))
        refine own_go (fun _ k => XS.icmpNo X10.here hx rfl (hb hby at_135) rfl (teq (by decide : (1 : Int32) = (1 : Int32))).2 k) ?_
        show own_Go p e below s _ _ _ (T10.setTop (mkF m 138 #[iv p1, iv p2, iv p3, iv (p3 &&& (3 : Int32)), .val (.double (4467570830351532032 : UInt64)), .second, .val (.double (FP.i2d p1)), .second, .val (.double (FP.i2d p2)), .second, iv (1 : Int32), .unset, .unset, .unset, .unset] []))
        refine own_go (fun _ k => XS.iconst X10.here hx rfl (hb hby at_138) k) ?_
        show own_Go p e below s _ _ _ (T10.setTop (mkF m 139 #[iv p1, iv p2, iv p3, iv (p3 &&& (3 : Int32)), .val (.double (4467570830351532032 : UInt64)), .second, .val (.double (FP.i2d p1)), .second, .val (.double (FP.i2d p2)), .second, iv (1 : Int32), .unset, .unset, .unset, .unset] [(.int (1 : Int32))]))
        refine own_go (fun _ k => XS.goto X10.here hx rfl (pc0 := 139) (pc' := 143) rfl (hb hby at_139) (by decide) (by decide) k) ?_
        show own_Go p e below s _ _ _ (T10.setTop (mkF m 143 #[iv p1, iv p2, iv p3, iv (p3 &&& (3 : Int32)), .val (.double (4467570830351532032 : UInt64)), .second, .val (.double (FP.i2d p1)), .second, .val (.double (FP.i2d p2)), .second, iv (1 : Int32), .unset, .unset, .unset, .unset] [(.int (1 : Int32))]))
        refine own_retN X10 hx hlk Kc15 (t := .boolean) hret (by simp) (hb hby at_143) (by show _ ≤ 0; omega) (by show _ ≤ 0; omega) ?_
        exact ⟨rfl, N0, K0⟩
  · refine own_go (fun _ k => XS.ifYes X0.here hx rfl (pc0 := 10) (pc' := 36) rfl (hb hby at_10) rfl ((if0 _ _).trans (feq hc1).2) (by decide) (by decide) k) ?_
    show own_Go p e below s _ _ _ (T.setTop (mkF m 36 #[iv p1, iv p2, iv p3, iv (p3 &&& (3 : Int32)), .val (.double (4467570830351532032 : UInt64)), .second, .unset, .unset, .unset, .unset, .unset, .unset, .unset, .unset, .unset] []))
    refine own_go (fun _ k => XS.iloadN X0.here hx rfl (hb hby at_36) rfl k) ?_
    show own_Go p e below s _ _ _ (T.setTop (mkF m 37 #[iv p1, iv p2, iv p3, iv (p3 &&& (3 : Int32)), .val (.double (4467570830351532032 : UInt64)), .second, .unset, .unset, .unset, .unset, .unset, .unset, .unset, .unset, .unset] [(.int p1)]))
    refine own_go (fun _ k => XS.bipush X0.here hx rfl (hb hby at_37) k) ?_
    show own_Go p e below s _ _ _ (T.setTop (mkF m 39 #[iv p1, iv p2, iv p3, iv (p3 &&& (3 : Int32)), .val (.double (4467570830351532032 : UInt64)), .second, .unset, .unset, .unset, .unset, .unset, .unset, .unset, .unset, .unset] [(.int (12 : Int32)), (.int p1)]))
    refine own_go (fun _ k => XS.ishl X0.here hx rfl (hb hby at_39) rfl k) ?_
    show own_Go p e below s _ _ _ (T.setTop (mkF m 40 #[iv p1, iv p2, iv p3, iv (p3 &&& (3 : Int32)), .val (.double (4467570830351532032 : UInt64)), .second, .unset, .unset, .unset, .unset, .unset, .unset, .unset, .unset, .unset] [(.int (p1 <<< ((12 : Int32) &&& 31)))]))
    refine own_go (fun _ k => XS.bipush X0.here hx rfl (hb hby at_40) k) ?_
    show own_Go p e below s _ _ _ (T.setTop (mkF m 42 #[iv p1, iv p2, iv p3, iv (p3 &&& (3 : Int32)), .val (.double (4467570830351532032 : UInt64)), .second, .unset, .unset, .unset, .unset, .unset, .unset, .unset, .unset, .unset] [(.int (12 : Int32)), (.int (p1 <<< ((12 : Int32) &&& 31)))]))
    refine own_go (fun _ k => XS.ishr X0.here hx rfl (hb hby at_42) rfl k) ?_
    show own_Go p e below s _ _ _ (T.setTop (mkF m 43 #[iv p1, iv p2, iv p3, iv (p3 &&& (3 : Int32)), .val (.double (4467570830351532032 : UInt64)), .second, .unset, .unset, .unset, .unset, .unset, .unset, .unset, .unset, .unset] [(.int ((p1 <<< ((12 : Int32) &&& 31)) >>> ((12 : Int32) &&& 31)))]))
    refine own_go (fun _ k => XS.istore X0.here hx rfl (hb hby at_43) rfl (l' := #[iv p1, iv p2, iv p3, iv (p3 &&& (3 : Int32)), .val (.double (4467570830351532032 : UInt64)), .second, .unset, .unset, .unset, .unset, .unset, iv ((p1 <<< ((12 : Int32) &&& 31)) >>> ((12 : Int32) &&& 31)), .unset, .unset, .unset]) rfl k) ?_
    show own_Go p e below s _ _ _ (T.setTop (mkF m 45 #[iv p1, iv p2, iv p3, iv (p3 &&& (3 : Int32)), .val (.double (4467570830351532032 : UInt64)), .second, .unset, .unset, .unset, .unset, .unset, iv ((p1 <<< ((12 : Int32) &&& 31)) >>> ((12 : Int32) &&& 31)), .unset, .unset, .unset] []))
    refine own_go (fun _ k => XS.iloadN X0.here hx rfl (hb hby at_45) rfl k) ?_
    show own_Go p e below s _ _ _ (T.setTop (mkF m 46 #[iv p1, iv p2, iv p3, iv (p3 &&& (3 : Int32)), .val (.double (4467570830351532032 : UInt64)), .second, .unset, .unset, .unset, .unset, .unset, iv ((p1 <<< ((12 : Int32) &&& 31)) >>> ((12 : Int32) &&& 31)), .unset, .unset, .unset] [(.int p2)]))
    refine own_go (fun _ k => XS.bipush X0.here hx rfl (hb hby at_46) k) ?_
    show own_Go p e below s _ _ _ (T.setTop (mkF m 48 #[iv p1, iv p2, iv p3, iv (p3 &&& (3 : Int32)), .val (.double (4467570830351532032 : UInt64)), .second, .unset, .unset, .unset, .unset, .unset, iv ((p1 <<< ((12 : Int32) &&& 31)) >>> ((12 : Int32) &&& 31)), .unset, .unset, .unset] [(.int (12 : Int32)), (.int p2)]))
    refine own_go (fun _ k => XS.ishl X0.here hx rfl (hb hby at_48) rfl k) ?_
    show own_Go p e below s _ _ _ (T.setTop (mkF m 49 #[iv p1, iv p2, iv p3, iv (p3 &&& (3 : Int32)), .val (.double (4467570830351532032 : UInt64)), .second, .unset, .unset, .unset, .unset, .unset, iv ((p1 <<< ((12 : Int32) &&& 31)) >>> ((12 : Int32) &&& 31)), .unset, .unset, .unset] [(.int (p2 <<< ((12 : Int32) &&& 31)))]))
    refine own_go (fun _ k => XS.bipush X0.here hx rfl (hb hby at_49) k) ?_
    show own_Go p e below s _ _ _ (T.setTop (mkF m 51 #[iv p1, iv p2, iv p3, iv (p3 &&& (3 : Int32)), .val (.double (4467570830351532032 : UInt64)), .second, .unset, .unset, .unset, .unset, .unset, iv ((p1 <<< ((12 : Int32) &&& 31)) >>> ((12 : Int32) &&& 31)), .unset, .unset, .unset] [(.int (12 : Int32)), (.int (p2 <<< ((12 : Int32) &&& 31)))]))
    refine own_go (fun _ k => XS.ishr X0.here hx rfl (hb hby at_51) rfl k) ?_
    show own_Go p e below s _ _ _ (T.setTop (mkF m 52 #[iv p1, iv p2, iv p3, iv (p3 &&& (3 : Int32)), .val (.double (4467570830351532032 : UInt64)), .second, .unset, .unset, .unset, .unset, .unset, iv ((p1 <<< ((12 : Int32) &&& 31)) >>> ((12 : Int32) &&& 31)), .unset, .unset, .unset] [(.int ((p2 <<< ((12 : Int32) &&& 31)) >>> ((12 : Int32) &&& 31)))]))
    refine own_go (fun _ k => XS.istore X0.here hx rfl (hb hby at_52) rfl (l' := #[iv p1, iv p2, iv p3, iv (p3 &&& (3 : Int32)), .val (.double (4467570830351532032 : UInt64)), .second, .unset, .unset, .unset, .unset, .unset, iv ((p1 <<< ((12 : Int32) &&& 31)) >>> ((12 : Int32) &&& 31)), iv ((p2 <<< ((12 : Int32) &&& 31)) >>> ((12 : Int32) &&& 31)), .unset, .unset]) rfl k) ?_
    show own_Go p e below s _ _ _ (T.setTop (mkF m 54 #[iv p1, iv p2, iv p3, iv (p3 &&& (3 : Int32)), .val (.double (4467570830351532032 : UInt64)), .second, .unset, .unset, .unset, .unset, .unset, iv ((p1 <<< ((12 : Int32) &&& 31)) >>> ((12 : Int32) &&& 31)), iv ((p2 <<< ((12 : Int32) &&& 31)) >>> ((12 : Int32) &&& 31)), .unset, .unset] []))
    refine own_go (fun _ k => XS.iloadN X0.here hx rfl (hb hby at_54) rfl k) ?_
    show own_Go p e below s _ _ _ (T.setTop (mkF m 55 #[iv p1, iv p2, iv p3, iv (p3 &&& (3 : Int32)), .val (.double (4467570830351532032 : UInt64)), .second, .unset, .unset, .unset, .unset, .unset, iv ((p1 <<< ((12 : Int32) &&& 31)) >>> ((12 : Int32) &&& 31)), iv ((p2 <<< ((12 : Int32) &&& 31)) >>> ((12 : Int32) &&& 31)), .unset, .unset] [(.int (p3 &&& (3 : Int32)))]))
    refine own_go (fun _ k => XS.iconst X0.here hx rfl (hb hby at_55) k) ?_
    show own_Go p e below s _ _ _ (T.setTop (mkF m 56 #[iv p1, iv p2, iv p3, iv (p3 &&& (3 : Int32)), .val (.double (4467570830351532032 : UInt64)), .second, .unset, .unset, .unset, .unset, .unset, iv ((p1 <<< ((12 : Int32) &&& 31)) >>> ((12 : Int32) &&& 31)), iv ((p2 <<< ((12 : Int32) &&& 31)) >>> ((12 : Int32) &&& 31)), .unset, .unset] [(.int (1 : Int32)), (.int (p3 &&& (3 : Int32)))]))
    by_cases hc17 : (p3 &&& (3 : Int32)) = (1 : Int32)
    · refine own_go (fun _ k => XS.icmpNo X0.here hx rfl (hb hby at_56) rfl (teq hc17).2 k) ?_
      show own_Go p e below s _ _ _ (T.setTop (mkF m 59 #[iv p1, iv p2, iv p3, iv (p3 &&& (3 : Int32)), .val (.double (4467570830351532032 : UInt64)), .second, .unset, .unset, .unset, .unset, .unset, iv ((p1 <<< ((12 : Int32) &&& 31)) >>> ((12 : Int32) &&& 31)), iv ((p2 <<< ((12 : Int32) &&& 31)) >>> ((12 : Int32) &&& 31)), .unset, .unset] []))
      refine own_go (fun _ k => XS.dload X0.here hx rfl (hb hby at_59) rfl k) ?_
      show own_Go p e below s _ _ _ (T.setTop (mkF m 61 #[iv p1, iv p2, iv p3, iv (p3 &&& (3 : Int32)), .val (.double (4467570830351532032 : UInt64)), .second, .unset, .unset, .unset, .unset, .unset, iv ((p1 <<< ((12 : Int32) &&& 31)) >>> ((12 : Int32) &&& 31)), iv ((p2 <<< ((12 : Int32) &&& 31)) >>> ((12 : Int32) &&& 31)), .unset, .unset] [(.double (4467570830351532032 : UInt64))]))
      refine own_go (fun _ k => XS.dstore X0.here hx rfl (hb hby at_61) rfl (l' := #[iv p1, iv p2, iv p3, iv (p3 &&& (3 : Int32)), .val (.double (4467570830351532032 : UInt64)), .second, .unset, .unset, .unset, .unset, .unset, iv ((p1 <<< ((12 : Int32) &&& 31)) >>> ((12 : Int32) &&& 31)), iv ((p2 <<< ((12 : Int32) &&& 31)) >>> ((12 : Int32) &&& 31)), .val (.double (4467570830351532032 : UInt64)), .second]) rfl k) ?_
      show own_Go p e below s _ _ _ (T.setTop (mkF m 63 #[iv p1, iv p2, iv p3, iv (p3 &&& (3 : Int32)), .val (.double (4467570830351532032 : UInt64)), .second, .unset, .unset, .unset, .unset, .unset, iv ((p1 <<< ((12 : Int32) &&& 31)) >>> ((12 : Int32) &&& 31)), iv ((p2 <<< ((12 : Int32) &&& 31)) >>> ((12 : Int32) &&& 31)), .val (.double (4467570830351532032 : UInt64)), .second] []))
      refine own_go (fun _ k => XS.goto X0.here hx rfl (pc0 := 63) (pc' := 87) rfl (hb hby at_63) (by decide) (by decide) k) ?_
      show own_Go p e below s _ _ _ (T.setTop (mkF m 87 #[iv p1, iv p2, iv p3, iv (p3 &&& (3 : Int32)), .val (.double (4467570830351532032 : UInt64)), .second, .unset, .unset, .unset, .unset, .unset, iv ((p1 <<< ((12 : Int32) &&& 31)) >>> ((12 : Int32) &&& 31)), iv ((p2 <<< ((12 : Int32) &&& 31)) >>> ((12 : Int32) &&& 31)), .val (.double (4467570830351532032 : UInt64)), .second] []))
      refine own_go (fun _ k => XS.iload X0.here hx rfl (hb hby at_87) rfl k) ?_
      show own_Go p e below s _ _ _ (T.setTop (mkF m 89 #[iv p1, iv p2, iv p3, iv (p3 &&& (3 : Int32)), .val (.double (4467570830351532032 : UInt64)), .second, .unset, .unset, .unset, .unset, .unset, iv ((p1 <<< ((12 : Int32) &&& 31)) >>> ((12 : Int32) &&& 31)), iv ((p2 <<< ((12 : Int32) &&& 31)) >>> ((12 : Int32) &&& 31)), .val (.double (4467570830351532032 : UInt64)), .second] [(.int ((p1 <<< ((12 : Int32) &&& 31)) >>> ((12 : Int32) &&& 31)))]))
      refine own_go (fun _ k => XS.i2dS X0.here hx rfl (hb hby at_89) rfl rfl k) ?_
      show own_Go p e below s _ _ _ (T.setTop (mkF m 90 #[iv p1, iv p2, iv p3, iv (p3 &&& (3 : Int32)), .val (.double (4467570830351532032 : UInt64)), .second, .unset, .unset, .unset, .unset, .unset, iv ((p1 <<< ((12 : Int32) &&& 31)) >>> ((12 : Int32) &&& 31)), iv ((p2 <<< ((12 : Int32) &&& 31)) >>> ((12 : Int32) &&& 31)), .val (.double (4467570830351532032 : UInt64)), .second] [(.double (FP.i2d ((p1 <<< ((12 : Int32) &&& 31)) >>> ((12 : Int32) &&& 31))))]))
      refine own_go (fun _ k => XS.dload X0.here hx rfl (hb hby at_90) rfl k) ?_
      show own_Go p e below s _ _ _ (T.setTop (mkF m 92 #[iv p1, iv p2, iv p3, iv (p3 &&& (3 : Int32)), .val (.double (4467570830351532032 : UInt64)), .second, .unset, .unset, .unset, .unset, .unset, iv ((p1 <<< ((12 : Int32) &&& 31)) >>> ((12 : Int32) &&& 31)), iv ((p2 <<< ((12 : Int32) &&& 31)) >>> ((12 : Int32) &&& 31)), .val (.double (4467570830351532032 : UInt64)), .second] [(.double (4467570830351532032 : UInt64)), (.double (FP.i2d ((p1 <<< ((12 : Int32) &&& 31)) >>> ((12 : Int32) &&& 31))))]))
      refine own_go (fun _ k => XS.daddS X0.here hx rfl (hb hby at_92) rfl (own_nn64 (own_nna (own_finI _) own_fin1)) rfl k) ?_
      show own_Go p e below s _ _ _ (T.setTop (mkF m 93 #[iv p1, iv p2, iv p3, iv (p3 &&& (3 : Int32)), .val (.double (4467570830351532032 : UInt64)), .second, .unset, .unset, .unset, .unset, .unset, iv ((p1 <<< ((12 : Int32) &&& 31)) >>> ((12 : Int32) &&& 31)), iv ((p2 <<< ((12 : Int32) &&& 31)) >>> ((12 : Int32) &&& 31)), .val (.double (4467570830351532032 : UInt64)), .second] [(.double (FP.dadd (FP.i2d ((p1 <<< ((12 : Int32) &&& 31)) >>> ((12 : Int32) &&& 31))) (4467570830351532032 : UInt64)))]))
      refine own_go (fun _ k => XS.dstore X0.here hx rfl (hb hby at_93) rfl (l' := #[iv p1, iv p2, iv p3, iv (p3 &&& (3 : Int32)), .val (.double (4467570830351532032 : UInt64)), .second, .val (.double (FP.dadd (FP.i2d ((p1 <<< ((12 : Int32) &&& 31)) >>> ((12 : Int32) &&& 31))) (4467570830351532032 : UInt64))), .second, .unset, .unset, .unset, iv ((p1 <<< ((12 : Int32) &&& 31)) >>> ((12 : Int32) &&& 31)), iv ((p2 <<< ((12 : Int32) &&& 31)) >>> ((12 : Int32) &&& 31)), .val (.double (4467570830351532032 : UInt64)), .second]) rfl k) ?_
      show own_Go p e below s _ _ _ (T.setTop (mkF m 95 #[iv p1, iv p2, iv p3, iv (p3 &&& (3 : Int32)), .val (.double (4467570830351532032 : UInt64)), .second, .val (.double (FP.dadd (FP.i2d ((p1 <<< ((12 : Int32) &&& 31)) >>> ((12 : Int32) &&& 31))) (4467570830351532032 : UInt64))), .second, .unset, .unset, .unset, iv ((p1 <<< ((12 : Int32) &&& 31)) >>> ((12 : Int32) &&& 31)), iv ((p2 <<< ((12 : Int32) &&& 31)) >>> ((12 : Int32) &&& 31)), .val (.double (4467570830351532032 : UInt64)), .second] []))
      refine own_go (fun _ k => XS.iload X0.here hx rfl (hb hby at_95) rfl k) ?_
      show own_Go p e below s _ _ _ (T.setTop (mkF m 97 #[iv p1, iv p2, iv p3, iv (p3 &&& (3 : Int32)), .val (.double (4467570830351532032 : UInt64)), .second, .val (.double (FP.dadd (FP.i2d ((p1 <<< ((12 : Int32) &&& 31)) >>> ((12 : Int32) &&& 31))) (4467570830351532032 : UInt64))), .second, .unset, .unset, .unset, iv ((p1 <<< ((12 : Int32) &&& 31)) >>> ((12 : Int32) &&& 31)), iv ((p2 <<< ((12 : Int32) &&& 31)) >>> ((12 : Int32) &&& 31)), .val (.double (4467570830351532032 : UInt64)), .second] [(.int ((p2 <<< ((12 : Int32) &&& 31)) >>> ((12 : Int32) &&& 31)))]))
      refine own_go (fun _ k => XS.i2dS X0.here hx rfl (hb hby at_97) rfl rfl k) ?_
      show own_Go p e below s _ _ _ (T.setTop (mkF m 98 #[iv p1, iv p2, iv p3, iv (p3 &&& (3 : Int32)), .val (.double (4467570830351532032 : UInt64)), .second, .val (.double (FP.dadd (FP.i2d ((p1 <<< ((12 : Int32) &&& 31)) >>> ((12 : Int32) &&& 31))) (4467570830351532032 : UInt64))), .second, .unset, .unset, .unset, iv ((p1 <<< ((12 : Int32) &&& 31)) >>> ((12 : Int32) &&& 31)), iv ((p2 <<< ((12 : Int32) &&& 31)) >>> ((12 : Int32) &&& 31)), .val (.double (4467570830351532032 : UInt64)), .second] [(.double (FP.i2d ((p2 <<< ((12 : Int32) &&& 31)) >>> ((12 : Int32) &&& 31))))]))
      refine own_go (fun _ k => XS.dstore X0.here hx rfl (hb hby at_98) rfl (l' := #[iv p1, iv p2, iv p3, iv (p3 &&& (3 : Int32)), .val (.double (4467570830351532032 : UInt64)), .second, .val (.double (FP.dadd (FP.i2d ((p1 <<< ((12 : Int32) &&& 31)) >>> ((12 : Int32) &&& 31))) (4467570830351532032 : UInt64))), .second, .val (.double (FP.i2d ((p2 <<< ((12 : Int32) &&& 31)) >>> ((12 : Int32) &&& 31)))), .second, .unset, iv ((p1 <<< ((12 : Int32) &&& 31)) >>> ((12 : Int32) &&& 31)), iv ((p2 <<< ((12 : Int32) &&& 31)) >>> ((12 : Int32) &&& 31)), .val (.double (4467570830351532032 : UInt64)), .second]) rfl k) ?_
      show own_Go p e below s _ _ _ (T.setTop (mkF m 100 #[iv p1, iv p2, iv p3, iv (p3 &&& (3 : Int32)), .val (.double (4467570830351532032 : UInt64)), .second, .val (.double (FP.dadd (FP.i2d ((p1 <<< ((12 : Int32) &&& 31)) >>> ((12 : Int32) &&& 31))) (4467570830351532032 : UInt64))), .second, .val (.double (FP.i2d ((p2 <<< ((12 : Int32) &&& 31)) >>> ((12 : Int32) &&& 31)))), .second, .unset, iv ((p1 <<< ((12 : Int32) &&& 31)) >>> ((12 : Int32) &&& 31)), iv ((p2 <<< ((12 : Int32) &&& 31)) >>> ((12 : Int32) &&& 31)), .val (.double (4467570830351532032 : UInt64)), .second] []))
      refine own_go (fun _ k => XS.iload X0.here hx rfl (hb hby at_100) rfl k) ?_
      show own_Go p e below s _ _ _ (T.setTop (mkF m 102 #[iv p1, iv p2, iv p3, iv (p3 &&& (3 : Int32)), .val (.double (4467570830351532032 : UInt64)), .second, .val (.double (FP.dadd (FP.i2d ((p1 <<< ((12 : Int32) &&& 31)) >>> ((12 : Int32) &&& 31))) (4467570830351532032 : UInt64))), .second, .val (.double (FP.i2d ((p2 <<< ((12 : Int32) &&& 31)) >>> ((12 : Int32) &&& 31)))), .second, .unset, iv ((p1 <<< ((12 : Int32) &&& 31)) >>> ((12 : Int32) &&& 31)), iv ((p2 <<< ((12 : Int32) &&& 31)) >>> ((12 : Int32) &&& 31)), .val (.double (4467570830351532032 : UInt64)), .second] [(.int ((p1 <<< ((12 : Int32) &&& 31)) >>> ((12 : Int32) &&& 31)))]))
      refine own_go (fun _ k => XS.iload X0.here hx rfl (hb hby at_102) rfl k) ?_
      show own_Go p e below s _ _ _ (T.setTop (mkF m 104 #[iv p1, iv p2, iv p3, iv (p3 &&& (3 : Int32)), .val (.double (4467570830351532032 : UInt64)), .second, .val (.double (FP.dadd (FP.i2d ((p1 <<< ((12 : Int32) &&& 31)) >>> ((12 : Int32) &&& 31))) (4467570830351532032 : UInt64))), .second, .val (.double (FP.i2d ((p2 <<< ((12 : Int32) &&& 31)) >>> ((12 : Int32) &&& 31)))), .second, .unset, iv ((p1 <<< ((12 : Int32) &&& 31)) >>> ((12 : Int32) &&& 31)), iv ((p2 <<< ((12 : Int32) &&& 31)) >>> ((12 : Int32) &&& 31)), .val (.double (4467570830351532032 : UInt64)), .second] [(.int ((p2 <<< ((12 : Int32) &&& 31)) >>> ((12 : Int32) &&& 31))), (.int ((p1 <<< ((12 : Int32) &&& 31)) >>> ((12 : Int32) &&& 31)))]))
      by_cases hc18 : ((p1 <<< ((12 : Int32) &&& 31)) >>> ((12 : Int32) &&& 31)) < ((p2 <<< ((12 : Int32) &&& 31)) >>> ((12 : Int32) &&& 31))
      · refine own_go (fun _ k => XS.icmpYes X0.here hx rfl (pc0 := 104) (pc' := 119) rfl (hb hby at_104) rfl (tlt hc18).1 (by decide) (by decide) k) ?_
        show own_Go p e below s _ _ _ (T.setTop (mkF m 119 #[iv p1, iv p2, iv p3, iv (p3 &&& (3 : Int32)), .val (.double (4467570830351532032 : UInt64)), .second, .val (.double (FP.dadd (FP.i2d ((p1 <<< ((12 : Int32) &&& 31)) >>> ((12 : Int32) &&& 31))) (4467570830351532032 : UInt64))), .second, .val (.double (FP.i2d ((p2 <<< ((12 : Int32) &&& 31)) >>> ((12 : Int32) &&& 31)))), .second, .unset, iv ((p1 <<< ((12 : Int32) &&& 31)) >>> ((12 : Int32) &&& 31)), iv ((p2 <<< ((12 : Int32) &&& 31)) >>> ((12 : Int32) &&& 31)), .val (.double (4467570830351532032 : UInt64)), .second] []))
        refine own_go (fun _ k => XS.iconst X0.here hx rfl (hb hby at_119) k) ?_
        show own_Go p e below s _ _ _ (T.setTop (mkF m 120 #[iv p1, iv p2, iv p3, iv (p3 &&& (3 : Int32)), .val (.double (4467570830351532032 : UInt64)), .second, .val (.double (FP.dadd (FP.i2d ((p1 <<< ((12 : Int32) &&& 31)) >>> ((12 : Int32) &&& 31))) (4467570830351532032 : UInt64))), .second, .val (.double (FP.i2d ((p2 <<< ((12 : Int32) &&& 31)) >>> ((12 : Int32) &&& 31)))), .second, .unset, iv ((p1 <<< ((12 : Int32) &&& 31)) >>> ((12 : Int32) &&& 31)), iv ((p2 <<< ((12 : Int32) &&& 31)) >>> ((12 : Int32) &&& 31)), .val (.double (4467570830351532032 : UInt64)), .second] [(.int (1 : Int32))]))
        refine own_go (fun _ k => XS.goto X0.here hx rfl (pc0 := 120) (pc' := 124) rfl (hb hby at_120) (by decide) (by decide) k) ?_
        show own_Go p e below s _ _ _ (T.setTop (mkF m 124 #[iv p1, iv p2, iv p3, iv (p3 &&& (3 : Int32)), .val (.double (4467570830351532032 : UInt64)), .second, .val (.double (FP.dadd (FP.i2d ((p1 <<< ((12 : Int32) &&& 31)) >>> ((12 : Int32) &&& 31))) (4467570830351532032 : UInt64))), .second, .val (.double (FP.i2d ((p2 <<< ((12 : Int32) &&& 31)) >>> ((12 : Int32) &&& 31)))), .second, .unset, iv ((p1 <<< ((12 : Int32) &&& 31)) >>> ((12 : Int32) &&& 31)), iv ((p2 <<< ((12 : Int32) &&& 31)) >>> ((12 : Int32) &&& 31)), .val (.double (4467570830351532032 : UInt64)), .second] [(.int (1 : Int32))]))
        refine own_go (fun _ k => XS.istore X0.here hx rfl (hb hby at_124) rfl (l' := #[iv p1, iv p2, iv p3, iv (p3 &&& (3 : Int32)), .val (.double (4467570830351532032 : UInt64)), .second, .val (.double (FP.dadd (FP.i2d ((p1 <<< ((12 : Int32) &&& 31)) >>> ((12 : Int32) &&& 31))) (4467570830351532032 : UInt64))), .second, .val (.double (FP.i2d ((p2 <<< ((12 : Int32) &&& 31)) >>> ((12 : Int32) &&& 31)))), .second, iv (1 : Int32), iv ((p1 <<< ((12 : Int32) &&& 31)) >>> ((12 : Int32) &&& 31)), iv ((p2 <<< ((12 : Int32) &&& 31)) >>> ((12 : Int32) &&& 31)), .val (.double (4467570830351532032 : UInt64)), .second]) rfl k) ?_
        show own_Go p e below s _ _ _ (T.setTop (mkF m 126 #[iv p1, iv p2, iv p3, iv (p3 &&& (3 : Int32)), .val (.double (4467570830351532032 : UInt64)), .second, .val (.double (FP.dadd (FP.i2d ((p1 <<< ((12 : Int32) &&& 31)) >>> ((12 : Int32) &&& 31))) (4467570830351532032 : UInt64))), .second, .val (.double (FP.i2d ((p2 <<< ((12 : Int32) &&& 31)) >>> ((12 : Int32) &&& 31)))), .second, iv (1 : Int32), iv ((p1 <<< ((12 : Int32) &&& 31)) >>> ((12 : Int32) &&& 31)), iv ((p2 <<< ((12 : Int32) &&& 31)) >>> ((12 : Int32) &&& 31)), .val (.double (4467570830351532032 : UInt64)), .second] []))
        refine own_go (fun _ k => XS.dload X0.here hx rfl (hb hby at_126) rfl k) ?_
        show own_Go p e below s _ _ _ (T.setTop (mkF m 128 #[iv p1, iv p2, iv p3, iv (p3 &&& (3 : Int32)), .val (.double (4467570830351532032 : UInt64)), .second, .val (.double (FP.dadd (FP.i2d ((p1 <<< ((12 : Int32) &&& 31)) >>> ((12 : Int32) &&& 31))) (4467570830351532032 : UInt64))), .second, .val (.double (FP.i2d ((p2 <<< ((12 : Int32) &&& 31)) >>> ((12 : Int32) &&& 31)))), .second, iv (1 : Int32), iv ((p1 <<< ((12 : Int32) &&& 31)) >>> ((12 : Int32) &&& 31)), iv ((p2 <<< ((12 : Int32) &&& 31)) >>> ((12 : Int32) &&& 31)), .val (.double (4467570830351532032 : UInt64)), .second] [(.double (FP.dadd (FP.i2d ((p1 <<< ((12 : Int32) &&& 31)) >>> ((12 : Int32) &&& 31))) (4467570830351532032 : UInt64)))]))
        refine own_go (fun _ k => XS.dload X0.here hx rfl (hb hby at_128) rfl k) ?_
        show own_Go p e below s _ _ _ (T.setTop (mkF m 130 #[iv p1, iv p2, iv p3, iv (p3 &&& (3 : Int32)), .val (.double (4467570830351532032 : UInt64)), .second, .val (.double (FP.dadd (FP.i2d ((p1 <<< ((12 : Int32) &&& 31)) >>> ((12 : Int32) &&& 31))) (4467570830351532032 : UInt64))), .second, .val (.double (FP.i2d ((p2 <<< ((12 : Int32) &&& 31)) >>> ((12 : Int32) &&& 31)))), .second, iv (1 : Int32), iv ((p1 <<< ((12 : Int32) &&& 31)) >>> ((12 : Int32) &&& 31)), iv ((p2 <<< ((12 : Int32) &&& 31)) >>> ((12 : Int32) &&& 31)), .val (.double (4467570830351532032 : UInt64)), .second] [(.double (FP.i2d ((p2 <<< ((12 : Int32) &&& 31)) >>> ((12 : Int32) &&& 31)))), (.double (FP.dadd (FP.i2d ((p1 <<< ((12 : Int32) &&& 31)) >>> ((12 : Int32) &&& 31))) (4467570830351532032 : UInt64)))]))
        obtain ⟨v19, T19, L19, X19, hQ19, st19⟩ := own_callS (y := (⟨"com/example/nudo/nudo/ConflictRegions", "fits", "(DD)Z"⟩ : MethodName)) X0 hx hZ hown (ow2 hw) (ow3 hw) (ow4 hw) (ow5 hw) (rm_fits l Z a0 hw [] (FP.dadd (FP.i2d ((p1 <<< ((12 : Int32) &&& 31)) >>> ((12 : Int32) &&& 31))) (4467570830351532032 : UInt64)) (FP.i2d ((p2 <<< ((12 : Int32) &&& 31)) >>> ((12 : Int32) &&& 31))) h0 O0 (own_finI _)) 0 0 0 (by show _ ≤ 0; omega) (by show _ ≤ 0; omega) e0 (g := (mkF m 130 #[iv p1, iv p2, iv p3, iv (p3 &&& (3 : Int32)), .val (.double (4467570830351532032 : UInt64)), .second, .val (.double (FP.dadd (FP.i2d ((p1 <<< ((12 : Int32) &&& 31)) >>> ((12 : Int32) &&& 31))) (4467570830351532032 : UInt64))), .second, .val (.double (FP.i2d ((p2 <<< ((12 : Int32) &&& 31)) >>> ((12 : Int32) &&& 31)))), .second, iv (1 : Int32), iv ((p1 <<< ((12 : Int32) &&& 31)) >>> ((12 : Int32) &&& 31)), iv ((p2 <<< ((12 : Int32) &&& 31)) >>> ((12 : Int32) &&& 31)), .val (.double (4467570830351532032 : UInt64)), .second] [(.double (FP.i2d ((p2 <<< ((12 : Int32) &&& 31)) >>> ((12 : Int32) &&& 31)))), (.double (FP.dadd (FP.i2d ((p1 <<< ((12 : Int32) &&& 31)) >>> ((12 : Int32) &&& 31))) (4467570830351532032 : UInt64)))])) rfl (by rw [hml]; rfl) [(.double (FP.dadd (FP.i2d ((p1 <<< ((12 : Int32) &&& 31)) >>> ((12 : Int32) &&& 31))) (4467570830351532032 : UInt64))), (.double (FP.i2d ((p2 <<< ((12 : Int32) &&& 31)) >>> ((12 : Int32) &&& 31))))] [] (lenOf own_pd_0 rfl) rfl rfl (hb hby at_130)
        rcases hQ19 with hQ19 | hQ19
        · obtain ⟨rfl, Nc22, hp20, Kc21⟩ := hQ19
          refine own_go st19 ?_
          clear st19 X0 e0
          replace N0 := Fr.app N0 Nc22
          clear Nc22
          show own_Go p e below s _ _ _ (T19.setTop (mkF m 133 #[iv p1, iv p2, iv p3, iv (p3 &&& (3 : Int32)), .val (.double (4467570830351532032 : UInt64)), .second, .val (.double (FP.dadd (FP.i2d ((p1 <<< ((12 : Int32) &&& 31)) >>> ((12 : Int32) &&& 31))) (4467570830351532032 : UInt64))), .second, .val (.double (FP.i2d ((p2 <<< ((12 : Int32) &&& 31)) >>> ((12 : Int32) &&& 31)))), .second, iv (1 : Int32), iv ((p1 <<< ((12 : Int32) &&& 31)) >>> ((12 : Int32) &&& 31)), iv ((p2 <<< ((12 : Int32) &&& 31)) >>> ((12 : Int32) &&& 31)), .val (.double (4467570830351532032 : UInt64)), .second] [(.int (0 : Int32))]))
          refine own_go (fun _ k => XS.iload X19.here hx rfl (hb hby at_133) rfl k) ?_
          show own_Go p e below s _ _ _ (T19.setTop (mkF m 135 #[iv p1, iv p2, iv p3, iv (p3 &&& (3 : Int32)), .val (.double (4467570830351532032 : UInt64)), .second, .val (.double (FP.dadd (FP.i2d ((p1 <<< ((12 : Int32) &&& 31)) >>> ((12 : Int32) &&& 31))) (4467570830351532032 : UInt64))), .second, .val (.double (FP.i2d ((p2 <<< ((12 : Int32) &&& 31)) >>> ((12 : Int32) &&& 31)))), .second, iv (1 : Int32), iv ((p1 <<< ((12 : Int32) &&& 31)) >>> ((12 : Int32) &&& 31)), iv ((p2 <<< ((12 : Int32) &&& 31)) >>> ((12 : Int32) &&& 31)), .val (.double (4467570830351532032 : UInt64)), .second] [(.int (1 : Int32)), (.int (0 : Int32))]))
          refine own_go (fun _ k => XS.icmpYes X19.here hx rfl (pc0 := 135) (pc' := 142) rfl (hb hby at_135) rfl (feq (by decide : ¬ ((0 : Int32) = (1 : Int32)))).2 (by decide) (by decide) k) ?_
          show own_Go p e below s _ _ _ (T19.setTop (mkF m 142 #[iv p1, iv p2, iv p3, iv (p3 &&& (3 : Int32)), .val (.double (4467570830351532032 : UInt64)), .second, .val (.double (FP.dadd (FP.i2d ((p1 <<< ((12 : Int32) &&& 31)) >>> ((12 : Int32) &&& 31))) (4467570830351532032 : UInt64))), .second, .val (.double (FP.i2d ((p2 <<< ((12 : Int32) &&& 31)) >>> ((12 : Int32) &&& 31)))), .second, iv (1 : Int32), iv ((p1 <<< ((12 : Int32) &&& 31)) >>> ((12 : Int32) &&& 31)), iv ((p2 <<< ((12 : Int32) &&& 31)) >>> ((12 : Int32) &&& 31)), .val (.double (4467570830351532032 : UInt64)), .second] []))
          refine own_go (fun _ k => XS.iconst X19.here hx rfl (hb hby at_142) k) ?_
          show own_Go p e below s _ _ _ (T19.setTop (mkF m 143 #[iv p1, iv p2, iv p3, iv (p3 &&& (3 : Int32)), .val (.double (4467570830351532032 : UInt64)), .second, .val (.double (FP.dadd (FP.i2d ((p1 <<< ((12 : Int32) &&& 31)) >>> ((12 : Int32) &&& 31))) (4467570830351532032 : UInt64))), .second, .val (.double (FP.i2d ((p2 <<< ((12 : Int32) &&& 31)) >>> ((12 : Int32) &&& 31)))), .second, iv (1 : Int32), iv ((p1 <<< ((12 : Int32) &&& 31)) >>> ((12 : Int32) &&& 31)), iv ((p2 <<< ((12 : Int32) &&& 31)) >>> ((12 : Int32) &&& 31)), .val (.double (4467570830351532032 : UInt64)), .second] [(.int (0 : Int32))]))
          refine own_retN X19 hx hlk Kc21 (t := .boolean) hret (by simp) (hb hby at_143) (by show _ ≤ 0; omega) (by show _ ≤ 0; omega) ?_
          exfalso
          have hz := (own_law1 (own_Ssh p1) (own_Ssh p2)).mp hp20
          have ar0 := rng32 p3
          have ar1 := c_mask p3 (3 : Int32) 2 (by decide) (by decide)
          have ar2 : (0 : Int32).toInt = 0 := by decide
          have ar3 := mt Int32.toInt_inj.mp hc1
          have ar4 : (1 : Int32).toInt = 1 := by decide
          have ar5 := congrArg Int32.toInt hc17
          have ar6 := rng32 p1
          have ar7 := c_ishl p1 (12 : Int32) 12 (by decide)
          have ar8 := rng32 (p1 <<< ((12 : Int32) &&& 31))
          have ar9 := c_ishr (p1 <<< ((12 : Int32) &&& 31)) (12 : Int32) 12 (by decide)
          have ar10 := rng32 p2
          have ar11 := c_ishl p2 (12 : Int32) 12 (by decide)
          have ar12 := rng32 (p2 <<< ((12 : Int32) &&& 31))
          have ar13 := c_ishr (p2 <<< ((12 : Int32) &&& 31)) (12 : Int32) 12 (by decide)
          have ar14 := Int32.lt_iff_toInt_lt.mp hc18
          omega
        · obtain ⟨rfl, Nc25, hp23, Kc24⟩ := hQ19
          refine own_go st19 ?_
          clear st19 X0 e0
          replace N0 := Fr.app N0 Nc25
          clear Nc25
          show own_Go p e below s _ _ _ (T19.setTop (mkF m 133 #[iv p1, iv p2, iv p3, iv (p3 &&& (3 : Int32)), .val (.double (4467570830351532032 : UInt64)), .second, .val (.double (FP.dadd (FP.i2d ((p1 <<< ((12 : Int32) &&& 31)) >>> ((12 : Int32) &&& 31))) (4467570830351532032 : UInt64))), .second, .val (.double (FP.i2d ((p2 <<< ((12 : Int32) &&& 31)) >>> ((12 : Int32) &&& 31)))), .second, iv (1 : Int32), iv ((p1 <<< ((12 : Int32) &&& 31)) >>> ((12 : Int32) &&& 31)), iv ((p2 <<< ((12 : Int32) &&& 31)) >>> ((12 : Int32) &&& 31)), .val (.double (4467570830351532032 : UInt64)), .second] [(.int (1 : Int32))]))
          refine own_go (fun _ k => XS.iload X19.here hx rfl (hb hby at_133) rfl k) ?_
          show own_Go p e below s _ _ _ (T19.setTop (mkF m 135 #[iv p1, iv p2, iv p3, iv (p3 &&& (3 : Int32)), .val (.double (4467570830351532032 : UInt64)), .second, .val (.double (FP.dadd (FP.i2d ((p1 <<< ((12 : Int32) &&& 31)) >>> ((12 : Int32) &&& 31))) (4467570830351532032 : UInt64))), .second, .val (.double (FP.i2d ((p2 <<< ((12 : Int32) &&& 31)) >>> ((12 : Int32) &&& 31)))), .second, iv (1 : Int32), iv ((p1 <<< ((12 : Int32) &&& 31)) >>> ((12 : Int32) &&& 31)), iv ((p2 <<< ((12 : Int32) &&& 31)) >>> ((12 : Int32) &&& 31)), .val (.double (4467570830351532032 : UInt64)), .second] [(.int (1 : Int32)), (.int (1 : Int32))]))
          refine own_go (fun _ k => XS.icmpNo X19.here hx rfl (hb hby at_135) rfl (teq (by decide : (1 : Int32) = (1 : Int32))).2 k) ?_
          show own_Go p e below s _ _ _ (T19.setTop (mkF m 138 #[iv p1, iv p2, iv p3, iv (p3 &&& (3 : Int32)), .val (.double (4467570830351532032 : UInt64)), .second, .val (.double (FP.dadd (FP.i2d ((p1 <<< ((12 : Int32) &&& 31)) >>> ((12 : Int32) &&& 31))) (4467570830351532032 : UInt64))), .second, .val (.double (FP.i2d ((p2 <<< ((12 : Int32) &&& 31)) >>> ((12 : Int32) &&& 31)))), .second, iv (1 : Int32), iv ((p1 <<< ((12 : Int32) &&& 31)) >>> ((12 : Int32) &&& 31)), iv ((p2 <<< ((12 : Int32) &&& 31)) >>> ((12 : Int32) &&& 31)), .val (.double (4467570830351532032 : UInt64)), .second] []))
          refine own_go (fun _ k => XS.iconst X19.here hx rfl (hb hby at_138) k) ?_
          show own_Go p e below s _ _ _ (T19.setTop (mkF m 139 #[iv p1, iv p2, iv p3, iv (p3 &&& (3 : Int32)), .val (.double (4467570830351532032 : UInt64)), .second, .val (.double (FP.dadd (FP.i2d ((p1 <<< ((12 : Int32) &&& 31)) >>> ((12 : Int32) &&& 31))) (4467570830351532032 : UInt64))), .second, .val (.double (FP.i2d ((p2 <<< ((12 : Int32) &&& 31)) >>> ((12 : Int32) &&& 31)))), .second, iv (1 : Int32), iv ((p1 <<< ((12 : Int32) &&& 31)) >>> ((12 : Int32) &&& 31)), iv ((p2 <<< ((12 : Int32) &&& 31)) >>> ((12 : Int32) &&& 31)), .val (.double (4467570830351532032 : UInt64)), .second] [(.int (1 : Int32))]))
          refine own_go (fun _ k => XS.goto X19.here hx rfl (pc0 := 139) (pc' := 143) rfl (hb hby at_139) (by decide) (by decide) k) ?_
          show own_Go p e below s _ _ _ (T19.setTop (mkF m 143 #[iv p1, iv p2, iv p3, iv (p3 &&& (3 : Int32)), .val (.double (4467570830351532032 : UInt64)), .second, .val (.double (FP.dadd (FP.i2d ((p1 <<< ((12 : Int32) &&& 31)) >>> ((12 : Int32) &&& 31))) (4467570830351532032 : UInt64))), .second, .val (.double (FP.i2d ((p2 <<< ((12 : Int32) &&& 31)) >>> ((12 : Int32) &&& 31)))), .second, iv (1 : Int32), iv ((p1 <<< ((12 : Int32) &&& 31)) >>> ((12 : Int32) &&& 31)), iv ((p2 <<< ((12 : Int32) &&& 31)) >>> ((12 : Int32) &&& 31)), .val (.double (4467570830351532032 : UInt64)), .second] [(.int (1 : Int32))]))
          refine own_retN X19 hx hlk Kc24 (t := .boolean) hret (by simp) (hb hby at_143) (by show _ ≤ 0; omega) (by show _ ≤ 0; omega) ?_
          exact ⟨rfl, N0, K0⟩
      · refine own_go (fun _ k => XS.icmpNo X0.here hx rfl (hb hby at_104) rfl (flt hc18).1 k) ?_
        show own_Go p e below s _ _ _ (T.setTop (mkF m 107 #[iv p1, iv p2, iv p3, iv (p3 &&& (3 : Int32)), .val (.double (4467570830351532032 : UInt64)), .second, .val (.double (FP.dadd (FP.i2d ((p1 <<< ((12 : Int32) &&& 31)) >>> ((12 : Int32) &&& 31))) (4467570830351532032 : UInt64))), .second, .val (.double (FP.i2d ((p2 <<< ((12 : Int32) &&& 31)) >>> ((12 : Int32) &&& 31)))), .second, .unset, iv ((p1 <<< ((12 : Int32) &&& 31)) >>> ((12 : Int32) &&& 31)), iv ((p2 <<< ((12 : Int32) &&& 31)) >>> ((12 : Int32) &&& 31)), .val (.double (4467570830351532032 : UInt64)), .second] []))
        refine own_go (fun _ k => XS.iload X0.here hx rfl (hb hby at_107) rfl k) ?_
        show own_Go p e below s _ _ _ (T.setTop (mkF m 109 #[iv p1, iv p2, iv p3, iv (p3 &&& (3 : Int32)), .val (.double (4467570830351532032 : UInt64)), .second, .val (.double (FP.dadd (FP.i2d ((p1 <<< ((12 : Int32) &&& 31)) >>> ((12 : Int32) &&& 31))) (4467570830351532032 : UInt64))), .second, .val (.double (FP.i2d ((p2 <<< ((12 : Int32) &&& 31)) >>> ((12 : Int32) &&& 31)))), .second, .unset, iv ((p1 <<< ((12 : Int32) &&& 31)) >>> ((12 : Int32) &&& 31)), iv ((p2 <<< ((12 : Int32) &&& 31)) >>> ((12 : Int32) &&& 31)), .val (.double (4467570830351532032 : UInt64)), .second] [(.int ((p1 <<< ((12 : Int32) &&& 31)) >>> ((12 : Int32) &&& 31)))]))
        refine own_go (fun _ k => XS.iload X0.here hx rfl (hb hby at_109) rfl k) ?_
        show own_Go p e below s _ _ _ (T.setTop (mkF m 111 #[iv p1, iv p2, iv p3, iv (p3 &&& (3 : Int32)), .val (.double (4467570830351532032 : UInt64)), .second, .val (.double (FP.dadd (FP.i2d ((p1 <<< ((12 : Int32) &&& 31)) >>> ((12 : Int32) &&& 31))) (4467570830351532032 : UInt64))), .second, .val (.double (FP.i2d ((p2 <<< ((12 : Int32) &&& 31)) >>> ((12 : Int32) &&& 31)))), .second, .unset, iv ((p1 <<< ((12 : Int32) &&& 31)) >>> ((12 : Int32) &&& 31)), iv ((p2 <<< ((12 : Int32) &&& 31)) >>> ((12 : Int32) &&& 31)), .val (.double (4467570830351532032 : UInt64)), .second] [(.int ((p2 <<< ((12 : Int32) &&& 31)) >>> ((12 : Int32) &&& 31))), (.int ((p1 <<< ((12 : Int32) &&& 31)) >>> ((12 : Int32) &&& 31)))]))
        by_cases hc26 : ((p1 <<< ((12 : Int32) &&& 31)) >>> ((12 : Int32) &&& 31)) = ((p2 <<< ((12 : Int32) &&& 31)) >>> ((12 : Int32) &&& 31))
        · refine own_go (fun _ k => XS.icmpNo X0.here hx rfl (hb hby at_111) rfl (teq hc26).2 k) ?_
          show own_Go p e below s _ _ _ (T.setTop (mkF m 114 #[iv p1, iv p2, iv p3, iv (p3 &&& (3 : Int32)), .val (.double (4467570830351532032 : UInt64)), .second, .val (.double (FP.dadd (FP.i2d ((p1 <<< ((12 : Int32) &&& 31)) >>> ((12 : Int32) &&& 31))) (4467570830351532032 : UInt64))), .second, .val (.double (FP.i2d ((p2 <<< ((12 : Int32) &&& 31)) >>> ((12 : Int32) &&& 31)))), .second, .unset, iv ((p1 <<< ((12 : Int32) &&& 31)) >>> ((12 : Int32) &&& 31)), iv ((p2 <<< ((12 : Int32) &&& 31)) >>> ((12 : Int32) &&& 31)), .val (.double (4467570830351532032 : UInt64)), .second] []))
          refine own_go (fun _ k => XS.iloadN X0.here hx rfl (hb hby at_114) rfl k) ?_
          show own_Go p e below s _ _ _ (T.setTop (mkF m 115 #[iv p1, iv p2, iv p3, iv (p3 &&& (3 : Int32)), .val (.double (4467570830351532032 : UInt64)), .second, .val (.double (FP.dadd (FP.i2d ((p1 <<< ((12 : Int32) &&& 31)) >>> ((12 : Int32) &&& 31))) (4467570830351532032 : UInt64))), .second, .val (.double (FP.i2d ((p2 <<< ((12 : Int32) &&& 31)) >>> ((12 : Int32) &&& 31)))), .second, .unset, iv ((p1 <<< ((12 : Int32) &&& 31)) >>> ((12 : Int32) &&& 31)), iv ((p2 <<< ((12 : Int32) &&& 31)) >>> ((12 : Int32) &&& 31)), .val (.double (4467570830351532032 : UInt64)), .second] [(.int (p3 &&& (3 : Int32)))]))
          refine own_go (fun _ k => XS.iconst X0.here hx rfl (hb hby at_115) k) ?_
          show own_Go p e below s _ _ _ (T.setTop (mkF m 116 #[iv p1, iv p2, iv p3, iv (p3 &&& (3 : Int32)), .val (.double (4467570830351532032 : UInt64)), .second, .val (.double (FP.dadd (FP.i2d ((p1 <<< ((12 : Int32) &&& 31)) >>> ((12 : Int32) &&& 31))) (4467570830351532032 : UInt64))), .second, .val (.double (FP.i2d ((p2 <<< ((12 : Int32) &&& 31)) >>> ((12 : Int32) &&& 31)))), .second, .unset, iv ((p1 <<< ((12 : Int32) &&& 31)) >>> ((12 : Int32) &&& 31)), iv ((p2 <<< ((12 : Int32) &&& 31)) >>> ((12 : Int32) &&& 31)), .val (.double (4467570830351532032 : UInt64)), .second] [(.int (2 : Int32)), (.int (p3 &&& (3 : Int32)))]))
          by_cases hc27 : (p3 &&& (3 : Int32)) = (2 : Int32)
          · refine own_go (fun _ k => XS.icmpYes X0.here hx rfl (pc0 := 116) (pc' := 123) rfl (hb hby at_116) rfl (teq hc27).1 (by decide) (by decide) k) ?_
            show own_Go p e below s _ _ _ (T.setTop (mkF m 123 #[iv p1, iv p2, iv p3, iv (p3 &&& (3 : Int32)), .val (.double (4467570830351532032 : UInt64)), .second, .val (.double (FP.dadd (FP.i2d ((p1 <<< ((12 : Int32) &&& 31)) >>> ((12 : Int32) &&& 31))) (4467570830351532032 : UInt64))), .second, .val (.double (FP.i2d ((p2 <<< ((12 : Int32) &&& 31)) >>> ((12 : Int32) &&& 31)))), .second, .unset, iv ((p1 <<< ((12 : Int32) &&& 31)) >>> ((12 : Int32) &&& 31)), iv ((p2 <<< ((12 : Int32) &&& 31)) >>> ((12 : Int32) &&& 31)), .val (.double (4467570830351532032 : UInt64)), .second] []))
            refine own_go (fun _ k => XS.iconst X0.here hx rfl (hb hby at_123) k) ?_
            show own_Go p e below s _ _ _ (T.setTop (mkF m 124 #[iv p1, iv p2, iv p3, iv (p3 &&& (3 : Int32)), .val (.double (4467570830351532032 : UInt64)), .second, .val (.double (FP.dadd (FP.i2d ((p1 <<< ((12 : Int32) &&& 31)) >>> ((12 : Int32) &&& 31))) (4467570830351532032 : UInt64))), .second, .val (.double (FP.i2d ((p2 <<< ((12 : Int32) &&& 31)) >>> ((12 : Int32) &&& 31)))), .second, .unset, iv ((p1 <<< ((12 : Int32) &&& 31)) >>> ((12 : Int32) &&& 31)), iv ((p2 <<< ((12 : Int32) &&& 31)) >>> ((12 : Int32) &&& 31)), .val (.double (4467570830351532032 : UInt64)), .second] [(.int (0 : Int32))]))
            refine own_go (fun _ k => XS.istore X0.here hx rfl (hb hby at_124) rfl (l' := #[iv p1, iv p2, iv p3, iv (p3 &&& (3 : Int32)), .val (.double (4467570830351532032 : UInt64)), .second, .val (.double (FP.dadd (FP.i2d ((p1 <<< ((12 : Int32) &&& 31)) >>> ((12 : Int32) &&& 31))) (4467570830351532032 : UInt64))), .second, .val (.double (FP.i2d ((p2 <<< ((12 : Int32) &&& 31)) >>> ((12 : Int32) &&& 31)))), .second, iv (0 : Int32), iv ((p1 <<< ((12 : Int32) &&& 31)) >>> ((12 : Int32) &&& 31)), iv ((p2 <<< ((12 : Int32) &&& 31)) >>> ((12 : Int32) &&& 31)), .val (.double (4467570830351532032 : UInt64)), .second]) rfl k) ?_
            show own_Go p e below s _ _ _ (T.setTop (mkF m 126 #[iv p1, iv p2, iv p3, iv (p3 &&& (3 : Int32)), .val (.double (4467570830351532032 : UInt64)), .second, .val (.double (FP.dadd (FP.i2d ((p1 <<< ((12 : Int32) &&& 31)) >>> ((12 : Int32) &&& 31))) (4467570830351532032 : UInt64))), .second, .val (.double (FP.i2d ((p2 <<< ((12 : Int32) &&& 31)) >>> ((12 : Int32) &&& 31)))), .second, iv (0 : Int32), iv ((p1 <<< ((12 : Int32) &&& 31)) >>> ((12 : Int32) &&& 31)), iv ((p2 <<< ((12 : Int32) &&& 31)) >>> ((12 : Int32) &&& 31)), .val (.double (4467570830351532032 : UInt64)), .second] []))
            refine own_go (fun _ k => XS.dload X0.here hx rfl (hb hby at_126) rfl k) ?_
            show own_Go p e below s _ _ _ (T.setTop (mkF m 128 #[iv p1, iv p2, iv p3, iv (p3 &&& (3 : Int32)), .val (.double (4467570830351532032 : UInt64)), .second, .val (.double (FP.dadd (FP.i2d ((p1 <<< ((12 : Int32) &&& 31)) >>> ((12 : Int32) &&& 31))) (4467570830351532032 : UInt64))), .second, .val (.double (FP.i2d ((p2 <<< ((12 : Int32) &&& 31)) >>> ((12 : Int32) &&& 31)))), .second, iv (0 : Int32), iv ((p1 <<< ((12 : Int32) &&& 31)) >>> ((12 : Int32) &&& 31)), iv ((p2 <<< ((12 : Int32) &&& 31)) >>> ((12 : Int32) &&& 31)), .val (.double (4467570830351532032 : UInt64)), .second] [(.double (FP.dadd (FP.i2d ((p1 <<< ((12 : Int32) &&& 31)) >>> ((12 : Int32) &&& 31))) (4467570830351532032 : UInt64)))]))
            refine own_go (fun _ k => XS.dload X0.here hx rfl (hb hby at_128) rfl k) ?_
            show own_Go p e below s _ _ _ (T.setTop (mkF m 130 #[iv p1, iv p2, iv p3, iv (p3 &&& (3 : Int32)), .val (.double (4467570830351532032 : UInt64)), .second, .val (.double (FP.dadd (FP.i2d ((p1 <<< ((12 : Int32) &&& 31)) >>> ((12 : Int32) &&& 31))) (4467570830351532032 : UInt64))), .second, .val (.double (FP.i2d ((p2 <<< ((12 : Int32) &&& 31)) >>> ((12 : Int32) &&& 31)))), .second, iv (0 : Int32), iv ((p1 <<< ((12 : Int32) &&& 31)) >>> ((12 : Int32) &&& 31)), iv ((p2 <<< ((12 : Int32) &&& 31)) >>> ((12 : Int32) &&& 31)), .val (.double (4467570830351532032 : UInt64)), .second] [(.double (FP.i2d ((p2 <<< ((12 : Int32) &&& 31)) >>> ((12 : Int32) &&& 31)))), (.double (FP.dadd (FP.i2d ((p1 <<< ((12 : Int32) &&& 31)) >>> ((12 : Int32) &&& 31))) (4467570830351532032 : UInt64)))]))
            obtain ⟨v28, T28, L28, X28, hQ28, st28⟩ := own_callS (y := (⟨"com/example/nudo/nudo/ConflictRegions", "fits", "(DD)Z"⟩ : MethodName)) X0 hx hZ hown (ow2 hw) (ow3 hw) (ow4 hw) (ow5 hw) (rm_fits l Z a0 hw [] (FP.dadd (FP.i2d ((p1 <<< ((12 : Int32) &&& 31)) >>> ((12 : Int32) &&& 31))) (4467570830351532032 : UInt64)) (FP.i2d ((p2 <<< ((12 : Int32) &&& 31)) >>> ((12 : Int32) &&& 31))) h0 O0 (own_finI _)) 0 0 0 (by show _ ≤ 0; omega) (by show _ ≤ 0; omega) e0 (g := (mkF m 130 #[iv p1, iv p2, iv p3, iv (p3 &&& (3 : Int32)), .val (.double (4467570830351532032 : UInt64)), .second, .val (.double (FP.dadd (FP.i2d ((p1 <<< ((12 : Int32) &&& 31)) >>> ((12 : Int32) &&& 31))) (4467570830351532032 : UInt64))), .second, .val (.double (FP.i2d ((p2 <<< ((12 : Int32) &&& 31)) >>> ((12 : Int32) &&& 31)))), .second, iv (0 : Int32), iv ((p1 <<< ((12 : Int32) &&& 31)) >>> ((12 : Int32) &&& 31)), iv ((p2 <<< ((12 : Int32) &&& 31)) >>> ((12 : Int32) &&& 31)), .val (.double (4467570830351532032 : UInt64)), .second] [(.double (FP.i2d ((p2 <<< ((12 : Int32) &&& 31)) >>> ((12 : Int32) &&& 31)))), (.double (FP.dadd (FP.i2d ((p1 <<< ((12 : Int32) &&& 31)) >>> ((12 : Int32) &&& 31))) (4467570830351532032 : UInt64)))])) rfl (by rw [hml]; rfl) [(.double (FP.dadd (FP.i2d ((p1 <<< ((12 : Int32) &&& 31)) >>> ((12 : Int32) &&& 31))) (4467570830351532032 : UInt64))), (.double (FP.i2d ((p2 <<< ((12 : Int32) &&& 31)) >>> ((12 : Int32) &&& 31))))] [] (lenOf own_pd_0 rfl) rfl rfl (hb hby at_130)
            rcases hQ28 with hQ28 | hQ28
            · obtain ⟨rfl, Nc31, hp29, Kc30⟩ := hQ28
              refine own_go st28 ?_
              clear st28 X0 e0
              replace N0 := Fr.app N0 Nc31
              clear Nc31
              show own_Go p e below s _ _ _ (T28.setTop (mkF m 133 #[iv p1, iv p2, iv p3, iv (p3 &&& (3 : Int32)), .val (.double (4467570830351532032 : UInt64)), .second, .val (.double (FP.dadd (FP.i2d ((p1 <<< ((12 : Int32) &&& 31)) >>> ((12 : Int32) &&& 31))) (4467570830351532032 : UInt64))), .second, .val (.double (FP.i2d ((p2 <<< ((12 : Int32) &&& 31)) >>> ((12 : Int32) &&& 31)))), .second, iv (0 : Int32), iv ((p1 <<< ((12 : Int32) &&& 31)) >>> ((12 : Int32) &&& 31)), iv ((p2 <<< ((12 : Int32) &&& 31)) >>> ((12 : Int32) &&& 31)), .val (.double (4467570830351532032 : UInt64)), .second] [(.int (0 : Int32))]))
              refine own_go (fun _ k => XS.iload X28.here hx rfl (hb hby at_133) rfl k) ?_
              show own_Go p e below s _ _ _ (T28.setTop (mkF m 135 #[iv p1, iv p2, iv p3, iv (p3 &&& (3 : Int32)), .val (.double (4467570830351532032 : UInt64)), .second, .val (.double (FP.dadd (FP.i2d ((p1 <<< ((12 : Int32) &&& 31)) >>> ((12 : Int32) &&& 31))) (4467570830351532032 : UInt64))), .second, .val (.double (FP.i2d ((p2 <<< ((12 : Int32) &&& 31)) >>> ((12 : Int32) &&& 31)))), .second, iv (0 : Int32), iv ((p1 <<< ((12 : Int32) &&& 31)) >>> ((12 : Int32) &&& 31)), iv ((p2 <<< ((12 : Int32) &&& 31)) >>> ((12 : Int32) &&& 31)), .val (.double (4467570830351532032 : UInt64)), .second] [(.int (0 : Int32)), (.int (0 : Int32))]))
              refine own_go (fun _ k => XS.icmpNo X28.here hx rfl (hb hby at_135) rfl (teq (by decide : (0 : Int32) = (0 : Int32))).2 k) ?_
              show own_Go p e below s _ _ _ (T28.setTop (mkF m 138 #[iv p1, iv p2, iv p3, iv (p3 &&& (3 : Int32)), .val (.double (4467570830351532032 : UInt64)), .second, .val (.double (FP.dadd (FP.i2d ((p1 <<< ((12 : Int32) &&& 31)) >>> ((12 : Int32) &&& 31))) (4467570830351532032 : UInt64))), .second, .val (.double (FP.i2d ((p2 <<< ((12 : Int32) &&& 31)) >>> ((12 : Int32) &&& 31)))), .second, iv (0 : Int32), iv ((p1 <<< ((12 : Int32) &&& 31)) >>> ((12 : Int32) &&& 31)), iv ((p2 <<< ((12 : Int32) &&& 31)) >>> ((12 : Int32) &&& 31)), .val (.double (4467570830351532032 : UInt64)), .second] []))
              refine own_go (fun _ k => XS.iconst X28.here hx rfl (hb hby at_138) k) ?_
              show own_Go p e below s _ _ _ (T28.setTop (mkF m 139 #[iv p1, iv p2, iv p3, iv (p3 &&& (3 : Int32)), .val (.double (4467570830351532032 : UInt64)), .second, .val (.double (FP.dadd (FP.i2d ((p1 <<< ((12 : Int32) &&& 31)) >>> ((12 : Int32) &&& 31))) (4467570830351532032 : UInt64))), .second, .val (.double (FP.i2d ((p2 <<< ((12 : Int32) &&& 31)) >>> ((12 : Int32) &&& 31)))), .second, iv (0 : Int32), iv ((p1 <<< ((12 : Int32) &&& 31)) >>> ((12 : Int32) &&& 31)), iv ((p2 <<< ((12 : Int32) &&& 31)) >>> ((12 : Int32) &&& 31)), .val (.double (4467570830351532032 : UInt64)), .second] [(.int (1 : Int32))]))
              refine own_go (fun _ k => XS.goto X28.here hx rfl (pc0 := 139) (pc' := 143) rfl (hb hby at_139) (by decide) (by decide) k) ?_
              show own_Go p e below s _ _ _ (T28.setTop (mkF m 143 #[iv p1, iv p2, iv p3, iv (p3 &&& (3 : Int32)), .val (.double (4467570830351532032 : UInt64)), .second, .val (.double (FP.dadd (FP.i2d ((p1 <<< ((12 : Int32) &&& 31)) >>> ((12 : Int32) &&& 31))) (4467570830351532032 : UInt64))), .second, .val (.double (FP.i2d ((p2 <<< ((12 : Int32) &&& 31)) >>> ((12 : Int32) &&& 31)))), .second, iv (0 : Int32), iv ((p1 <<< ((12 : Int32) &&& 31)) >>> ((12 : Int32) &&& 31)), iv ((p2 <<< ((12 : Int32) &&& 31)) >>> ((12 : Int32) &&& 31)), .val (.double (4467570830351532032 : UInt64)), .second] [(.int (1 : Int32))]))
              refine own_retN X28 hx hlk Kc30 (t := .boolean) hret (by simp) (hb hby at_143) (by show _ ≤ 0; omega) (by show _ ≤ 0; omega) ?_
              exact ⟨rfl, N0, K0⟩
            · obtain ⟨rfl, Nc34, hp32, Kc33⟩ := hQ28
              refine own_go st28 ?_
              clear st28 X0 e0
              replace N0 := Fr.app N0 Nc34
              clear Nc34
              show own_Go p e below s _ _ _ (T28.setTop (mkF m 133 #[iv p1, iv p2, iv p3, iv (p3 &&& (3 : Int32)), .val (.double (4467570830351532032 : UInt64)), .second, .val (.double (FP.dadd (FP.i2d ((p1 <<< ((12 : Int32) &&& 31)) >>> ((12 : Int32) &&& 31))) (4467570830351532032 : UInt64))), .second, .val (.double (FP.i2d ((p2 <<< ((12 : Int32) &&& 31)) >>> ((12 : Int32) &&& 31)))), .second, iv (0 : Int32), iv ((p1 <<< ((12 : Int32) &&& 31)) >>> ((12 : Int32) &&& 31)), iv ((p2 <<< ((12 : Int32) &&& 31)) >>> ((12 : Int32) &&& 31)), .val (.double (4467570830351532032 : UInt64)), .second] [(.int (1 : Int32))]))
              refine own_go (fun _ k => XS.iload X28.here hx rfl (hb hby at_133) rfl k) ?_
              show own_Go p e below s _ _ _ (T28.setTop (mkF m 135 #[iv p1, iv p2, iv p3, iv (p3 &&& (3 : Int32)), .val (.double (4467570830351532032 : UInt64)), .second, .val (.double (FP.dadd (FP.i2d ((p1 <<< ((12 : Int32) &&& 31)) >>> ((12 : Int32) &&& 31))) (4467570830351532032 : UInt64))), .second, .val (.double (FP.i2d ((p2 <<< ((12 : Int32) &&& 31)) >>> ((12 : Int32) &&& 31)))), .second, iv (0 : Int32), iv ((p1 <<< ((12 : Int32) &&& 31)) >>> ((12 : Int32) &&& 31)), iv ((p2 <<< ((12 : Int32) &&& 31)) >>> ((12 : Int32) &&& 31)), .val (.double (4467570830351532032 : UInt64)), .second] [(.int (0 : Int32)), (.int (1 : Int32))]))
              refine own_go (fun _ k => XS.icmpYes X28.here hx rfl (pc0 := 135) (pc' := 142) rfl (hb hby at_135) rfl (feq (by decide : ¬ ((1 : Int32) = (0 : Int32)))).2 (by decide) (by decide) k) ?_
              show own_Go p e below s _ _ _ (T28.setTop (mkF m 142 #[iv p1, iv p2, iv p3, iv (p3 &&& (3 : Int32)), .val (.double (4467570830351532032 : UInt64)), .second, .val (.double (FP.dadd (FP.i2d ((p1 <<< ((12 : Int32) &&& 31)) >>> ((12 : Int32) &&& 31))) (4467570830351532032 : UInt64))), .second, .val (.double (FP.i2d ((p2 <<< ((12 : Int32) &&& 31)) >>> ((12 : Int32) &&& 31)))), .second, iv (0 : Int32), iv ((p1 <<< ((12 : Int32) &&& 31)) >>> ((12 : Int32) &&& 31)), iv ((p2 <<< ((12 : Int32) &&& 31)) >>> ((12 : Int32) &&& 31)), .val (.double (4467570830351532032 : UInt64)), .second] []))
              refine own_go (fun _ k => XS.iconst X28.here hx rfl (hb hby at_142) k) ?_
              show own_Go p e below s _ _ _ (T28.setTop (mkF m 143 #[iv p1, iv p2, iv p3, iv (p3 &&& (3 : Int32)), .val (.double (4467570830351532032 : UInt64)), .second, .val (.double (FP.dadd (FP.i2d ((p1 <<< ((12 : Int32) &&& 31)) >>> ((12 : Int32) &&& 31))) (4467570830351532032 : UInt64))), .second, .val (.double (FP.i2d ((p2 <<< ((12 : Int32) &&& 31)) >>> ((12 : Int32) &&& 31)))), .second, iv (0 : Int32), iv ((p1 <<< ((12 : Int32) &&& 31)) >>> ((12 : Int32) &&& 31)), iv ((p2 <<< ((12 : Int32) &&& 31)) >>> ((12 : Int32) &&& 31)), .val (.double (4467570830351532032 : UInt64)), .second] [(.int (0 : Int32))]))
              refine own_retN X28 hx hlk Kc33 (t := .boolean) hret (by simp) (hb hby at_143) (by show _ ≤ 0; omega) (by show _ ≤ 0; omega) ?_
              exfalso
              have hz := mt (own_law1 (own_Ssh p1) (own_Ssh p2)).mpr hp32
              have ar0 := rng32 p3
              have ar1 := c_mask p3 (3 : Int32) 2 (by decide) (by decide)
              have ar2 : (0 : Int32).toInt = 0 := by decide
              have ar3 := mt Int32.toInt_inj.mp hc1
              have ar4 : (1 : Int32).toInt = 1 := by decide
              have ar5 := congrArg Int32.toInt hc17
              have ar6 := rng32 p1
              have ar7 := c_ishl p1 (12 : Int32) 12 (by decide)
              have ar8 := rng32 (p1 <<< ((12 : Int32) &&& 31))
              have ar9 := c_ishr (p1 <<< ((12 : Int32) &&& 31)) (12 : Int32) 12 (by decide)
              have ar10 := rng32 p2
              have ar11 := c_ishl p2 (12 : Int32) 12 (by decide)
              have ar12 := rng32 (p2 <<< ((12 : Int32) &&& 31))
              have ar13 := c_ishr (p2 <<< ((12 : Int32) &&& 31)) (12 : Int32) 12 (by decide)
              have ar14 := mt Int32.lt_iff_toInt_lt.mpr hc18
              have ar15 := congrArg Int32.toInt hc26
              have ar16 : (2 : Int32).toInt = 2 := by decide
              have ar17 := congrArg Int32.toInt hc27
              omega
          · refine own_go (fun _ k => XS.icmpNo X0.here hx rfl (hb hby at_116) rfl (feq hc27).1 k) ?_
            show own_Go p e below s _ _ _ (T.setTop (mkF m 119 #[iv p1, iv p2, iv p3, iv (p3 &&& (3 : Int32)), .val (.double (4467570830351532032 : UInt64)), .second, .val (.double (FP.dadd (FP.i2d ((p1 <<< ((12 : Int32) &&& 31)) >>> ((12 : Int32) &&& 31))) (4467570830351532032 : UInt64))), .second, .val (.double (FP.i2d ((p2 <<< ((12 : Int32) &&& 31)) >>> ((12 : Int32) &&& 31)))), .second, .unset, iv ((p1 <<< ((12 : Int32) &&& 31)) >>> ((12 : Int32) &&& 31)), iv ((p2 <<< ((12 : Int32) &&& 31)) >>> ((12 : Int32) &&& 31)), .val (.double (4467570830351532032 : UInt64)), .second] []))
            refine own_go (fun _ k => XS.iconst X0.here hx rfl (hb hby at_119) k) ?_
            show own_Go p e below s _ _ _ (T.setTop (mkF m 120 #[iv p1, iv p2, iv p3, iv (p3 &&& (3 : Int32)), .val (.double (4467570830351532032 : UInt64)), .second, .val (.double (FP.dadd (FP.i2d ((p1 <<< ((12 : Int32) &&& 31)) >>> ((12 : Int32) &&& 31))) (4467570830351532032 : UInt64))), .second, .val (.double (FP.i2d ((p2 <<< ((12 : Int32) &&& 31)) >>> ((12 : Int32) &&& 31)))), .second, .unset, iv ((p1 <<< ((12 : Int32) &&& 31)) >>> ((12 : Int32) &&& 31)), iv ((p2 <<< ((12 : Int32) &&& 31)) >>> ((12 : Int32) &&& 31)), .val (.double (4467570830351532032 : UInt64)), .second] [(.int (1 : Int32))]))
            refine own_go (fun _ k => XS.goto X0.here hx rfl (pc0 := 120) (pc' := 124) rfl (hb hby at_120) (by decide) (by decide) k) ?_
            show own_Go p e below s _ _ _ (T.setTop (mkF m 124 #[iv p1, iv p2, iv p3, iv (p3 &&& (3 : Int32)), .val (.double (4467570830351532032 : UInt64)), .second, .val (.double (FP.dadd (FP.i2d ((p1 <<< ((12 : Int32) &&& 31)) >>> ((12 : Int32) &&& 31))) (4467570830351532032 : UInt64))), .second, .val (.double (FP.i2d ((p2 <<< ((12 : Int32) &&& 31)) >>> ((12 : Int32) &&& 31)))), .second, .unset, iv ((p1 <<< ((12 : Int32) &&& 31)) >>> ((12 : Int32) &&& 31)), iv ((p2 <<< ((12 : Int32) &&& 31)) >>> ((12 : Int32) &&& 31)), .val (.double (4467570830351532032 : UInt64)), .second] [(.int (1 : Int32))]))
            refine own_go (fun _ k => XS.istore X0.here hx rfl (hb hby at_124) rfl (l' := #[iv p1, iv p2, iv p3, iv (p3 &&& (3 : Int32)), .val (.double (4467570830351532032 : UInt64)), .second, .val (.double (FP.dadd (FP.i2d ((p1 <<< ((12 : Int32) &&& 31)) >>> ((12 : Int32) &&& 31))) (4467570830351532032 : UInt64))), .second, .val (.double (FP.i2d ((p2 <<< ((12 : Int32) &&& 31)) >>> ((12 : Int32) &&& 31)))), .second, iv (1 : Int32), iv ((p1 <<< ((12 : Int32) &&& 31)) >>> ((12 : Int32) &&& 31)), iv ((p2 <<< ((12 : Int32) &&& 31)) >>> ((12 : Int32) &&& 31)), .val (.double (4467570830351532032 : UInt64)), .second]) rfl k) ?_
            show own_Go p e below s _ _ _ (T.setTop (mkF m 126 #[iv p1, iv p2, iv p3, iv (p3 &&& (3 : Int32)), .val (.double (4467570830351532032 : UInt64)), .second, .val (.double (FP.dadd (FP.i2d ((p1 <<< ((12 : Int32) &&& 31)) >>> ((12 : Int32) &&& 31))) (4467570830351532032 : UInt64))), .second, .val (.double (FP.i2d ((p2 <<< ((12 : Int32) &&& 31)) >>> ((12 : Int32) &&& 31)))), .second, iv (1 : Int32), iv ((p1 <<< ((12 : Int32) &&& 31)) >>> ((12 : Int32) &&& 31)), iv ((p2 <<< ((12 : Int32) &&& 31)) >>> ((12 : Int32) &&& 31)), .val (.double (4467570830351532032 : UInt64)), .second] []))
            refine own_go (fun _ k => XS.dload X0.here hx rfl (hb hby at_126) rfl k) ?_
            show own_Go p e below s _ _ _ (T.setTop (mkF m 128 #[iv p1, iv p2, iv p3, iv (p3 &&& (3 : Int32)), .val (.double (4467570830351532032 : UInt64)), .second, .val (.double (FP.dadd (FP.i2d ((p1 <<< ((12 : Int32) &&& 31)) >>> ((12 : Int32) &&& 31))) (4467570830351532032 : UInt64))), .second, .val (.double (FP.i2d ((p2 <<< ((12 : Int32) &&& 31)) >>> ((12 : Int32) &&& 31)))), .second, iv (1 : Int32), iv ((p1 <<< ((12 : Int32) &&& 31)) >>> ((12 : Int32) &&& 31)), iv ((p2 <<< ((12 : Int32) &&& 31)) >>> ((12 : Int32) &&& 31)), .val (.double (4467570830351532032 : UInt64)), .second] [(.double (FP.dadd (FP.i2d ((p1 <<< ((12 : Int32) &&& 31)) >>> ((12 : Int32) &&& 31))) (4467570830351532032 : UInt64)))]))
            refine own_go (fun _ k => XS.dload X0.here hx rfl (hb hby at_128) rfl k) ?_
            show own_Go p e below s _ _ _ (T.setTop (mkF m 130 #[iv p1, iv p2, iv p3, iv (p3 &&& (3 : Int32)), .val (.double (4467570830351532032 : UInt64)), .second, .val (.double (FP.dadd (FP.i2d ((p1 <<< ((12 : Int32) &&& 31)) >>> ((12 : Int32) &&& 31))) (4467570830351532032 : UInt64))), .second, .val (.double (FP.i2d ((p2 <<< ((12 : Int32) &&& 31)) >>> ((12 : Int32) &&& 31)))), .second, iv (1 : Int32), iv ((p1 <<< ((12 : Int32) &&& 31)) >>> ((12 : Int32) &&& 31)), iv ((p2 <<< ((12 : Int32) &&& 31)) >>> ((12 : Int32) &&& 31)), .val (.double (4467570830351532032 : UInt64)), .second] [(.double (FP.i2d ((p2 <<< ((12 : Int32) &&& 31)) >>> ((12 : Int32) &&& 31)))), (.double (FP.dadd (FP.i2d ((p1 <<< ((12 : Int32) &&& 31)) >>> ((12 : Int32) &&& 31))) (4467570830351532032 : UInt64)))]))
            obtain ⟨v35, T35, L35, X35, hQ35, st35⟩ := own_callS (y := (⟨"com/example/nudo/nudo/ConflictRegions", "fits", "(DD)Z"⟩ : MethodName)) X0 hx hZ hown (ow2 hw) (ow3 hw) (ow4 hw) (ow5 hw) (rm_fits l Z a0 hw [] (FP.dadd (FP.i2d ((p1 <<< ((12 : Int32) &&& 31)) >>> ((12 : Int32) &&& 31))) (4467570830351532032 : UInt64)) (FP.i2d ((p2 <<< ((12 : Int32) &&& 31)) >>> ((12 : Int32) &&& 31))) h0 O0 (own_finI _)) 0 0 0 (by show _ ≤ 0; omega) (by show _ ≤ 0; omega) e0 (g := (mkF m 130 #[iv p1, iv p2, iv p3, iv (p3 &&& (3 : Int32)), .val (.double (4467570830351532032 : UInt64)), .second, .val (.double (FP.dadd (FP.i2d ((p1 <<< ((12 : Int32) &&& 31)) >>> ((12 : Int32) &&& 31))) (4467570830351532032 : UInt64))), .second, .val (.double (FP.i2d ((p2 <<< ((12 : Int32) &&& 31)) >>> ((12 : Int32) &&& 31)))), .second, iv (1 : Int32), iv ((p1 <<< ((12 : Int32) &&& 31)) >>> ((12 : Int32) &&& 31)), iv ((p2 <<< ((12 : Int32) &&& 31)) >>> ((12 : Int32) &&& 31)), .val (.double (4467570830351532032 : UInt64)), .second] [(.double (FP.i2d ((p2 <<< ((12 : Int32) &&& 31)) >>> ((12 : Int32) &&& 31)))), (.double (FP.dadd (FP.i2d ((p1 <<< ((12 : Int32) &&& 31)) >>> ((12 : Int32) &&& 31))) (4467570830351532032 : UInt64)))])) rfl (by rw [hml]; rfl) [(.double (FP.dadd (FP.i2d ((p1 <<< ((12 : Int32) &&& 31)) >>> ((12 : Int32) &&& 31))) (4467570830351532032 : UInt64))), (.double (FP.i2d ((p2 <<< ((12 : Int32) &&& 31)) >>> ((12 : Int32) &&& 31))))] [] (lenOf own_pd_0 rfl) rfl rfl (hb hby at_130)
            rcases hQ35 with hQ35 | hQ35
            · obtain ⟨rfl, Nc38, hp36, Kc37⟩ := hQ35
              refine own_go st35 ?_
              clear st35 X0 e0
              replace N0 := Fr.app N0 Nc38
              clear Nc38
              show own_Go p e below s _ _ _ (T35.setTop (mkF m 133 #[iv p1, iv p2, iv p3, iv (p3 &&& (3 : Int32)), .val (.double (4467570830351532032 : UInt64)), .second, .val (.double (FP.dadd (FP.i2d ((p1 <<< ((12 : Int32) &&& 31)) >>> ((12 : Int32) &&& 31))) (4467570830351532032 : UInt64))), .second, .val (.double (FP.i2d ((p2 <<< ((12 : Int32) &&& 31)) >>> ((12 : Int32) &&& 31)))), .second, iv (1 : Int32), iv ((p1 <<< ((12 : Int32) &&& 31)) >>> ((12 : Int32) &&& 31)), iv ((p2 <<< ((12 : Int32) &&& 31)) >>> ((12 : Int32) &&& 31)), .val (.double (4467570830351532032 : UInt64)), .second] [(.int (0 : Int32))]))
              refine own_go (fun _ k => XS.iload X35.here hx rfl (hb hby at_133) rfl k) ?_
              show own_Go p e below s _ _ _ (T35.setTop (mkF m 135 #[iv p1, iv p2, iv p3, iv (p3 &&& (3 : Int32)), .val (.double (4467570830351532032 : UInt64)), .second, .val (.double (FP.dadd (FP.i2d ((p1 <<< ((12 : Int32) &&& 31)) >>> ((12 : Int32) &&& 31))) (4467570830351532032 : UInt64))), .second, .val (.double (FP.i2d ((p2 <<< ((12 : Int32) &&& 31)) >>> ((12 : Int32) &&& 31)))), .second, iv (1 : Int32), iv ((p1 <<< ((12 : Int32) &&& 31)) >>> ((12 : Int32) &&& 31)), iv ((p2 <<< ((12 : Int32) &&& 31)) >>> ((12 : Int32) &&& 31)), .val (.double (4467570830351532032 : UInt64)), .second] [(.int (1 : Int32)), (.int (0 : Int32))]))
              refine own_go (fun _ k => XS.icmpYes X35.here hx rfl (pc0 := 135) (pc' := 142) rfl (hb hby at_135) rfl (feq (by decide : ¬ ((0 : Int32) = (1 : Int32)))).2 (by decide) (by decide) k) ?_
              show own_Go p e below s _ _ _ (T35.setTop (mkF m 142 #[iv p1, iv p2, iv p3, iv (p3 &&& (3 : Int32)), .val (.double (4467570830351532032 : UInt64)), .second, .val (.double (FP.dadd (FP.i2d ((p1 <<< ((12 : Int32) &&& 31)) >>> ((12 : Int32) &&& 31))) (4467570830351532032 : UInt64))), .second, .val (.double (FP.i2d ((p2 <<< ((12 : Int32) &&& 31)) >>> ((12 : Int32) &&& 31)))), .second, iv (1 : Int32), iv ((p1 <<< ((12 : Int32) &&& 31)) >>> ((12 : Int32) &&& 31)), iv ((p2 <<< ((12 : Int32) &&& 31)) >>> ((12 : Int32) &&& 31)), .val (.double (4467570830351532032 : UInt64)), .second] []))
              refine own_go (fun _ k => XS.iconst X35.here hx rfl (hb hby at_142) k) ?_
              show own_Go p e below s _ _ _ (T35.setTop (mkF m 143 #[iv p1, iv p2, iv p3, iv (p3 &&& (3 : Int32)), .val (.double (4467570830351532032 : UInt64)), .second, .val (.double (FP.dadd (FP.i2d ((p1 <<< ((12 : Int32) &&& 31)) >>> ((12 : Int32) &&& 31))) (4467570830351532032 : UInt64))), .second, .val (.double (FP.i2d ((p2 <<< ((12 : Int32) &&& 31)) >>> ((12 : Int32) &&& 31)))), .second, iv (1 : Int32), iv ((p1 <<< ((12 : Int32) &&& 31)) >>> ((12 : Int32) &&& 31)), iv ((p2 <<< ((12 : Int32) &&& 31)) >>> ((12 : Int32) &&& 31)), .val (.double (4467570830351532032 : UInt64)), .second] [(.int (0 : Int32))]))
              refine own_retN X35 hx hlk Kc37 (t := .boolean) hret (by simp) (hb hby at_143) (by show _ ≤ 0; omega) (by show _ ≤ 0; omega) ?_
              exfalso
              have hz := (own_law1 (own_Ssh p1) (own_Ssh p2)).mp hp36
              have ar0 := rng32 p3
              have ar1 := c_mask p3 (3 : Int32) 2 (by decide) (by decide)
              have ar2 : (0 : Int32).toInt = 0 := by decide
              have ar3 := mt Int32.toInt_inj.mp hc1
              have ar4 : (1 : Int32).toInt = 1 := by decide
              have ar5 := congrArg Int32.toInt hc17
              have ar6 := rng32 p1
              have ar7 := c_ishl p1 (12 : Int32) 12 (by decide)
              have ar8 := rng32 (p1 <<< ((12 : Int32) &&& 31))
              have ar9 := c_ishr (p1 <<< ((12 : Int32) &&& 31)) (12 : Int32) 12 (by decide)
              have ar10 := rng32 p2
              have ar11 := c_ishl p2 (12 : Int32) 12 (by decide)
              have ar12 := rng32 (p2 <<< ((12 : Int32) &&& 31))
              have ar13 := c_ishr (p2 <<< ((12 : Int32) &&& 31)) (12 : Int32) 12 (by decide)
              have ar14 := mt Int32.lt_iff_toInt_lt.mpr hc18
              have ar15 := congrArg Int32.toInt hc26
              have ar16 : (2 : Int32).toInt = 2 := by decide
              have ar17 := mt Int32.toInt_inj.mp hc27
              omega
            · obtain ⟨rfl, Nc41, hp39, Kc40⟩ := hQ35
              refine own_go st35 ?_
              clear st35 X0 e0
              replace N0 := Fr.app N0 Nc41
              clear Nc41
              show own_Go p e below s _ _ _ (T35.setTop (mkF m 133 #[iv p1, iv p2, iv p3, iv (p3 &&& (3 : Int32)), .val (.double (4467570830351532032 : UInt64)), .second, .val (.double (FP.dadd (FP.i2d ((p1 <<< ((12 : Int32) &&& 31)) >>> ((12 : Int32) &&& 31))) (4467570830351532032 : UInt64))), .second, .val (.double (FP.i2d ((p2 <<< ((12 : Int32) &&& 31)) >>> ((12 : Int32) &&& 31)))), .second, iv (1 : Int32), iv ((p1 <<< ((12 : Int32) &&& 31)) >>> ((12 : Int32) &&& 31)), iv ((p2 <<< ((12 : Int32) &&& 31)) >>> ((12 : Int32) &&& 31)), .val (.double (4467570830351532032 : UInt64)), .second] [(.int (1 : Int32))]))
              refine own_go (fun _ k => XS.iload X35.here hx rfl (hb hby at_133) rfl k) ?_
              show own_Go p e below s _ _ _ (T35.setTop (mkF m 135 #[iv p1, iv p2, iv p3, iv (p3 &&& (3 : Int32)), .val (.double (4467570830351532032 : UInt64)), .second, .val (.double (FP.dadd (FP.i2d ((p1 <<< ((12 : Int32) &&& 31)) >>> ((12 : Int32) &&& 31))) (4467570830351532032 : UInt64))), .second, .val (.double (FP.i2d ((p2 <<< ((12 : Int32) &&& 31)) >>> ((12 : Int32) &&& 31)))), .second, iv (1 : Int32), iv ((p1 <<< ((12 : Int32) &&& 31)) >>> ((12 : Int32) &&& 31)), iv ((p2 <<< ((12 : Int32) &&& 31)) >>> ((12 : Int32) &&& 31)), .val (.double (4467570830351532032 : UInt64)), .second] [(.int (1 : Int32)), (.int (1 : Int32))]))
              refine own_go (fun _ k => XS.icmpNo X35.here hx rfl (hb hby at_135) rfl (teq (by decide : (1 : Int32) = (1 : Int32))).2 k) ?_
              show own_Go p e below s _ _ _ (T35.setTop (mkF m 138 #[iv p1, iv p2, iv p3, iv (p3 &&& (3 : Int32)), .val (.double (4467570830351532032 : UInt64)), .second, .val (.double (FP.dadd (FP.i2d ((p1 <<< ((12 : Int32) &&& 31)) >>> ((12 : Int32) &&& 31))) (4467570830351532032 : UInt64))), .second, .val (.double (FP.i2d ((p2 <<< ((12 : Int32) &&& 31)) >>> ((12 : Int32) &&& 31)))), .second, iv (1 : Int32), iv ((p1 <<< ((12 : Int32) &&& 31)) >>> ((12 : Int32) &&& 31)), iv ((p2 <<< ((12 : Int32) &&& 31)) >>> ((12 : Int32) &&& 31)), .val (.double (4467570830351532032 : UInt64)), .second] []))
              refine own_go (fun _ k => XS.iconst X35.here hx rfl (hb hby at_138) k) ?_
              show own_Go p e below s _ _ _ (T35.setTop (mkF m 139 #[iv p1, iv p2, iv p3, iv (p3 &&& (3 : Int32)), .val (.double (4467570830351532032 : UInt64)), .second, .val (.double (FP.dadd (FP.i2d ((p1 <<< ((12 : Int32) &&& 31)) >>> ((12 : Int32) &&& 31))) (4467570830351532032 : UInt64))), .second, .val (.double (FP.i2d ((p2 <<< ((12 : Int32) &&& 31)) >>> ((12 : Int32) &&& 31)))), .second, iv (1 : Int32), iv ((p1 <<< ((12 : Int32) &&& 31)) >>> ((12 : Int32) &&& 31)), iv ((p2 <<< ((12 : Int32) &&& 31)) >>> ((12 : Int32) &&& 31)), .val (.double (4467570830351532032 : UInt64)), .second] [(.int (1 : Int32))]))
              refine own_go (fun _ k => XS.goto X35.here hx rfl (pc0 := 139) (pc' := 143) rfl (hb hby at_139) (by decide) (by decide) k) ?_
              show own_Go p e below s _ _ _ (T35.setTop (mkF m 143 #[iv p1, iv p2, iv p3, iv (p3 &&& (3 : Int32)), .val (.double (4467570830351532032 : UInt64)), .second, .val (.double (FP.dadd (FP.i2d ((p1 <<< ((12 : Int32) &&& 31)) >>> ((12 : Int32) &&& 31))) (4467570830351532032 : UInt64))), .second, .val (.double (FP.i2d ((p2 <<< ((12 : Int32) &&& 31)) >>> ((12 : Int32) &&& 31)))), .second, iv (1 : Int32), iv ((p1 <<< ((12 : Int32) &&& 31)) >>> ((12 : Int32) &&& 31)), iv ((p2 <<< ((12 : Int32) &&& 31)) >>> ((12 : Int32) &&& 31)), .val (.double (4467570830351532032 : UInt64)), .second] [(.int (1 : Int32))]))
              refine own_retN X35 hx hlk Kc40 (t := .boolean) hret (by simp) (hb hby at_143) (by show _ ≤ 0; omega) (by show _ ≤ 0; omega) ?_
              exact ⟨rfl, N0, K0⟩
        · refine own_go (fun _ k => XS.icmpYes X0.here hx rfl (pc0 := 111) (pc' := 123) rfl (hb hby at_111) rfl (feq hc26).2 (by decide) (by decide) k) ?_
          show own_Go p e below s _ _ _ (T.setTop (mkF m 123 #[iv p1, iv p2, iv p3, iv (p3 &&& (3 : Int32)), .val (.double (4467570830351532032 : UInt64)), .second, .val (.double (FP.dadd (FP.i2d ((p1 <<< ((12 : Int32) &&& 31)) >>> ((12 : Int32) &&& 31))) (4467570830351532032 : UInt64))), .second, .val (.double (FP.i2d ((p2 <<< ((12 : Int32) &&& 31)) >>> ((12 : Int32) &&& 31)))), .second, .unset, iv ((p1 <<< ((12 : Int32) &&& 31)) >>> ((12 : Int32) &&& 31)), iv ((p2 <<< ((12 : Int32) &&& 31)) >>> ((12 : Int32) &&& 31)), .val (.double (4467570830351532032 : UInt64)), .second] []))
          refine own_go (fun _ k => XS.iconst X0.here hx rfl (hb hby at_123) k) ?_
          show own_Go p e below s _ _ _ (T.setTop (mkF m 124 #[iv p1, iv p2, iv p3, iv (p3 &&& (3 : Int32)), .val (.double (4467570830351532032 : UInt64)), .second, .val (.double (FP.dadd (FP.i2d ((p1 <<< ((12 : Int32) &&& 31)) >>> ((12 : Int32) &&& 31))) (4467570830351532032 : UInt64))), .second, .val (.double (FP.i2d ((p2 <<< ((12 : Int32) &&& 31)) >>> ((12 : Int32) &&& 31)))), .second, .unset, iv ((p1 <<< ((12 : Int32) &&& 31)) >>> ((12 : Int32) &&& 31)), iv ((p2 <<< ((12 : Int32) &&& 31)) >>> ((12 : Int32) &&& 31)), .val (.double (4467570830351532032 : UInt64)), .second] [(.int (0 : Int32))]))
          refine own_go (fun _ k => XS.istore X0.here hx rfl (hb hby at_124) rfl (l' := #[iv p1, iv p2, iv p3, iv (p3 &&& (3 : Int32)), .val (.double (4467570830351532032 : UInt64)), .second, .val (.double (FP.dadd (FP.i2d ((p1 <<< ((12 : Int32) &&& 31)) >>> ((12 : Int32) &&& 31))) (4467570830351532032 : UInt64))), .second, .val (.double (FP.i2d ((p2 <<< ((12 : Int32) &&& 31)) >>> ((12 : Int32) &&& 31)))), .second, iv (0 : Int32), iv ((p1 <<< ((12 : Int32) &&& 31)) >>> ((12 : Int32) &&& 31)), iv ((p2 <<< ((12 : Int32) &&& 31)) >>> ((12 : Int32) &&& 31)), .val (.double (4467570830351532032 : UInt64)), .second]) rfl k) ?_
          show own_Go p e below s _ _ _ (T.setTop (mkF m 126 #[iv p1, iv p2, iv p3, iv (p3 &&& (3 : Int32)), .val (.double (4467570830351532032 : UInt64)), .second, .val (.double (FP.dadd (FP.i2d ((p1 <<< ((12 : Int32) &&& 31)) >>> ((12 : Int32) &&& 31))) (4467570830351532032 : UInt64))), .second, .val (.double (FP.i2d ((p2 <<< ((12 : Int32) &&& 31)) >>> ((12 : Int32) &&& 31)))), .second, iv (0 : Int32), iv ((p1 <<< ((12 : Int32) &&& 31)) >>> ((12 : Int32) &&& 31)), iv ((p2 <<< ((12 : Int32) &&& 31)) >>> ((12 : Int32) &&& 31)), .val (.double (4467570830351532032 : UInt64)), .second] []))
          refine own_go (fun _ k => XS.dload X0.here hx rfl (hb hby at_126) rfl k) ?_
          show own_Go p e below s _ _ _ (T.setTop (mkF m 128 #[iv p1, iv p2, iv p3, iv (p3 &&& (3 : Int32)), .val (.double (4467570830351532032 : UInt64)), .second, .val (.double (FP.dadd (FP.i2d ((p1 <<< ((12 : Int32) &&& 31)) >>> ((12 : Int32) &&& 31))) (4467570830351532032 : UInt64))), .second, .val (.double (FP.i2d ((p2 <<< ((12 : Int32) &&& 31)) >>> ((12 : Int32) &&& 31)))), .second, iv (0 : Int32), iv ((p1 <<< ((12 : Int32) &&& 31)) >>> ((12 : Int32) &&& 31)), iv ((p2 <<< ((12 : Int32) &&& 31)) >>> ((12 : Int32) &&& 31)), .val (.double (4467570830351532032 : UInt64)), .second] [(.double (FP.dadd (FP.i2d ((p1 <<< ((12 : Int32) &&& 31)) >>> ((12 : Int32) &&& 31))) (4467570830351532032 : UInt64)))]))
          refine own_go (fun _ k => XS.dload X0.here hx rfl (hb hby at_128) rfl k) ?_
          show own_Go p e below s _ _ _ (T.setTop (mkF m 130 #[iv p1, iv p2, iv p3, iv (p3 &&& (3 : Int32)), .val (.double (4467570830351532032 : UInt64)), .second, .val (.double (FP.dadd (FP.i2d ((p1 <<< ((12 : Int32) &&& 31)) >>> ((12 : Int32) &&& 31))) (4467570830351532032 : UInt64))), .second, .val (.double (FP.i2d ((p2 <<< ((12 : Int32) &&& 31)) >>> ((12 : Int32) &&& 31)))), .second, iv (0 : Int32), iv ((p1 <<< ((12 : Int32) &&& 31)) >>> ((12 : Int32) &&& 31)), iv ((p2 <<< ((12 : Int32) &&& 31)) >>> ((12 : Int32) &&& 31)), .val (.double (4467570830351532032 : UInt64)), .second] [(.double (FP.i2d ((p2 <<< ((12 : Int32) &&& 31)) >>> ((12 : Int32) &&& 31)))), (.double (FP.dadd (FP.i2d ((p1 <<< ((12 : Int32) &&& 31)) >>> ((12 : Int32) &&& 31))) (4467570830351532032 : UInt64)))]))
          obtain ⟨v42, T42, L42, X42, hQ42, st42⟩ := own_callS (y := (⟨"com/example/nudo/nudo/ConflictRegions", "fits", "(DD)Z"⟩ : MethodName)) X0 hx hZ hown (ow2 hw) (ow3 hw) (ow4 hw) (ow5 hw) (rm_fits l Z a0 hw [] (FP.dadd (FP.i2d ((p1 <<< ((12 : Int32) &&& 31)) >>> ((12 : Int32) &&& 31))) (4467570830351532032 : UInt64)) (FP.i2d ((p2 <<< ((12 : Int32) &&& 31)) >>> ((12 : Int32) &&& 31))) h0 O0 (own_finI _)) 0 0 0 (by show _ ≤ 0; omega) (by show _ ≤ 0; omega) e0 (g := (mkF m 130 #[iv p1, iv p2, iv p3, iv (p3 &&& (3 : Int32)), .val (.double (4467570830351532032 : UInt64)), .second, .val (.double (FP.dadd (FP.i2d ((p1 <<< ((12 : Int32) &&& 31)) >>> ((12 : Int32) &&& 31))) (4467570830351532032 : UInt64))), .second, .val (.double (FP.i2d ((p2 <<< ((12 : Int32) &&& 31)) >>> ((12 : Int32) &&& 31)))), .second, iv (0 : Int32), iv ((p1 <<< ((12 : Int32) &&& 31)) >>> ((12 : Int32) &&& 31)), iv ((p2 <<< ((12 : Int32) &&& 31)) >>> ((12 : Int32) &&& 31)), .val (.double (4467570830351532032 : UInt64)), .second] [(.double (FP.i2d ((p2 <<< ((12 : Int32) &&& 31)) >>> ((12 : Int32) &&& 31)))), (.double (FP.dadd (FP.i2d ((p1 <<< ((12 : Int32) &&& 31)) >>> ((12 : Int32) &&& 31))) (4467570830351532032 : UInt64)))])) rfl (by rw [hml]; rfl) [(.double (FP.dadd (FP.i2d ((p1 <<< ((12 : Int32) &&& 31)) >>> ((12 : Int32) &&& 31))) (4467570830351532032 : UInt64))), (.double (FP.i2d ((p2 <<< ((12 : Int32) &&& 31)) >>> ((12 : Int32) &&& 31))))] [] (lenOf own_pd_0 rfl) rfl rfl (hb hby at_130)
          rcases hQ42 with hQ42 | hQ42
          · obtain ⟨rfl, Nc45, hp43, Kc44⟩ := hQ42
            refine own_go st42 ?_
            clear st42 X0 e0
            replace N0 := Fr.app N0 Nc45
            clear Nc45
            show own_Go p e below s _ _ _ (T42.setTop (mkF m 133 #[iv p1, iv p2, iv p3, iv (p3 &&& (3 : Int32)), .val (.double (4467570830351532032 : UInt64)), .second, .val (.double (FP.dadd (FP.i2d ((p1 <<< ((12 : Int32) &&& 31)) >>> ((12 : Int32) &&& 31))) (4467570830351532032 : UInt64))), .second, .val (.double (FP.i2d ((p2 <<< ((12 : Int32) &&& 31)) >>> ((12 : Int32) &&& 31)))), .second, iv (0 : Int32), iv ((p1 <<< ((12 : Int32) &&& 31)) >>> ((12 : Int32) &&& 31)), iv ((p2 <<< ((12 : Int32) &&& 31)) >>> ((12 : Int32) &&& 31)), .val (.double (4467570830351532032 : UInt64)), .second] [(.int (0 : Int32))]))
            refine own_go (fun _ k => XS.iload X42.here hx rfl (hb hby at_133) rfl k) ?_
            show own_Go p e below s _ _ _ (T42.setTop (mkF m 135 #[iv p1, iv p2, iv p3, iv (p3 &&& (3 : Int32)), .val (.double (4467570830351532032 : UInt64)), .second, .val (.double (FP.dadd (FP.i2d ((p1 <<< ((12 : Int32) &&& 31)) >>> ((12 : Int32) &&& 31))) (4467570830351532032 : UInt64))), .second, .val (.double (FP.i2d ((p2 <<< ((12 : Int32) &&& 31)) >>> ((12 : Int32) &&& 31)))), .second, iv (0 : Int32), iv ((p1 <<< ((12 : Int32) &&& 31)) >>> ((12 : Int32) &&& 31)), iv ((p2 <<< ((12 : Int32) &&& 31)) >>> ((12 : Int32) &&& 31)), .val (.double (4467570830351532032 : UInt64)), .second] [(.int (0 : Int32)), (.int (0 : Int32))]))
            refine own_go (fun _ k => XS.icmpNo X42.here hx rfl (hb hby at_135) rfl (teq (by decide : (0 : Int32) = (0 : Int32))).2 k) ?_
            show own_Go p e below s _ _ _ (T42.setTop (mkF m 138 #[iv p1, iv p2, iv p3, iv (p3 &&& (3 : Int32)), .val (.double (4467570830351532032 : UInt64)), .second, .val (.double (FP.dadd (FP.i2d ((p1 <<< ((12 : Int32) &&& 31)) >>> ((12 : Int32) &&& 31))) (4467570830351532032 : UInt64))), .second, .val (.double (FP.i2d ((p2 <<< ((12 : Int32) &&& 31)) >>> ((12 : Int32) &&& 31)))), .second, iv (0 : Int32), iv ((p1 <<< ((12 : Int32) &&& 31)) >>> ((12 : Int32) &&& 31)), iv ((p2 <<< ((12 : Int32) &&& 31)) >>> ((12 : Int32) &&& 31)), .val (.double (4467570830351532032 : UInt64)), .second] []))
            refine own_go (fun _ k => XS.iconst X42.here hx rfl (hb hby at_138) k) ?_
            show own_Go p e below s _ _ _ (T42.setTop (mkF m 139 #[iv p1, iv p2, iv p3, iv (p3 &&& (3 : Int32)), .val (.double (4467570830351532032 : UInt64)), .second, .val (.double (FP.dadd (FP.i2d ((p1 <<< ((12 : Int32) &&& 31)) >>> ((12 : Int32) &&& 31))) (4467570830351532032 : UInt64))), .second, .val (.double (FP.i2d ((p2 <<< ((12 : Int32) &&& 31)) >>> ((12 : Int32) &&& 31)))), .second, iv (0 : Int32), iv ((p1 <<< ((12 : Int32) &&& 31)) >>> ((12 : Int32) &&& 31)), iv ((p2 <<< ((12 : Int32) &&& 31)) >>> ((12 : Int32) &&& 31)), .val (.double (4467570830351532032 : UInt64)), .second] [(.int (1 : Int32))]))
            refine own_go (fun _ k => XS.goto X42.here hx rfl (pc0 := 139) (pc' := 143) rfl (hb hby at_139) (by decide) (by decide) k) ?_
            show own_Go p e below s _ _ _ (T42.setTop (mkF m 143 #[iv p1, iv p2, iv p3, iv (p3 &&& (3 : Int32)), .val (.double (4467570830351532032 : UInt64)), .second, .val (.double (FP.dadd (FP.i2d ((p1 <<< ((12 : Int32) &&& 31)) >>> ((12 : Int32) &&& 31))) (4467570830351532032 : UInt64))), .second, .val (.double (FP.i2d ((p2 <<< ((12 : Int32) &&& 31)) >>> ((12 : Int32) &&& 31)))), .second, iv (0 : Int32), iv ((p1 <<< ((12 : Int32) &&& 31)) >>> ((12 : Int32) &&& 31)), iv ((p2 <<< ((12 : Int32) &&& 31)) >>> ((12 : Int32) &&& 31)), .val (.double (4467570830351532032 : UInt64)), .second] [(.int (1 : Int32))]))
            refine own_retN X42 hx hlk Kc44 (t := .boolean) hret (by simp) (hb hby at_143) (by show _ ≤ 0; omega) (by show _ ≤ 0; omega) ?_
            exact ⟨rfl, N0, K0⟩
          · obtain ⟨rfl, Nc48, hp46, Kc47⟩ := hQ42
            refine own_go st42 ?_
            clear st42 X0 e0
            replace N0 := Fr.app N0 Nc48
            clear Nc48
            show own_Go p e below s _ _ _ (T42.setTop (mkF m 133 #[iv p1, iv p2, iv p3, iv (p3 &&& (3 : Int32)), .val (.double (4467570830351532032 : UInt64)), .second, .val (.double (FP.dadd (FP.i2d ((p1 <<< ((12 : Int32) &&& 31)) >>> ((12 : Int32) &&& 31))) (4467570830351532032 : UInt64))), .second, .val (.double (FP.i2d ((p2 <<< ((12 : Int32) &&& 31)) >>> ((12 : Int32) &&& 31)))), .second, iv (0 : Int32), iv ((p1 <<< ((12 : Int32) &&& 31)) >>> ((12 : Int32) &&& 31)), iv ((p2 <<< ((12 : Int32) &&& 31)) >>> ((12 : Int32) &&& 31)), .val (.double (4467570830351532032 : UInt64)), .second] [(.int (1 : Int32))]))
            refine own_go (fun _ k => XS.iload X42.here hx rfl (hb hby at_133) rfl k) ?_
            show own_Go p e below s _ _ _ (T42.setTop (mkF m 135 #[iv p1, iv p2, iv p3, iv (p3 &&& (3 : Int32)), .val (.double (4467570830351532032 : UInt64)), .second, .val (.double (FP.dadd (FP.i2d ((p1 <<< ((12 : Int32) &&& 31)) >>> ((12 : Int32) &&& 31))) (4467570830351532032 : UInt64))), .second, .val (.double (FP.i2d ((p2 <<< ((12 : Int32) &&& 31)) >>> ((12 : Int32) &&& 31)))), .second, iv (0 : Int32), iv ((p1 <<< ((12 : Int32) &&& 31)) >>> ((12 : Int32) &&& 31)), iv ((p2 <<< ((12 : Int32) &&& 31)) >>> ((12 : Int32) &&& 31)), .val (.double (4467570830351532032 : UInt64)), .second] [(.int (0 : Int32)), (.int (1 : Int32))]))
            refine own_go (fun _ k => XS.icmpYes X42.here hx rfl (pc0 := 135) (pc' := 142) rfl (hb hby at_135) rfl (feq (by decide : ¬ ((1 : Int32) = (0 : Int32)))).2 (by decide) (by decide) k) ?_
            show own_Go p e below s _ _ _ (T42.setTop (mkF m 142 #[iv p1, iv p2, iv p3, iv (p3 &&& (3 : Int32)), .val (.double (4467570830351532032 : UInt64)), .second, .val (.double (FP.dadd (FP.i2d ((p1 <<< ((12 : Int32) &&& 31)) >>> ((12 : Int32) &&& 31))) (4467570830351532032 : UInt64))), .second, .val (.double (FP.i2d ((p2 <<< ((12 : Int32) &&& 31)) >>> ((12 : Int32) &&& 31)))), .second, iv (0 : Int32), iv ((p1 <<< ((12 : Int32) &&& 31)) >>> ((12 : Int32) &&& 31)), iv ((p2 <<< ((12 : Int32) &&& 31)) >>> ((12 : Int32) &&& 31)), .val (.double (4467570830351532032 : UInt64)), .second] []))
            refine own_go (fun _ k => XS.iconst X42.here hx rfl (hb hby at_142) k) ?_
            show own_Go p e below s _ _ _ (T42.setTop (mkF m 143 #[iv p1, iv p2, iv p3, iv (p3 &&& (3 : Int32)), .val (.double (4467570830351532032 : UInt64)), .second, .val (.double (FP.dadd (FP.i2d ((p1 <<< ((12 : Int32) &&& 31)) >>> ((12 : Int32) &&& 31))) (4467570830351532032 : UInt64))), .second, .val (.double (FP.i2d ((p2 <<< ((12 : Int32) &&& 31)) >>> ((12 : Int32) &&& 31)))), .second, iv (0 : Int32), iv ((p1 <<< ((12 : Int32) &&& 31)) >>> ((12 : Int32) &&& 31)), iv ((p2 <<< ((12 : Int32) &&& 31)) >>> ((12 : Int32) &&& 31)), .val (.double (4467570830351532032 : UInt64)), .second] [(.int (0 : Int32))]))
            refine own_retN X42 hx hlk Kc47 (t := .boolean) hret (by simp) (hb hby at_143) (by show _ ≤ 0; omega) (by show _ ≤ 0; omega) ?_
            exfalso
            have hz := mt (own_law1 (own_Ssh p1) (own_Ssh p2)).mpr hp46
            have ar0 := rng32 p3
            have ar1 := c_mask p3 (3 : Int32) 2 (by decide) (by decide)
            have ar2 : (0 : Int32).toInt = 0 := by decide
            have ar3 := mt Int32.toInt_inj.mp hc1
            have ar4 : (1 : Int32).toInt = 1 := by decide
            have ar5 := congrArg Int32.toInt hc17
            have ar6 := rng32 p1
            have ar7 := c_ishl p1 (12 : Int32) 12 (by decide)
            have ar8 := rng32 (p1 <<< ((12 : Int32) &&& 31))
            have ar9 := c_ishr (p1 <<< ((12 : Int32) &&& 31)) (12 : Int32) 12 (by decide)
            have ar10 := rng32 p2
            have ar11 := c_ishl p2 (12 : Int32) 12 (by decide)
            have ar12 := rng32 (p2 <<< ((12 : Int32) &&& 31))
            have ar13 := c_ishr (p2 <<< ((12 : Int32) &&& 31)) (12 : Int32) 12 (by decide)
            have ar14 := mt Int32.lt_iff_toInt_lt.mpr hc18
            have ar15 := mt Int32.toInt_inj.mp hc26
            omega
    · refine own_go (fun _ k => XS.icmpYes X0.here hx rfl (pc0 := 56) (pc' := 66) rfl (hb hby at_56) rfl (feq hc17).2 (by decide) (by decide) k) ?_
      show own_Go p e below s _ _ _ (T.setTop (mkF m 66 #[iv p1, iv p2, iv p3, iv (p3 &&& (3 : Int32)), .val (.double (4467570830351532032 : UInt64)), .second, .unset, .unset, .unset, .unset, .unset, iv ((p1 <<< ((12 : Int32) &&& 31)) >>> ((12 : Int32) &&& 31)), iv ((p2 <<< ((12 : Int32) &&& 31)) >>> ((12 : Int32) &&& 31)), .unset, .unset] []))
      refine own_go (fun _ k => XS.iloadN X0.here hx rfl (hb hby at_66) rfl k) ?_
      show own_Go p e below s _ _ _ (T.setTop (mkF m 67 #[iv p1, iv p2, iv p3, iv (p3 &&& (3 : Int32)), .val (.double (4467570830351532032 : UInt64)), .second, .unset, .unset, .unset, .unset, .unset, iv ((p1 <<< ((12 : Int32) &&& 31)) >>> ((12 : Int32) &&& 31)), iv ((p2 <<< ((12 : Int32) &&& 31)) >>> ((12 : Int32) &&& 31)), .unset, .unset] [(.int (p3 &&& (3 : Int32)))]))
      refine own_go (fun _ k => XS.iconst X0.here hx rfl (hb hby at_67) k) ?_
      show own_Go p e below s _ _ _ (T.setTop (mkF m 68 #[iv p1, iv p2, iv p3, iv (p3 &&& (3 : Int32)), .val (.double (4467570830351532032 : UInt64)), .second, .unset, .unset, .unset, .unset, .unset, iv ((p1 <<< ((12 : Int32) &&& 31)) >>> ((12 : Int32) &&& 31)), iv ((p2 <<< ((12 : Int32) &&& 31)) >>> ((12 : Int32) &&& 31)), .unset, .unset] [(.int (2 : Int32)), (.int (p3 &&& (3 : Int32)))]))
      by_cases hc49 : (p3 &&& (3 : Int32)) = (2 : Int32)
      · refine own_go (fun _ k => XS.icmpNo X0.here hx rfl (hb hby at_68) rfl (teq hc49).2 k) ?_
        show own_Go p e below s _ _ _ (T.setTop (mkF m 71 #[iv p1, iv p2, iv p3, iv (p3 &&& (3 : Int32)), .val (.double (4467570830351532032 : UInt64)), .second, .unset, .unset, .unset, .unset, .unset, iv ((p1 <<< ((12 : Int32) &&& 31)) >>> ((12 : Int32) &&& 31)), iv ((p2 <<< ((12 : Int32) &&& 31)) >>> ((12 : Int32) &&& 31)), .unset, .unset] []))
        refine own_go (X0.ldc2DoubleC hx hown (mvT hZ (ow1 hw)) (g := (mkF m 71 #[iv p1, iv p2, iv p3, iv (p3 &&& (3 : Int32)), .val (.double (4467570830351532032 : UInt64)), .second, .unset, .unset, .unset, .unset, .unset, iv ((p1 <<< ((12 : Int32) &&& 31)) >>> ((12 : Int32) &&& 31)), iv ((p2 <<< ((12 : Int32) &&& 31)) >>> ((12 : Int32) &&& 31)), .unset, .unset] [])) rfl (hb hby at_71)) ?_
        show own_Go p e below s _ _ _ (T.setTop (mkF m 74 #[iv p1, iv p2, iv p3, iv (p3 &&& (3 : Int32)), .val (.double (4467570830351532032 : UInt64)), .second, .unset, .unset, .unset, .unset, .unset, iv ((p1 <<< ((12 : Int32) &&& 31)) >>> ((12 : Int32) &&& 31)), iv ((p2 <<< ((12 : Int32) &&& 31)) >>> ((12 : Int32) &&& 31)), .unset, .unset] [(.double (4616189618054758400 : UInt64))]))
        refine own_go (fun _ k => XS.dload X0.here hx rfl (hb hby at_74) rfl k) ?_
        show own_Go p e below s _ _ _ (T.setTop (mkF m 76 #[iv p1, iv p2, iv p3, iv (p3 &&& (3 : Int32)), .val (.double (4467570830351532032 : UInt64)), .second, .unset, .unset, .unset, .unset, .unset, iv ((p1 <<< ((12 : Int32) &&& 31)) >>> ((12 : Int32) &&& 31)), iv ((p2 <<< ((12 : Int32) &&& 31)) >>> ((12 : Int32) &&& 31)), .unset, .unset] [(.double (4467570830351532032 : UInt64)), (.double (4616189618054758400 : UInt64))]))
        refine own_go (fun _ k => XS.dmulS X0.here hx rfl (hb hby at_76) rfl (own_nn64 (own_nn own_fin2)) rfl k) ?_
        show own_Go p e below s _ _ _ (T.setTop (mkF m 77 #[iv p1, iv p2, iv p3, iv (p3 &&& (3 : Int32)), .val (.double (4467570830351532032 : UInt64)), .second, .unset, .unset, .unset, .unset, .unset, iv ((p1 <<< ((12 : Int32) &&& 31)) >>> ((12 : Int32) &&& 31)), iv ((p2 <<< ((12 : Int32) &&& 31)) >>> ((12 : Int32) &&& 31)), .unset, .unset] [(.double (FP.dmul (4616189618054758400 : UInt64) (4467570830351532032 : UInt64)))]))
        refine own_go (fun _ k => XS.dstore X0.here hx rfl (hb hby at_77) rfl (l' := #[iv p1, iv p2, iv p3, iv (p3 &&& (3 : Int32)), .val (.double (4467570830351532032 : UInt64)), .second, .unset, .unset, .unset, .unset, .unset, iv ((p1 <<< ((12 : Int32) &&& 31)) >>> ((12 : Int32) &&& 31)), iv ((p2 <<< ((12 : Int32) &&& 31)) >>> ((12 : Int32) &&& 31)), .val (.double (FP.dmul (4616189618054758400 : UInt64) (4467570830351532032 : UInt64))), .second]) rfl k) ?_
        show own_Go p e below s _ _ _ (T.setTop (mkF m 79 #[iv p1, iv p2, iv p3, iv (p3 &&& (3 : Int32)), .val (.double (4467570830351532032 : UInt64)), .second, .unset, .unset, .unset, .unset, .unset, iv ((p1 <<< ((12 : Int32) &&& 31)) >>> ((12 : Int32) &&& 31)), iv ((p2 <<< ((12 : Int32) &&& 31)) >>> ((12 : Int32) &&& 31)), .val (.double (FP.dmul (4616189618054758400 : UInt64) (4467570830351532032 : UInt64))), .second] []))
        refine own_go (fun _ k => XS.goto X0.here hx rfl (pc0 := 79) (pc' := 87) rfl (hb hby at_79) (by decide) (by decide) k) ?_
        show own_Go p e below s _ _ _ (T.setTop (mkF m 87 #[iv p1, iv p2, iv p3, iv (p3 &&& (3 : Int32)), .val (.double (4467570830351532032 : UInt64)), .second, .unset, .unset, .unset, .unset, .unset, iv ((p1 <<< ((12 : Int32) &&& 31)) >>> ((12 : Int32) &&& 31)), iv ((p2 <<< ((12 : Int32) &&& 31)) >>> ((12 : Int32) &&& 31)), .val (.double (FP.dmul (4616189618054758400 : UInt64) (4467570830351532032 : UInt64))), .second] []))
        refine own_go (fun _ k => XS.iload X0.here hx rfl (hb hby at_87) rfl k) ?_
        show own_Go p e below s _ _ _ (T.setTop (mkF m 89 #[iv p1, iv p2, iv p3, iv (p3 &&& (3 : Int32)), .val (.double (4467570830351532032 : UInt64)), .second, .unset, .unset, .unset, .unset, .unset, iv ((p1 <<< ((12 : Int32) &&& 31)) >>> ((12 : Int32) &&& 31)), iv ((p2 <<< ((12 : Int32) &&& 31)) >>> ((12 : Int32) &&& 31)), .val (.double (FP.dmul (4616189618054758400 : UInt64) (4467570830351532032 : UInt64))), .second] [(.int ((p1 <<< ((12 : Int32) &&& 31)) >>> ((12 : Int32) &&& 31)))]))
        refine own_go (fun _ k => XS.i2dS X0.here hx rfl (hb hby at_89) rfl rfl k) ?_
        show own_Go p e below s _ _ _ (T.setTop (mkF m 90 #[iv p1, iv p2, iv p3, iv (p3 &&& (3 : Int32)), .val (.double (4467570830351532032 : UInt64)), .second, .unset, .unset, .unset, .unset, .unset, iv ((p1 <<< ((12 : Int32) &&& 31)) >>> ((12 : Int32) &&& 31)), iv ((p2 <<< ((12 : Int32) &&& 31)) >>> ((12 : Int32) &&& 31)), .val (.double (FP.dmul (4616189618054758400 : UInt64) (4467570830351532032 : UInt64))), .second] [(.double (FP.i2d ((p1 <<< ((12 : Int32) &&& 31)) >>> ((12 : Int32) &&& 31))))]))
        refine own_go (fun _ k => XS.dload X0.here hx rfl (hb hby at_90) rfl k) ?_
        show own_Go p e below s _ _ _ (T.setTop (mkF m 92 #[iv p1, iv p2, iv p3, iv (p3 &&& (3 : Int32)), .val (.double (4467570830351532032 : UInt64)), .second, .unset, .unset, .unset, .unset, .unset, iv ((p1 <<< ((12 : Int32) &&& 31)) >>> ((12 : Int32) &&& 31)), iv ((p2 <<< ((12 : Int32) &&& 31)) >>> ((12 : Int32) &&& 31)), .val (.double (FP.dmul (4616189618054758400 : UInt64) (4467570830351532032 : UInt64))), .second] [(.double (FP.dmul (4616189618054758400 : UInt64) (4467570830351532032 : UInt64))), (.double (FP.i2d ((p1 <<< ((12 : Int32) &&& 31)) >>> ((12 : Int32) &&& 31))))]))
        refine own_go (fun _ k => XS.daddS X0.here hx rfl (hb hby at_92) rfl (own_nn64 (own_nna (own_finI _) own_fin2)) rfl k) ?_
        show own_Go p e below s _ _ _ (T.setTop (mkF m 93 #[iv p1, iv p2, iv p3, iv (p3 &&& (3 : Int32)), .val (.double (4467570830351532032 : UInt64)), .second, .unset, .unset, .unset, .unset, .unset, iv ((p1 <<< ((12 : Int32) &&& 31)) >>> ((12 : Int32) &&& 31)), iv ((p2 <<< ((12 : Int32) &&& 31)) >>> ((12 : Int32) &&& 31)), .val (.double (FP.dmul (4616189618054758400 : UInt64) (4467570830351532032 : UInt64))), .second] [(.double (FP.dadd (FP.i2d ((p1 <<< ((12 : Int32) &&& 31)) >>> ((12 : Int32) &&& 31))) (FP.dmul (4616189618054758400 : UInt64) (4467570830351532032 : UInt64))))]))
        refine own_go (fun _ k => XS.dstore X0.here hx rfl (hb hby at_93) rfl (l' := #[iv p1, iv p2, iv p3, iv (p3 &&& (3 : Int32)), .val (.double (4467570830351532032 : UInt64)), .second, .val (.double (FP.dadd (FP.i2d ((p1 <<< ((12 : Int32) &&& 31)) >>> ((12 : Int32) &&& 31))) (FP.dmul (4616189618054758400 : UInt64) (4467570830351532032 : UInt64)))), .second, .unset, .unset, .unset, iv ((p1 <<< ((12 : Int32) &&& 31)) >>> ((12 : Int32) &&& 31)), iv ((p2 <<< ((12 : Int32) &&& 31)) >>> ((12 : Int32) &&& 31)), .val (.double (FP.dmul (4616189618054758400 : UInt64) (4467570830351532032 : UInt64))), .second]) rfl k) ?_
        show own_Go p e below s _ _ _ (T.setTop (mkF m 95 #[iv p1, iv p2, iv p3, iv (p3 &&& (3 : Int32)), .val (.double (4467570830351532032 : UInt64)), .second, .val (.double (FP.dadd (FP.i2d ((p1 <<< ((12 : Int32) &&& 31)) >>> ((12 : Int32) &&& 31))) (FP.dmul (4616189618054758400 : UInt64) (4467570830351532032 : UInt64)))), .second, .unset, .unset, .unset, iv ((p1 <<< ((12 : Int32) &&& 31)) >>> ((12 : Int32) &&& 31)), iv ((p2 <<< ((12 : Int32) &&& 31)) >>> ((12 : Int32) &&& 31)), .val (.double (FP.dmul (4616189618054758400 : UInt64) (4467570830351532032 : UInt64))), .second] []))
        refine own_go (fun _ k => XS.iload X0.here hx rfl (hb hby at_95) rfl k) ?_
        show own_Go p e below s _ _ _ (T.setTop (mkF m 97 #[iv p1, iv p2, iv p3, iv (p3 &&& (3 : Int32)), .val (.double (4467570830351532032 : UInt64)), .second, .val (.double (FP.dadd (FP.i2d ((p1 <<< ((12 : Int32) &&& 31)) >>> ((12 : Int32) &&& 31))) (FP.dmul (4616189618054758400 : UInt64) (4467570830351532032 : UInt64)))), .second, .unset, .unset, .unset, iv ((p1 <<< ((12 : Int32) &&& 31)) >>> ((12 : Int32) &&& 31)), iv ((p2 <<< ((12 : Int32) &&& 31)) >>> ((12 : Int32) &&& 31)), .val (.double (FP.dmul (4616189618054758400 : UInt64) (4467570830351532032 : UInt64))), .second] [(.int ((p2 <<< ((12 : Int32) &&& 31)) >>> ((12 : Int32) &&& 31)))]))
        refine own_go (fun _ k => XS.i2dS X0.here hx rfl (hb hby at_97) rfl rfl k) ?_
        show own_Go p e below s _ _ _ (T.setTop (mkF m 98 #[iv p1, iv p2, iv p3, iv (p3 &&& (3 : Int32)), .val (.double (4467570830351532032 : UInt64)), .second, .val (.double (FP.dadd (FP.i2d ((p1 <<< ((12 : Int32) &&& 31)) >>> ((12 : Int32) &&& 31))) (FP.dmul (4616189618054758400 : UInt64) (4467570830351532032 : UInt64)))), .second, .unset, .unset, .unset, iv ((p1 <<< ((12 : Int32) &&& 31)) >>> ((12 : Int32) &&& 31)), iv ((p2 <<< ((12 : Int32) &&& 31)) >>> ((12 : Int32) &&& 31)), .val (.double (FP.dmul (4616189618054758400 : UInt64) (4467570830351532032 : UInt64))), .second] [(.double (FP.i2d ((p2 <<< ((12 : Int32) &&& 31)) >>> ((12 : Int32) &&& 31))))]))
        refine own_go (fun _ k => XS.dstore X0.here hx rfl (hb hby at_98) rfl (l' := #[iv p1, iv p2, iv p3, iv (p3 &&& (3 : Int32)), .val (.double (4467570830351532032 : UInt64)), .second, .val (.double (FP.dadd (FP.i2d ((p1 <<< ((12 : Int32) &&& 31)) >>> ((12 : Int32) &&& 31))) (FP.dmul (4616189618054758400 : UInt64) (4467570830351532032 : UInt64)))), .second, .val (.double (FP.i2d ((p2 <<< ((12 : Int32) &&& 31)) >>> ((12 : Int32) &&& 31)))), .second, .unset, iv ((p1 <<< ((12 : Int32) &&& 31)) >>> ((12 : Int32) &&& 31)), iv ((p2 <<< ((12 : Int32) &&& 31)) >>> ((12 : Int32) &&& 31)), .val (.double (FP.dmul (4616189618054758400 : UInt64) (4467570830351532032 : UInt64))), .second]) rfl k) ?_
        show own_Go p e below s _ _ _ (T.setTop (mkF m 100 #[iv p1, iv p2, iv p3, iv (p3 &&& (3 : Int32)), .val (.double (4467570830351532032 : UInt64)), .second, .val (.double (FP.dadd (FP.i2d ((p1 <<< ((12 : Int32) &&& 31)) >>> ((12 : Int32) &&& 31))) (FP.dmul (4616189618054758400 : UInt64) (4467570830351532032 : UInt64)))), .second, .val (.double (FP.i2d ((p2 <<< ((12 : Int32) &&& 31)) >>> ((12 : Int32) &&& 31)))), .second, .unset, iv ((p1 <<< ((12 : Int32) &&& 31)) >>> ((12 : Int32) &&& 31)), iv ((p2 <<< ((12 : Int32) &&& 31)) >>> ((12 : Int32) &&& 31)), .val (.double (FP.dmul (4616189618054758400 : UInt64) (4467570830351532032 : UInt64))), .second] []))
        refine own_go (fun _ k => XS.iload X0.here hx rfl (hb hby at_100) rfl k) ?_
        show own_Go p e below s _ _ _ (T.setTop (mkF m 102 #[iv p1, iv p2, iv p3, iv (p3 &&& (3 : Int32)), .val (.double (4467570830351532032 : UInt64)), .second, .val (.double (FP.dadd (FP.i2d ((p1 <<< ((12 : Int32) &&& 31)) >>> ((12 : Int32) &&& 31))) (FP.dmul (4616189618054758400 : UInt64) (4467570830351532032 : UInt64)))), .second, .val (.double (FP.i2d ((p2 <<< ((12 : Int32) &&& 31)) >>> ((12 : Int32) &&& 31)))), .second, .unset, iv ((p1 <<< ((12 : Int32) &&& 31)) >>> ((12 : Int32) &&& 31)), iv ((p2 <<< ((12 : Int32) &&& 31)) >>> ((12 : Int32) &&& 31)), .val (.double (FP.dmul (4616189618054758400 : UInt64) (4467570830351532032 : UInt64))), .second] [(.int ((p1 <<< ((12 : Int32) &&& 31)) >>> ((12 : Int32) &&& 31)))]))
        refine own_go (fun _ k => XS.iload X0.here hx rfl (hb hby at_102) rfl k) ?_
        show own_Go p e below s _ _ _ (T.setTop (mkF m 104 #[iv p1, iv p2, iv p3, iv (p3 &&& (3 : Int32)), .val (.double (4467570830351532032 : UInt64)), .second, .val (.double (FP.dadd (FP.i2d ((p1 <<< ((12 : Int32) &&& 31)) >>> ((12 : Int32) &&& 31))) (FP.dmul (4616189618054758400 : UInt64) (4467570830351532032 : UInt64)))), .second, .val (.double (FP.i2d ((p2 <<< ((12 : Int32) &&& 31)) >>> ((12 : Int32) &&& 31)))), .second, .unset, iv ((p1 <<< ((12 : Int32) &&& 31)) >>> ((12 : Int32) &&& 31)), iv ((p2 <<< ((12 : Int32) &&& 31)) >>> ((12 : Int32) &&& 31)), .val (.double (FP.dmul (4616189618054758400 : UInt64) (4467570830351532032 : UInt64))), .second] [(.int ((p2 <<< ((12 : Int32) &&& 31)) >>> ((12 : Int32) &&& 31))), (.int ((p1 <<< ((12 : Int32) &&& 31)) >>> ((12 : Int32) &&& 31)))]))
        by_cases hc50 : ((p1 <<< ((12 : Int32) &&& 31)) >>> ((12 : Int32) &&& 31)) < ((p2 <<< ((12 : Int32) &&& 31)) >>> ((12 : Int32) &&& 31))
        · refine own_go (fun _ k => XS.icmpYes X0.here hx rfl (pc0 := 104) (pc' := 119) rfl (hb hby at_104) rfl (tlt hc50).1 (by decide) (by decide) k) ?_
          show own_Go p e below s _ _ _ (T.setTop (mkF m 119 #[iv p1, iv p2, iv p3, iv (p3 &&& (3 : Int32)), .val (.double (4467570830351532032 : UInt64)), .second, .val (.double (FP.dadd (FP.i2d ((p1 <<< ((12 : Int32) &&& 31)) >>> ((12 : Int32) &&& 31))) (FP.dmul (4616189618054758400 : UInt64) (4467570830351532032 : UInt64)))), .second, .val (.double (FP.i2d ((p2 <<< ((12 : Int32) &&& 31)) >>> ((12 : Int32) &&& 31)))), .second, .unset, iv ((p1 <<< ((12 : Int32) &&& 31)) >>> ((12 : Int32) &&& 31)), iv ((p2 <<< ((12 : Int32) &&& 31)) >>> ((12 : Int32) &&& 31)), .val (.double (FP.dmul (4616189618054758400 : UInt64) (4467570830351532032 : UInt64))), .second] []))
          refine own_go (fun _ k => XS.iconst X0.here hx rfl (hb hby at_119) k) ?_
          show own_Go p e below s _ _ _ (T.setTop (mkF m 120 #[iv p1, iv p2, iv p3, iv (p3 &&& (3 : Int32)), .val (.double (4467570830351532032 : UInt64)), .second, .val (.double (FP.dadd (FP.i2d ((p1 <<< ((12 : Int32) &&& 31)) >>> ((12 : Int32) &&& 31))) (FP.dmul (4616189618054758400 : UInt64) (4467570830351532032 : UInt64)))), .second, .val (.double (FP.i2d ((p2 <<< ((12 : Int32) &&& 31)) >>> ((12 : Int32) &&& 31)))), .second, .unset, iv ((p1 <<< ((12 : Int32) &&& 31)) >>> ((12 : Int32) &&& 31)), iv ((p2 <<< ((12 : Int32) &&& 31)) >>> ((12 : Int32) &&& 31)), .val (.double (FP.dmul (4616189618054758400 : UInt64) (4467570830351532032 : UInt64))), .second] [(.int (1 : Int32))]))
          refine own_go (fun _ k => XS.goto X0.here hx rfl (pc0 := 120) (pc' := 124) rfl (hb hby at_120) (by decide) (by decide) k) ?_
          show own_Go p e below s _ _ _ (T.setTop (mkF m 124 #[iv p1, iv p2, iv p3, iv (p3 &&& (3 : Int32)), .val (.double (4467570830351532032 : UInt64)), .second, .val (.double (FP.dadd (FP.i2d ((p1 <<< ((12 : Int32) &&& 31)) >>> ((12 : Int32) &&& 31))) (FP.dmul (4616189618054758400 : UInt64) (4467570830351532032 : UInt64)))), .second, .val (.double (FP.i2d ((p2 <<< ((12 : Int32) &&& 31)) >>> ((12 : Int32) &&& 31)))), .second, .unset, iv ((p1 <<< ((12 : Int32) &&& 31)) >>> ((12 : Int32) &&& 31)), iv ((p2 <<< ((12 : Int32) &&& 31)) >>> ((12 : Int32) &&& 31)), .val (.double (FP.dmul (4616189618054758400 : UInt64) (4467570830351532032 : UInt64))), .second] [(.int (1 : Int32))]))
          refine own_go (fun _ k => XS.istore X0.here hx rfl (hb hby at_124) rfl (l' := #[iv p1, iv p2, iv p3, iv (p3 &&& (3 : Int32)), .val (.double (4467570830351532032 : UInt64)), .second, .val (.double (FP.dadd (FP.i2d ((p1 <<< ((12 : Int32) &&& 31)) >>> ((12 : Int32) &&& 31))) (FP.dmul (4616189618054758400 : UInt64) (4467570830351532032 : UInt64)))), .second, .val (.double (FP.i2d ((p2 <<< ((12 : Int32) &&& 31)) >>> ((12 : Int32) &&& 31)))), .second, iv (1 : Int32), iv ((p1 <<< ((12 : Int32) &&& 31)) >>> ((12 : Int32) &&& 31)), iv ((p2 <<< ((12 : Int32) &&& 31)) >>> ((12 : Int32) &&& 31)), .val (.double (FP.dmul (4616189618054758400 : UInt64) (4467570830351532032 : UInt64))), .second]) rfl k) ?_
          show own_Go p e below s _ _ _ (T.setTop (mkF m 126 #[iv p1, iv p2, iv p3, iv (p3 &&& (3 : Int32)), .val (.double (4467570830351532032 : UInt64)), .second, .val (.double (FP.dadd (FP.i2d ((p1 <<< ((12 : Int32) &&& 31)) >>> ((12 : Int32) &&& 31))) (FP.dmul (4616189618054758400 : UInt64) (4467570830351532032 : UInt64)))), .second, .val (.double (FP.i2d ((p2 <<< ((12 : Int32) &&& 31)) >>> ((12 : Int32) &&& 31)))), .second, iv (1 : Int32), iv ((p1 <<< ((12 : Int32) &&& 31)) >>> ((12 : Int32) &&& 31)), iv ((p2 <<< ((12 : Int32) &&& 31)) >>> ((12 : Int32) &&& 31)), .val (.double (FP.dmul (4616189618054758400 : UInt64) (4467570830351532032 : UInt64))), .second] []))
          refine own_go (fun _ k => XS.dload X0.here hx rfl (hb hby at_126) rfl k) ?_
          show own_Go p e below s _ _ _ (T.setTop (mkF m 128 #[iv p1, iv p2, iv p3, iv (p3 &&& (3 : Int32)), .val (.double (4467570830351532032 : UInt64)), .second, .val (.double (FP.dadd (FP.i2d ((p1 <<< ((12 : Int32) &&& 31)) >>> ((12 : Int32) &&& 31))) (FP.dmul (4616189618054758400 : UInt64) (4467570830351532032 : UInt64)))), .second, .val (.double (FP.i2d ((p2 <<< ((12 : Int32) &&& 31)) >>> ((12 : Int32) &&& 31)))), .second, iv (1 : Int32), iv ((p1 <<< ((12 : Int32) &&& 31)) >>> ((12 : Int32) &&& 31)), iv ((p2 <<< ((12 : Int32) &&& 31)) >>> ((12 : Int32) &&& 31)), .val (.double (FP.dmul (4616189618054758400 : UInt64) (4467570830351532032 : UInt64))), .second] [(.double (FP.dadd (FP.i2d ((p1 <<< ((12 : Int32) &&& 31)) >>> ((12 : Int32) &&& 31))) (FP.dmul (4616189618054758400 : UInt64) (4467570830351532032 : UInt64))))]))
          refine own_go (fun _ k => XS.dload X0.here hx rfl (hb hby at_128) rfl k) ?_
          show own_Go p e below s _ _ _ (T.setTop (mkF m 130 #[iv p1, iv p2, iv p3, iv (p3 &&& (3 : Int32)), .val (.double (4467570830351532032 : UInt64)), .second, .val (.double (FP.dadd (FP.i2d ((p1 <<< ((12 : Int32) &&& 31)) >>> ((12 : Int32) &&& 31))) (FP.dmul (4616189618054758400 : UInt64) (4467570830351532032 : UInt64)))), .second, .val (.double (FP.i2d ((p2 <<< ((12 : Int32) &&& 31)) >>> ((12 : Int32) &&& 31)))), .second, iv (1 : Int32), iv ((p1 <<< ((12 : Int32) &&& 31)) >>> ((12 : Int32) &&& 31)), iv ((p2 <<< ((12 : Int32) &&& 31)) >>> ((12 : Int32) &&& 31)), .val (.double (FP.dmul (4616189618054758400 : UInt64) (4467570830351532032 : UInt64))), .second] [(.double (FP.i2d ((p2 <<< ((12 : Int32) &&& 31)) >>> ((12 : Int32) &&& 31)))), (.double (FP.dadd (FP.i2d ((p1 <<< ((12 : Int32) &&& 31)) >>> ((12 : Int32) &&& 31))) (FP.dmul (4616189618054758400 : UInt64) (4467570830351532032 : UInt64))))]))
          obtain ⟨v51, T51, L51, X51, hQ51, st51⟩ := own_callS (y := (⟨"com/example/nudo/nudo/ConflictRegions", "fits", "(DD)Z"⟩ : MethodName)) X0 hx hZ hown (ow2 hw) (ow3 hw) (ow4 hw) (ow5 hw) (rm_fits l Z a0 hw [] (FP.dadd (FP.i2d ((p1 <<< ((12 : Int32) &&& 31)) >>> ((12 : Int32) &&& 31))) (FP.dmul (4616189618054758400 : UInt64) (4467570830351532032 : UInt64))) (FP.i2d ((p2 <<< ((12 : Int32) &&& 31)) >>> ((12 : Int32) &&& 31))) h0 O0 (own_finI _)) 0 0 0 (by show _ ≤ 0; omega) (by show _ ≤ 0; omega) e0 (g := (mkF m 130 #[iv p1, iv p2, iv p3, iv (p3 &&& (3 : Int32)), .val (.double (4467570830351532032 : UInt64)), .second, .val (.double (FP.dadd (FP.i2d ((p1 <<< ((12 : Int32) &&& 31)) >>> ((12 : Int32) &&& 31))) (FP.dmul (4616189618054758400 : UInt64) (4467570830351532032 : UInt64)))), .second, .val (.double (FP.i2d ((p2 <<< ((12 : Int32) &&& 31)) >>> ((12 : Int32) &&& 31)))), .second, iv (1 : Int32), iv ((p1 <<< ((12 : Int32) &&& 31)) >>> ((12 : Int32) &&& 31)), iv ((p2 <<< ((12 : Int32) &&& 31)) >>> ((12 : Int32) &&& 31)), .val (.double (FP.dmul (4616189618054758400 : UInt64) (4467570830351532032 : UInt64))), .second] [(.double (FP.i2d ((p2 <<< ((12 : Int32) &&& 31)) >>> ((12 : Int32) &&& 31)))), (.double (FP.dadd (FP.i2d ((p1 <<< ((12 : Int32) &&& 31)) >>> ((12 : Int32) &&& 31))) (FP.dmul (4616189618054758400 : UInt64) (4467570830351532032 : UInt64))))])) rfl (by rw [hml]; rfl) [(.double (FP.dadd (FP.i2d ((p1 <<< ((12 : Int32) &&& 31)) >>> ((12 : Int32) &&& 31))) (FP.dmul (4616189618054758400 : UInt64) (4467570830351532032 : UInt64)))), (.double (FP.i2d ((p2 <<< ((12 : Int32) &&& 31)) >>> ((12 : Int32) &&& 31))))] [] (lenOf own_pd_0 rfl) rfl rfl (hb hby at_130)
          rcases hQ51 with hQ51 | hQ51
          · obtain ⟨rfl, Nc54, hp52, Kc53⟩ := hQ51
            refine own_go st51 ?_
            clear st51 X0 e0
            replace N0 := Fr.app N0 Nc54
            clear Nc54
            show own_Go p e below s _ _ _ (T51.setTop (mkF m 133 #[iv p1, iv p2, iv p3, iv (p3 &&& (3 : Int32)), .val (.double (4467570830351532032 : UInt64)), .second, .val (.double (FP.dadd (FP.i2d ((p1 <<< ((12 : Int32) &&& 31)) >>> ((12 : Int32) &&& 31))) (FP.dmul (4616189618054758400 : UInt64) (4467570830351532032 : UInt64)))), .second, .val (.double (FP.i2d ((p2 <<< ((12 : Int32) &&& 31)) >>> ((12 : Int32) &&& 31)))), .second, iv (1 : Int32), iv ((p1 <<< ((12 : Int32) &&& 31)) >>> ((12 : Int32) &&& 31)), iv ((p2 <<< ((12 : Int32) &&& 31)) >>> ((12 : Int32) &&& 31)), .val (.double (FP.dmul (4616189618054758400 : UInt64) (4467570830351532032 : UInt64))), .second] [(.int (0 : Int32))]))
            refine own_go (fun _ k => XS.iload X51.here hx rfl (hb hby at_133) rfl k) ?_
            show own_Go p e below s _ _ _ (T51.setTop (mkF m 135 #[iv p1, iv p2, iv p3, iv (p3 &&& (3 : Int32)), .val (.double (4467570830351532032 : UInt64)), .second, .val (.double (FP.dadd (FP.i2d ((p1 <<< ((12 : Int32) &&& 31)) >>> ((12 : Int32) &&& 31))) (FP.dmul (4616189618054758400 : UInt64) (4467570830351532032 : UInt64)))), .second, .val (.double (FP.i2d ((p2 <<< ((12 : Int32) &&& 31)) >>> ((12 : Int32) &&& 31)))), .second, iv (1 : Int32), iv ((p1 <<< ((12 : Int32) &&& 31)) >>> ((12 : Int32) &&& 31)), iv ((p2 <<< ((12 : Int32) &&& 31)) >>> ((12 : Int32) &&& 31)), .val (.double (FP.dmul (4616189618054758400 : UInt64) (4467570830351532032 : UInt64))), .second] [(.int (1 : Int32)), (.int (0 : Int32))]))
            refine own_go (fun _ k => XS.icmpYes X51.here hx rfl (pc0 := 135) (pc' := 142) rfl (hb hby at_135) rfl (feq (by decide : ¬ ((0 : Int32) = (1 : Int32)))).2 (by decide) (by decide) k) ?_
            show own_Go p e below s _ _ _ (T51.setTop (mkF m 142 #[iv p1, iv p2, iv p3, iv (p3 &&& (3 : Int32)), .val (.double (4467570830351532032 : UInt64)), .second, .val (.double (FP.dadd (FP.i2d ((p1 <<< ((12 : Int32) &&& 31)) >>> ((12 : Int32) &&& 31))) (FP.dmul (4616189618054758400 : UInt64) (4467570830351532032 : UInt64)))), .second, .val (.double (FP.i2d ((p2 <<< ((12 : Int32) &&& 31)) >>> ((12 : Int32) &&& 31)))), .second, iv (1 : Int32), iv ((p1 <<< ((12 : Int32) &&& 31)) >>> ((12 : Int32) &&& 31)), iv ((p2 <<< ((12 : Int32) &&& 31)) >>> ((12 : Int32) &&& 31)), .val (.double (FP.dmul (4616189618054758400 : UInt64) (4467570830351532032 : UInt64))), .second] []))
            refine own_go (fun _ k => XS.iconst X51.here hx rfl (hb hby at_142) k) ?_
            show own_Go p e below s _ _ _ (T51.setTop (mkF m 143 #[iv p1, iv p2, iv p3, iv (p3 &&& (3 : Int32)), .val (.double (4467570830351532032 : UInt64)), .second, .val (.double (FP.dadd (FP.i2d ((p1 <<< ((12 : Int32) &&& 31)) >>> ((12 : Int32) &&& 31))) (FP.dmul (4616189618054758400 : UInt64) (4467570830351532032 : UInt64)))), .second, .val (.double (FP.i2d ((p2 <<< ((12 : Int32) &&& 31)) >>> ((12 : Int32) &&& 31)))), .second, iv (1 : Int32), iv ((p1 <<< ((12 : Int32) &&& 31)) >>> ((12 : Int32) &&& 31)), iv ((p2 <<< ((12 : Int32) &&& 31)) >>> ((12 : Int32) &&& 31)), .val (.double (FP.dmul (4616189618054758400 : UInt64) (4467570830351532032 : UInt64))), .second] [(.int (0 : Int32))]))
            refine own_retN X51 hx hlk Kc53 (t := .boolean) hret (by simp) (hb hby at_143) (by show _ ≤ 0; omega) (by show _ ≤ 0; omega) ?_
            exfalso
            have hz := (own_law2 (own_Ssh p1) (own_Ssh p2)).mp hp52
            have ar0 := rng32 p3
            have ar1 := c_mask p3 (3 : Int32) 2 (by decide) (by decide)
            have ar2 : (0 : Int32).toInt = 0 := by decide
            have ar3 := mt Int32.toInt_inj.mp hc1
            have ar4 : (1 : Int32).toInt = 1 := by decide
            have ar5 := mt Int32.toInt_inj.mp hc17
            have ar6 : (2 : Int32).toInt = 2 := by decide
            have ar7 := congrArg Int32.toInt hc49
            have ar8 := rng32 p1
            have ar9 := c_ishl p1 (12 : Int32) 12 (by decide)
            have ar10 := rng32 (p1 <<< ((12 : Int32) &&& 31))
            have ar11 := c_ishr (p1 <<< ((12 : Int32) &&& 31)) (12 : Int32) 12 (by decide)
            have ar12 := rng32 p2
            have ar13 := c_ishl p2 (12 : Int32) 12 (by decide)
            have ar14 := rng32 (p2 <<< ((12 : Int32) &&& 31))
            have ar15 := c_ishr (p2 <<< ((12 : Int32) &&& 31)) (12 : Int32) 12 (by decide)
            have ar16 := Int32.lt_iff_toInt_lt.mp hc50
            omega
          · obtain ⟨rfl, Nc57, hp55, Kc56⟩ := hQ51
            refine own_go st51 ?_
            clear st51 X0 e0
            replace N0 := Fr.app N0 Nc57
            clear Nc57
            show own_Go p e below s _ _ _ (T51.setTop (mkF m 133 #[iv p1, iv p2, iv p3, iv (p3 &&& (3 : Int32)), .val (.double (4467570830351532032 : UInt64)), .second, .val (.double (FP.dadd (FP.i2d ((p1 <<< ((12 : Int32) &&& 31)) >>> ((12 : Int32) &&& 31))) (FP.dmul (4616189618054758400 : UInt64) (4467570830351532032 : UInt64)))), .second, .val (.double (FP.i2d ((p2 <<< ((12 : Int32) &&& 31)) >>> ((12 : Int32) &&& 31)))), .second, iv (1 : Int32), iv ((p1 <<< ((12 : Int32) &&& 31)) >>> ((12 : Int32) &&& 31)), iv ((p2 <<< ((12 : Int32) &&& 31)) >>> ((12 : Int32) &&& 31)), .val (.double (FP.dmul (4616189618054758400 : UInt64) (4467570830351532032 : UInt64))), .second] [(.int (1 : Int32))]))
            refine own_go (fun _ k => XS.iload X51.here hx rfl (hb hby at_133) rfl k) ?_
            show own_Go p e below s _ _ _ (T51.setTop (mkF m 135 #[iv p1, iv p2, iv p3, iv (p3 &&& (3 : Int32)), .val (.double (4467570830351532032 : UInt64)), .second, .val (.double (FP.dadd (FP.i2d ((p1 <<< ((12 : Int32) &&& 31)) >>> ((12 : Int32) &&& 31))) (FP.dmul (4616189618054758400 : UInt64) (4467570830351532032 : UInt64)))), .second, .val (.double (FP.i2d ((p2 <<< ((12 : Int32) &&& 31)) >>> ((12 : Int32) &&& 31)))), .second, iv (1 : Int32), iv ((p1 <<< ((12 : Int32) &&& 31)) >>> ((12 : Int32) &&& 31)), iv ((p2 <<< ((12 : Int32) &&& 31)) >>> ((12 : Int32) &&& 31)), .val (.double (FP.dmul (4616189618054758400 : UInt64) (4467570830351532032 : UInt64))), .second] [(.int (1 : Int32)), (.int (1 : Int32))]))
            refine own_go (fun _ k => XS.icmpNo X51.here hx rfl (hb hby at_135) rfl (teq (by decide : (1 : Int32) = (1 : Int32))).2 k) ?_
            show own_Go p e below s _ _ _ (T51.setTop (mkF m 138 #[iv p1, iv p2, iv p3, iv (p3 &&& (3 : Int32)), .val (.double (4467570830351532032 : UInt64)), .second, .val (.double (FP.dadd (FP.i2d ((p1 <<< ((12 : Int32) &&& 31)) >>> ((12 : Int32) &&& 31))) (FP.dmul (4616189618054758400 : UInt64) (4467570830351532032 : UInt64)))), .second, .val (.double (FP.i2d ((p2 <<< ((12 : Int32) &&& 31)) >>> ((12 : Int32) &&& 31)))), .second, iv (1 : Int32), iv ((p1 <<< ((12 : Int32) &&& 31)) >>> ((12 : Int32) &&& 31)), iv ((p2 <<< ((12 : Int32) &&& 31)) >>> ((12 : Int32) &&& 31)), .val (.double (FP.dmul (4616189618054758400 : UInt64) (4467570830351532032 : UInt64))), .second] []))
            refine own_go (fun _ k => XS.iconst X51.here hx rfl (hb hby at_138) k) ?_
            show own_Go p e below s _ _ _ (T51.setTop (mkF m 139 #[iv p1, iv p2, iv p3, iv (p3 &&& (3 : Int32)), .val (.double (4467570830351532032 : UInt64)), .second, .val (.double (FP.dadd (FP.i2d ((p1 <<< ((12 : Int32) &&& 31)) >>> ((12 : Int32) &&& 31))) (FP.dmul (4616189618054758400 : UInt64) (4467570830351532032 : UInt64)))), .second, .val (.double (FP.i2d ((p2 <<< ((12 : Int32) &&& 31)) >>> ((12 : Int32) &&& 31)))), .second, iv (1 : Int32), iv ((p1 <<< ((12 : Int32) &&& 31)) >>> ((12 : Int32) &&& 31)), iv ((p2 <<< ((12 : Int32) &&& 31)) >>> ((12 : Int32) &&& 31)), .val (.double (FP.dmul (4616189618054758400 : UInt64) (4467570830351532032 : UInt64))), .second] [(.int (1 : Int32))]))
            refine own_go (fun _ k => XS.goto X51.here hx rfl (pc0 := 139) (pc' := 143) rfl (hb hby at_139) (by decide) (by decide) k) ?_
            show own_Go p e below s _ _ _ (T51.setTop (mkF m 143 #[iv p1, iv p2, iv p3, iv (p3 &&& (3 : Int32)), .val (.double (4467570830351532032 : UInt64)), .second, .val (.double (FP.dadd (FP.i2d ((p1 <<< ((12 : Int32) &&& 31)) >>> ((12 : Int32) &&& 31))) (FP.dmul (4616189618054758400 : UInt64) (4467570830351532032 : UInt64)))), .second, .val (.double (FP.i2d ((p2 <<< ((12 : Int32) &&& 31)) >>> ((12 : Int32) &&& 31)))), .second, iv (1 : Int32), iv ((p1 <<< ((12 : Int32) &&& 31)) >>> ((12 : Int32) &&& 31)), iv ((p2 <<< ((12 : Int32) &&& 31)) >>> ((12 : Int32) &&& 31)), .val (.double (FP.dmul (4616189618054758400 : UInt64) (4467570830351532032 : UInt64))), .second] [(.int (1 : Int32))]))
            refine own_retN X51 hx hlk Kc56 (t := .boolean) hret (by simp) (hb hby at_143) (by show _ ≤ 0; omega) (by show _ ≤ 0; omega) ?_
            exact ⟨rfl, N0, K0⟩
        · refine own_go (fun _ k => XS.icmpNo X0.here hx rfl (hb hby at_104) rfl (flt hc50).1 k) ?_
          show own_Go p e below s _ _ _ (T.setTop (mkF m 107 #[iv p1, iv p2, iv p3, iv (p3 &&& (3 : Int32)), .val (.double (4467570830351532032 : UInt64)), .second, .val (.double (FP.dadd (FP.i2d ((p1 <<< ((12 : Int32) &&& 31)) >>> ((12 : Int32) &&& 31))) (FP.dmul (4616189618054758400 : UInt64) (4467570830351532032 : UInt64)))), .second, .val (.double (FP.i2d ((p2 <<< ((12 : Int32) &&& 31)) >>> ((12 : Int32) &&& 31)))), .second, .unset, iv ((p1 <<< ((12 : Int32) &&& 31)) >>> ((12 : Int32) &&& 31)), iv ((p2 <<< ((12 : Int32) &&& 31)) >>> ((12 : Int32) &&& 31)), .val (.double (FP.dmul (4616189618054758400 : UInt64) (4467570830351532032 : UInt64))), .second] []))
          refine own_go (fun _ k => XS.iload X0.here hx rfl (hb hby at_107) rfl k) ?_
          show own_Go p e below s _ _ _ (T.setTop (mkF m 109 #[iv p1, iv p2, iv p3, iv (p3 &&& (3 : Int32)), .val (.double (4467570830351532032 : UInt64)), .second, .val (.double (FP.dadd (FP.i2d ((p1 <<< ((12 : Int32) &&& 31)) >>> ((12 : Int32) &&& 31))) (FP.dmul (4616189618054758400 : UInt64) (4467570830351532032 : UInt64)))), .second, .val (.double (FP.i2d ((p2 <<< ((12 : Int32) &&& 31)) >>> ((12 : Int32) &&& 31)))), .second, .unset, iv ((p1 <<< ((12 : Int32) &&& 31)) >>> ((12 : Int32) &&& 31)), iv ((p2 <<< ((12 : Int32) &&& 31)) >>> ((12 : Int32) &&& 31)), .val (.double (FP.dmul (4616189618054758400 : UInt64) (4467570830351532032 : UInt64))), .second] [(.int ((p1 <<< ((12 : Int32) &&& 31)) >>> ((12 : Int32) &&& 31)))]))
          refine own_go (fun _ k => XS.iload X0.here hx rfl (hb hby at_109) rfl k) ?_
          show own_Go p e below s _ _ _ (T.setTop (mkF m 111 #[iv p1, iv p2, iv p3, iv (p3 &&& (3 : Int32)), .val (.double (4467570830351532032 : UInt64)), .second, .val (.double (FP.dadd (FP.i2d ((p1 <<< ((12 : Int32) &&& 31)) >>> ((12 : Int32) &&& 31))) (FP.dmul (4616189618054758400 : UInt64) (4467570830351532032 : UInt64)))), .second, .val (.double (FP.i2d ((p2 <<< ((12 : Int32) &&& 31)) >>> ((12 : Int32) &&& 31)))), .second, .unset, iv ((p1 <<< ((12 : Int32) &&& 31)) >>> ((12 : Int32) &&& 31)), iv ((p2 <<< ((12 : Int32) &&& 31)) >>> ((12 : Int32) &&& 31)), .val (.double (FP.dmul (4616189618054758400 : UInt64) (4467570830351532032 : UInt64))), .second] [(.int ((p2 <<< ((12 : Int32) &&& 31)) >>> ((12 : Int32) &&& 31))), (.int ((p1 <<< ((12 : Int32) &&& 31)) >>> ((12 : Int32) &&& 31)))]))
          by_cases hc58 : ((p1 <<< ((12 : Int32) &&& 31)) >>> ((12 : Int32) &&& 31)) = ((p2 <<< ((12 : Int32) &&& 31)) >>> ((12 : Int32) &&& 31))
          · refine own_go (fun _ k => XS.icmpNo X0.here hx rfl (hb hby at_111) rfl (teq hc58).2 k) ?_
            show own_Go p e below s _ _ _ (T.setTop (mkF m 114 #[iv p1, iv p2, iv p3, iv (p3 &&& (3 : Int32)), .val (.double (4467570830351532032 : UInt64)), .second, .val (.double (FP.dadd (FP.i2d ((p1 <<< ((12 : Int32) &&& 31)) >>> ((12 : Int32) &&& 31))) (FP.dmul (4616189618054758400 : UInt64) (4467570830351532032 : UInt64)))), .second, .val (.double (FP.i2d ((p2 <<< ((12 : Int32) &&& 31)) >>> ((12 : Int32) &&& 31)))), .second, .unset, iv ((p1 <<< ((12 : Int32) &&& 31)) >>> ((12 : Int32) &&& 31)), iv ((p2 <<< ((12 : Int32) &&& 31)) >>> ((12 : Int32) &&& 31)), .val (.double (FP.dmul (4616189618054758400 : UInt64) (4467570830351532032 : UInt64))), .second] []))
            refine own_go (fun _ k => XS.iloadN X0.here hx rfl (hb hby at_114) rfl k) ?_
            show own_Go p e below s _ _ _ (T.setTop (mkF m 115 #[iv p1, iv p2, iv p3, iv (p3 &&& (3 : Int32)), .val (.double (4467570830351532032 : UInt64)), .second, .val (.double (FP.dadd (FP.i2d ((p1 <<< ((12 : Int32) &&& 31)) >>> ((12 : Int32) &&& 31))) (FP.dmul (4616189618054758400 : UInt64) (4467570830351532032 : UInt64)))), .second, .val (.double (FP.i2d ((p2 <<< ((12 : Int32) &&& 31)) >>> ((12 : Int32) &&& 31)))), .second, .unset, iv ((p1 <<< ((12 : Int32) &&& 31)) >>> ((12 : Int32) &&& 31)), iv ((p2 <<< ((12 : Int32) &&& 31)) >>> ((12 : Int32) &&& 31)), .val (.double (FP.dmul (4616189618054758400 : UInt64) (4467570830351532032 : UInt64))), .second] [(.int (p3 &&& (3 : Int32)))]))
            refine own_go (fun _ k => XS.iconst X0.here hx rfl (hb hby at_115) k) ?_
            show own_Go p e below s _ _ _ (T.setTop (mkF m 116 #[iv p1, iv p2, iv p3, iv (p3 &&& (3 : Int32)), .val (.double (4467570830351532032 : UInt64)), .second, .val (.double (FP.dadd (FP.i2d ((p1 <<< ((12 : Int32) &&& 31)) >>> ((12 : Int32) &&& 31))) (FP.dmul (4616189618054758400 : UInt64) (4467570830351532032 : UInt64)))), .second, .val (.double (FP.i2d ((p2 <<< ((12 : Int32) &&& 31)) >>> ((12 : Int32) &&& 31)))), .second, .unset, iv ((p1 <<< ((12 : Int32) &&& 31)) >>> ((12 : Int32) &&& 31)), iv ((p2 <<< ((12 : Int32) &&& 31)) >>> ((12 : Int32) &&& 31)), .val (.double (FP.dmul (4616189618054758400 : UInt64) (4467570830351532032 : UInt64))), .second] [(.int (2 : Int32)), (.int (p3 &&& (3 : Int32)))]))
            refine own_go (fun _ k => XS.icmpYes X0.here hx rfl (pc0 := 116) (pc' := 123) rfl (hb hby at_116) rfl (teq hc49).1 (by decide) (by decide) k) ?_
            show own_Go p e below s _ _ _ (T.setTop (mkF m 123 #[iv p1, iv p2, iv p3, iv (p3 &&& (3 : Int32)), .val (.double (4467570830351532032 : UInt64)), .second, .val (.double (FP.dadd (FP.i2d ((p1 <<< ((12 : Int32) &&& 31)) >>> ((12 : Int32) &&& 31))) (FP.dmul (4616189618054758400 : UInt64) (4467570830351532032 : UInt64)))), .second, .val (.double (FP.i2d ((p2 <<< ((12 : Int32) &&& 31)) >>> ((12 : Int32) &&& 31)))), .second, .unset, iv ((p1 <<< ((12 : Int32) &&& 31)) >>> ((12 : Int32) &&& 31)), iv ((p2 <<< ((12 : Int32) &&& 31)) >>> ((12 : Int32) &&& 31)), .val (.double (FP.dmul (4616189618054758400 : UInt64) (4467570830351532032 : UInt64))), .second] []))
            refine own_go (fun _ k => XS.iconst X0.here hx rfl (hb hby at_123) k) ?_
            show own_Go p e below s _ _ _ (T.setTop (mkF m 124 #[iv p1, iv p2, iv p3, iv (p3 &&& (3 : Int32)), .val (.double (4467570830351532032 : UInt64)), .second, .val (.double (FP.dadd (FP.i2d ((p1 <<< ((12 : Int32) &&& 31)) >>> ((12 : Int32) &&& 31))) (FP.dmul (4616189618054758400 : UInt64) (4467570830351532032 : UInt64)))), .second, .val (.double (FP.i2d ((p2 <<< ((12 : Int32) &&& 31)) >>> ((12 : Int32) &&& 31)))), .second, .unset, iv ((p1 <<< ((12 : Int32) &&& 31)) >>> ((12 : Int32) &&& 31)), iv ((p2 <<< ((12 : Int32) &&& 31)) >>> ((12 : Int32) &&& 31)), .val (.double (FP.dmul (4616189618054758400 : UInt64) (4467570830351532032 : UInt64))), .second] [(.int (0 : Int32))]))
            refine own_go (fun _ k => XS.istore X0.here hx rfl (hb hby at_124) rfl (l' := #[iv p1, iv p2, iv p3, iv (p3 &&& (3 : Int32)), .val (.double (4467570830351532032 : UInt64)), .second, .val (.double (FP.dadd (FP.i2d ((p1 <<< ((12 : Int32) &&& 31)) >>> ((12 : Int32) &&& 31))) (FP.dmul (4616189618054758400 : UInt64) (4467570830351532032 : UInt64)))), .second, .val (.double (FP.i2d ((p2 <<< ((12 : Int32) &&& 31)) >>> ((12 : Int32) &&& 31)))), .second, iv (0 : Int32), iv ((p1 <<< ((12 : Int32) &&& 31)) >>> ((12 : Int32) &&& 31)), iv ((p2 <<< ((12 : Int32) &&& 31)) >>> ((12 : Int32) &&& 31)), .val (.double (FP.dmul (4616189618054758400 : UInt64) (4467570830351532032 : UInt64))), .second]) rfl k) ?_
            show own_Go p e below s _ _ _ (T.setTop (mkF m 126 #[iv p1, iv p2, iv p3, iv (p3 &&& (3 : Int32)), .val (.double (4467570830351532032 : UInt64)), .second, .val (.double (FP.dadd (FP.i2d ((p1 <<< ((12 : Int32) &&& 31)) >>> ((12 : Int32) &&& 31))) (FP.dmul (4616189618054758400 : UInt64) (4467570830351532032 : UInt64)))), .second, .val (.double (FP.i2d ((p2 <<< ((12 : Int32) &&& 31)) >>> ((12 : Int32) &&& 31)))), .second, iv (0 : Int32), iv ((p1 <<< ((12 : Int32) &&& 31)) >>> ((12 : Int32) &&& 31)), iv ((p2 <<< ((12 : Int32) &&& 31)) >>> ((12 : Int32) &&& 31)), .val (.double (FP.dmul (4616189618054758400 : UInt64) (4467570830351532032 : UInt64))), .second] []))
            refine own_go (fun _ k => XS.dload X0.here hx rfl (hb hby at_126) rfl k) ?_
            show own_Go p e below s _ _ _ (T.setTop (mkF m 128 #[iv p1, iv p2, iv p3, iv (p3 &&& (3 : Int32)), .val (.double (4467570830351532032 : UInt64)), .second, .val (.double (FP.dadd (FP.i2d ((p1 <<< ((12 : Int32) &&& 31)) >>> ((12 : Int32) &&& 31))) (FP.dmul (4616189618054758400 : UInt64) (4467570830351532032 : UInt64)))), .second, .val (.double (FP.i2d ((p2 <<< ((12 : Int32) &&& 31)) >>> ((12 : Int32) &&& 31)))), .second, iv (0 : Int32), iv ((p1 <<< ((12 : Int32) &&& 31)) >>> ((12 : Int32) &&& 31)), iv ((p2 <<< ((12 : Int32) &&& 31)) >>> ((12 : Int32) &&& 31)), .val (.double (FP.dmul (4616189618054758400 : UInt64) (4467570830351532032 : UInt64))), .second] [(.double (FP.dadd (FP.i2d ((p1 <<< ((12 : Int32) &&& 31)) >>> ((12 : Int32) &&& 31))) (FP.dmul (4616189618054758400 : UInt64) (4467570830351532032 : UInt64))))]))
            refine own_go (fun _ k => XS.dload X0.here hx rfl (hb hby at_128) rfl k) ?_
            show own_Go p e below s _ _ _ (T.setTop (mkF m 130 #[iv p1, iv p2, iv p3, iv (p3 &&& (3 : Int32)), .val (.double (4467570830351532032 : UInt64)), .second, .val (.double (FP.dadd (FP.i2d ((p1 <<< ((12 : Int32) &&& 31)) >>> ((12 : Int32) &&& 31))) (FP.dmul (4616189618054758400 : UInt64) (4467570830351532032 : UInt64)))), .second, .val (.double (FP.i2d ((p2 <<< ((12 : Int32) &&& 31)) >>> ((12 : Int32) &&& 31)))), .second, iv (0 : Int32), iv ((p1 <<< ((12 : Int32) &&& 31)) >>> ((12 : Int32) &&& 31)), iv ((p2 <<< ((12 : Int32) &&& 31)) >>> ((12 : Int32) &&& 31)), .val (.double (FP.dmul (4616189618054758400 : UInt64) (4467570830351532032 : UInt64))), .second] [(.double (FP.i2d ((p2 <<< ((12 : Int32) &&& 31)) >>> ((12 : Int32) &&& 31)))), (.double (FP.dadd (FP.i2d ((p1 <<< ((12 : Int32) &&& 31)) >>> ((12 : Int32) &&& 31))) (FP.dmul (4616189618054758400 : UInt64) (4467570830351532032 : UInt64))))]))
            obtain ⟨v59, T59, L59, X59, hQ59, st59⟩ := own_callS (y := (⟨"com/example/nudo/nudo/ConflictRegions", "fits", "(DD)Z"⟩ : MethodName)) X0 hx hZ hown (ow2 hw) (ow3 hw) (ow4 hw) (ow5 hw) (rm_fits l Z a0 hw [] (FP.dadd (FP.i2d ((p1 <<< ((12 : Int32) &&& 31)) >>> ((12 : Int32) &&& 31))) (FP.dmul (4616189618054758400 : UInt64) (4467570830351532032 : UInt64))) (FP.i2d ((p2 <<< ((12 : Int32) &&& 31)) >>> ((12 : Int32) &&& 31))) h0 O0 (own_finI _)) 0 0 0 (by show _ ≤ 0; omega) (by show _ ≤ 0; omega) e0 (g := (mkF m 130 #[iv p1, iv p2, iv p3, iv (p3 &&& (3 : Int32)), .val (.double (4467570830351532032 : UInt64)), .second, .val (.double (FP.dadd (FP.i2d ((p1 <<< ((12 : Int32) &&& 31)) >>> ((12 : Int32) &&& 31))) (FP.dmul (4616189618054758400 : UInt64) (4467570830351532032 : UInt64)))), .second, .val (.double (FP.i2d ((p2 <<< ((12 : Int32) &&& 31)) >>> ((12 : Int32) &&& 31)))), .second, iv (0 : Int32), iv ((p1 <<< ((12 : Int32) &&& 31)) >>> ((12 : Int32) &&& 31)), iv ((p2 <<< ((12 : Int32) &&& 31)) >>> ((12 : Int32) &&& 31)), .val (.double (FP.dmul (4616189618054758400 : UInt64) (4467570830351532032 : UInt64))), .second] [(.double (FP.i2d ((p2 <<< ((12 : Int32) &&& 31)) >>> ((12 : Int32) &&& 31)))), (.double (FP.dadd (FP.i2d ((p1 <<< ((12 : Int32) &&& 31)) >>> ((12 : Int32) &&& 31))) (FP.dmul (4616189618054758400 : UInt64) (4467570830351532032 : UInt64))))])) rfl (by rw [hml]; rfl) [(.double (FP.dadd (FP.i2d ((p1 <<< ((12 : Int32) &&& 31)) >>> ((12 : Int32) &&& 31))) (FP.dmul (4616189618054758400 : UInt64) (4467570830351532032 : UInt64)))), (.double (FP.i2d ((p2 <<< ((12 : Int32) &&& 31)) >>> ((12 : Int32) &&& 31))))] [] (lenOf own_pd_0 rfl) rfl rfl (hb hby at_130)
            rcases hQ59 with hQ59 | hQ59
            · obtain ⟨rfl, Nc62, hp60, Kc61⟩ := hQ59
              refine own_go st59 ?_
              clear st59 X0 e0
              replace N0 := Fr.app N0 Nc62
              clear Nc62
              show own_Go p e below s _ _ _ (T59.setTop (mkF m 133 #[iv p1, iv p2, iv p3, iv (p3 &&& (3 : Int32)), .val (.double (4467570830351532032 : UInt64)), .second, .val (.double (FP.dadd (FP.i2d ((p1 <<< ((12 : Int32) &&& 31)) >>> ((12 : Int32) &&& 31))) (FP.dmul (4616189618054758400 : UInt64) (4467570830351532032 : UInt64)))), .second, .val (.double (FP.i2d ((p2 <<< ((12 : Int32) &&& 31)) >>> ((12 : Int32) &&& 31)))), .second, iv (0 : Int32), iv ((p1 <<< ((12 : Int32) &&& 31)) >>> ((12 : Int32) &&& 31)), iv ((p2 <<< ((12 : Int32) &&& 31)) >>> ((12 : Int32) &&& 31)), .val (.double (FP.dmul (4616189618054758400 : UInt64) (4467570830351532032 : UInt64))), .second] [(.int (0 : Int32))]))
              refine own_go (fun _ k => XS.iload X59.here hx rfl (hb hby at_133) rfl k) ?_
              show own_Go p e below s _ _ _ (T59.setTop (mkF m 135 #[iv p1, iv p2, iv p3, iv (p3 &&& (3 : Int32)), .val (.double (4467570830351532032 : UInt64)), .second, .val (.double (FP.dadd (FP.i2d ((p1 <<< ((12 : Int32) &&& 31)) >>> ((12 : Int32) &&& 31))) (FP.dmul (4616189618054758400 : UInt64) (4467570830351532032 : UInt64)))), .second, .val (.double (FP.i2d ((p2 <<< ((12 : Int32) &&& 31)) >>> ((12 : Int32) &&& 31)))), .second, iv (0 : Int32), iv ((p1 <<< ((12 : Int32) &&& 31)) >>> ((12 : Int32) &&& 31)), iv ((p2 <<< ((12 : Int32) &&& 31)) >>> ((12 : Int32) &&& 31)), .val (.double (FP.dmul (4616189618054758400 : UInt64) (4467570830351532032 : UInt64))), .second] [(.int (0 : Int32)), (.int (0 : Int32))]))
              refine own_go (fun _ k => XS.icmpNo X59.here hx rfl (hb hby at_135) rfl (teq (by decide : (0 : Int32) = (0 : Int32))).2 k) ?_
              show own_Go p e below s _ _ _ (T59.setTop (mkF m 138 #[iv p1, iv p2, iv p3, iv (p3 &&& (3 : Int32)), .val (.double (4467570830351532032 : UInt64)), .second, .val (.double (FP.dadd (FP.i2d ((p1 <<< ((12 : Int32) &&& 31)) >>> ((12 : Int32) &&& 31))) (FP.dmul (4616189618054758400 : UInt64) (4467570830351532032 : UInt64)))), .second, .val (.double (FP.i2d ((p2 <<< ((12 : Int32) &&& 31)) >>> ((12 : Int32) &&& 31)))), .second, iv (0 : Int32), iv ((p1 <<< ((12 : Int32) &&& 31)) >>> ((12 : Int32) &&& 31)), iv ((p2 <<< ((12 : Int32) &&& 31)) >>> ((12 : Int32) &&& 31)), .val (.double (FP.dmul (4616189618054758400 : UInt64) (4467570830351532032 : UInt64))), .second] []))
              refine own_go (fun _ k => XS.iconst X59.here hx rfl (hb hby at_138) k) ?_
              show own_Go p e below s _ _ _ (T59.setTop (mkF m 139 #[iv p1, iv p2, iv p3, iv (p3 &&& (3 : Int32)), .val (.double (4467570830351532032 : UInt64)), .second, .val (.double (FP.dadd (FP.i2d ((p1 <<< ((12 : Int32) &&& 31)) >>> ((12 : Int32) &&& 31))) (FP.dmul (4616189618054758400 : UInt64) (4467570830351532032 : UInt64)))), .second, .val (.double (FP.i2d ((p2 <<< ((12 : Int32) &&& 31)) >>> ((12 : Int32) &&& 31)))), .second, iv (0 : Int32), iv ((p1 <<< ((12 : Int32) &&& 31)) >>> ((12 : Int32) &&& 31)), iv ((p2 <<< ((12 : Int32) &&& 31)) >>> ((12 : Int32) &&& 31)), .val (.double (FP.dmul (4616189618054758400 : UInt64) (4467570830351532032 : UInt64))), .second] [(.int (1 : Int32))]))
              refine own_go (fun _ k => XS.goto X59.here hx rfl (pc0 := 139) (pc' := 143) rfl (hb hby at_139) (by decide) (by decide) k) ?_
              show own_Go p e below s _ _ _ (T59.setTop (mkF m 143 #[iv p1, iv p2, iv p3, iv (p3 &&& (3 : Int32)), .val (.double (4467570830351532032 : UInt64)), .second, .val (.double (FP.dadd (FP.i2d ((p1 <<< ((12 : Int32) &&& 31)) >>> ((12 : Int32) &&& 31))) (FP.dmul (4616189618054758400 : UInt64) (4467570830351532032 : UInt64)))), .second, .val (.double (FP.i2d ((p2 <<< ((12 : Int32) &&& 31)) >>> ((12 : Int32) &&& 31)))), .second, iv (0 : Int32), iv ((p1 <<< ((12 : Int32) &&& 31)) >>> ((12 : Int32) &&& 31)), iv ((p2 <<< ((12 : Int32) &&& 31)) >>> ((12 : Int32) &&& 31)), .val (.double (FP.dmul (4616189618054758400 : UInt64) (4467570830351532032 : UInt64))), .second] [(.int (1 : Int32))]))
              refine own_retN X59 hx hlk Kc61 (t := .boolean) hret (by simp) (hb hby at_143) (by show _ ≤ 0; omega) (by show _ ≤ 0; omega) ?_
              exact ⟨rfl, N0, K0⟩
            · obtain ⟨rfl, Nc65, hp63, Kc64⟩ := hQ59
              refine own_go st59 ?_
              clear st59 X0 e0
              replace N0 := Fr.app N0 Nc65
              clear Nc65
              show own_Go p e below s _ _ _ (T59.setTop (mkF m 133 #[iv p1, iv p2, iv p3, iv (p3 &&& (3 : Int32)), .val (.double (4467570830351532032 : UInt64)), .second, .val (.double (FP.dadd (FP.i2d ((p1 <<< ((12 : Int32) &&& 31)) >>> ((12 : Int32) &&& 31))) (FP.dmul (4616189618054758400 : UInt64) (4467570830351532032 : UInt64)))), .second, .val (.double (FP.i2d ((p2 <<< ((12 : Int32) &&& 31)) >>> ((12 : Int32) &&& 31)))), .second, iv (0 : Int32), iv ((p1 <<< ((12 : Int32) &&& 31)) >>> ((12 : Int32) &&& 31)), iv ((p2 <<< ((12 : Int32) &&& 31)) >>> ((12 : Int32) &&& 31)), .val (.double (FP.dmul (4616189618054758400 : UInt64) (4467570830351532032 : UInt64))), .second] [(.int (1 : Int32))]))
              refine own_go (fun _ k => XS.iload X59.here hx rfl (hb hby at_133) rfl k) ?_
              show own_Go p e below s _ _ _ (T59.setTop (mkF m 135 #[iv p1, iv p2, iv p3, iv (p3 &&& (3 : Int32)), .val (.double (4467570830351532032 : UInt64)), .second, .val (.double (FP.dadd (FP.i2d ((p1 <<< ((12 : Int32) &&& 31)) >>> ((12 : Int32) &&& 31))) (FP.dmul (4616189618054758400 : UInt64) (4467570830351532032 : UInt64)))), .second, .val (.double (FP.i2d ((p2 <<< ((12 : Int32) &&& 31)) >>> ((12 : Int32) &&& 31)))), .second, iv (0 : Int32), iv ((p1 <<< ((12 : Int32) &&& 31)) >>> ((12 : Int32) &&& 31)), iv ((p2 <<< ((12 : Int32) &&& 31)) >>> ((12 : Int32) &&& 31)), .val (.double (FP.dmul (4616189618054758400 : UInt64) (4467570830351532032 : UInt64))), .second] [(.int (0 : Int32)), (.int (1 : Int32))]))
              refine own_go (fun _ k => XS.icmpYes X59.here hx rfl (pc0 := 135) (pc' := 142) rfl (hb hby at_135) rfl (feq (by decide : ¬ ((1 : Int32) = (0 : Int32)))).2 (by decide) (by decide) k) ?_
              show own_Go p e below s _ _ _ (T59.setTop (mkF m 142 #[iv p1, iv p2, iv p3, iv (p3 &&& (3 : Int32)), .val (.double (4467570830351532032 : UInt64)), .second, .val (.double (FP.dadd (FP.i2d ((p1 <<< ((12 : Int32) &&& 31)) >>> ((12 : Int32) &&& 31))) (FP.dmul (4616189618054758400 : UInt64) (4467570830351532032 : UInt64)))), .second, .val (.double (FP.i2d ((p2 <<< ((12 : Int32) &&& 31)) >>> ((12 : Int32) &&& 31)))), .second, iv (0 : Int32), iv ((p1 <<< ((12 : Int32) &&& 31)) >>> ((12 : Int32) &&& 31)), iv ((p2 <<< ((12 : Int32) &&& 31)) >>> ((12 : Int32) &&& 31)), .val (.double (FP.dmul (4616189618054758400 : UInt64) (4467570830351532032 : UInt64))), .second] []))
              refine own_go (fun _ k => XS.iconst X59.here hx rfl (hb hby at_142) k) ?_
              show own_Go p e below s _ _ _ (T59.setTop (mkF m 143 #[iv p1, iv p2, iv p3, iv (p3 &&& (3 : Int32)), .val (.double (4467570830351532032 : UInt64)), .second, .val (.double (FP.dadd (FP.i2d ((p1 <<< ((12 : Int32) &&& 31)) >>> ((12 : Int32) &&& 31))) (FP.dmul (4616189618054758400 : UInt64) (4467570830351532032 : UInt64)))), .second, .val (.double (FP.i2d ((p2 <<< ((12 : Int32) &&& 31)) >>> ((12 : Int32) &&& 31)))), .second, iv (0 : Int32), iv ((p1 <<< ((12 : Int32) &&& 31)) >>> ((12 : Int32) &&& 31)), iv ((p2 <<< ((12 : Int32) &&& 31)) >>> ((12 : Int32) &&& 31)), .val (.double (FP.dmul (4616189618054758400 : UInt64) (4467570830351532032 : UInt64))), .second] [(.int (0 : Int32))]))
              refine own_retN X59 hx hlk Kc64 (t := .boolean) hret (by simp) (hb hby at_143) (by show _ ≤ 0; omega) (by show _ ≤ 0; omega) ?_
              exfalso
              have hz := mt (own_law2 (own_Ssh p1) (own_Ssh p2)).mpr hp63
              have ar0 := rng32 p3
              have ar1 := c_mask p3 (3 : Int32) 2 (by decide) (by decide)
              have ar2 : (0 : Int32).toInt = 0 := by decide
              have ar3 := mt Int32.toInt_inj.mp hc1
              have ar4 : (1 : Int32).toInt = 1 := by decide
              have ar5 := mt Int32.toInt_inj.mp hc17
              have ar6 : (2 : Int32).toInt = 2 := by decide
              have ar7 := congrArg Int32.toInt hc49
              have ar8 := rng32 p1
              have ar9 := c_ishl p1 (12 : Int32) 12 (by decide)
              have ar10 := rng32 (p1 <<< ((12 : Int32) &&& 31))
              have ar11 := c_ishr (p1 <<< ((12 : Int32) &&& 31)) (12 : Int32) 12 (by decide)
              have ar12 := rng32 p2
              have ar13 := c_ishl p2 (12 : Int32) 12 (by decide)
              have ar14 := rng32 (p2 <<< ((12 : Int32) &&& 31))
              have ar15 := c_ishr (p2 <<< ((12 : Int32) &&& 31)) (12 : Int32) 12 (by decide)
              have ar16 := mt Int32.lt_iff_toInt_lt.mpr hc50
              have ar17 := congrArg Int32.toInt hc58
              omega
          · refine own_go (fun _ k => XS.icmpYes X0.here hx rfl (pc0 := 111) (pc' := 123) rfl (hb hby at_111) rfl (feq hc58).2 (by decide) (by decide) k) ?_
            show own_Go p e below s _ _ _ (T.setTop (mkF m 123 #[iv p1, iv p2, iv p3, iv (p3 &&& (3 : Int32)), .val (.double (4467570830351532032 : UInt64)), .second, .val (.double (FP.dadd (FP.i2d ((p1 <<< ((12 : Int32) &&& 31)) >>> ((12 : Int32) &&& 31))) (FP.dmul (4616189618054758400 : UInt64) (4467570830351532032 : UInt64)))), .second, .val (.double (FP.i2d ((p2 <<< ((12 : Int32) &&& 31)) >>> ((12 : Int32) &&& 31)))), .second, .unset, iv ((p1 <<< ((12 : Int32) &&& 31)) >>> ((12 : Int32) &&& 31)), iv ((p2 <<< ((12 : Int32) &&& 31)) >>> ((12 : Int32) &&& 31)), .val (.double (FP.dmul (4616189618054758400 : UInt64) (4467570830351532032 : UInt64))), .second] []))
            refine own_go (fun _ k => XS.iconst X0.here hx rfl (hb hby at_123) k) ?_
            show own_Go p e below s _ _ _ (T.setTop (mkF m 124 #[iv p1, iv p2, iv p3, iv (p3 &&& (3 : Int32)), .val (.double (4467570830351532032 : UInt64)), .second, .val (.double (FP.dadd (FP.i2d ((p1 <<< ((12 : Int32) &&& 31)) >>> ((12 : Int32) &&& 31))) (FP.dmul (4616189618054758400 : UInt64) (4467570830351532032 : UInt64)))), .second, .val (.double (FP.i2d ((p2 <<< ((12 : Int32) &&& 31)) >>> ((12 : Int32) &&& 31)))), .second, .unset, iv ((p1 <<< ((12 : Int32) &&& 31)) >>> ((12 : Int32) &&& 31)), iv ((p2 <<< ((12 : Int32) &&& 31)) >>> ((12 : Int32) &&& 31)), .val (.double (FP.dmul (4616189618054758400 : UInt64) (4467570830351532032 : UInt64))), .second] [(.int (0 : Int32))]))
            refine own_go (fun _ k => XS.istore X0.here hx rfl (hb hby at_124) rfl (l' := #[iv p1, iv p2, iv p3, iv (p3 &&& (3 : Int32)), .val (.double (4467570830351532032 : UInt64)), .second, .val (.double (FP.dadd (FP.i2d ((p1 <<< ((12 : Int32) &&& 31)) >>> ((12 : Int32) &&& 31))) (FP.dmul (4616189618054758400 : UInt64) (4467570830351532032 : UInt64)))), .second, .val (.double (FP.i2d ((p2 <<< ((12 : Int32) &&& 31)) >>> ((12 : Int32) &&& 31)))), .second, iv (0 : Int32), iv ((p1 <<< ((12 : Int32) &&& 31)) >>> ((12 : Int32) &&& 31)), iv ((p2 <<< ((12 : Int32) &&& 31)) >>> ((12 : Int32) &&& 31)), .val (.double (FP.dmul (4616189618054758400 : UInt64) (4467570830351532032 : UInt64))), .second]) rfl k) ?_
            show own_Go p e below s _ _ _ (T.setTop (mkF m 126 #[iv p1, iv p2, iv p3, iv (p3 &&& (3 : Int32)), .val (.double (4467570830351532032 : UInt64)), .second, .val (.double (FP.dadd (FP.i2d ((p1 <<< ((12 : Int32) &&& 31)) >>> ((12 : Int32) &&& 31))) (FP.dmul (4616189618054758400 : UInt64) (4467570830351532032 : UInt64)))), .second, .val (.double (FP.i2d ((p2 <<< ((12 : Int32) &&& 31)) >>> ((12 : Int32) &&& 31)))), .second, iv (0 : Int32), iv ((p1 <<< ((12 : Int32) &&& 31)) >>> ((12 : Int32) &&& 31)), iv ((p2 <<< ((12 : Int32) &&& 31)) >>> ((12 : Int32) &&& 31)), .val (.double (FP.dmul (4616189618054758400 : UInt64) (4467570830351532032 : UInt64))), .second] []))
            refine own_go (fun _ k => XS.dload X0.here hx rfl (hb hby at_126) rfl k) ?_
            show own_Go p e below s _ _ _ (T.setTop (mkF m 128 #[iv p1, iv p2, iv p3, iv (p3 &&& (3 : Int32)), .val (.double (4467570830351532032 : UInt64)), .second, .val (.double (FP.dadd (FP.i2d ((p1 <<< ((12 : Int32) &&& 31)) >>> ((12 : Int32) &&& 31))) (FP.dmul (4616189618054758400 : UInt64) (4467570830351532032 : UInt64)))), .second, .val (.double (FP.i2d ((p2 <<< ((12 : Int32) &&& 31)) >>> ((12 : Int32) &&& 31)))), .second, iv (0 : Int32), iv ((p1 <<< ((12 : Int32) &&& 31)) >>> ((12 : Int32) &&& 31)), iv ((p2 <<< ((12 : Int32) &&& 31)) >>> ((12 : Int32) &&& 31)), .val (.double (FP.dmul (4616189618054758400 : UInt64) (4467570830351532032 : UInt64))), .second] [(.double (FP.dadd (FP.i2d ((p1 <<< ((12 : Int32) &&& 31)) >>> ((12 : Int32) &&& 31))) (FP.dmul (4616189618054758400 : UInt64) (4467570830351532032 : UInt64))))]))
            refine own_go (fun _ k => XS.dload X0.here hx rfl (hb hby at_128) rfl k) ?_
            show own_Go p e below s _ _ _ (T.setTop (mkF m 130 #[iv p1, iv p2, iv p3, iv (p3 &&& (3 : Int32)), .val (.double (4467570830351532032 : UInt64)), .second, .val (.double (FP.dadd (FP.i2d ((p1 <<< ((12 : Int32) &&& 31)) >>> ((12 : Int32) &&& 31))) (FP.dmul (4616189618054758400 : UInt64) (4467570830351532032 : UInt64)))), .second, .val (.double (FP.i2d ((p2 <<< ((12 : Int32) &&& 31)) >>> ((12 : Int32) &&& 31)))), .second, iv (0 : Int32), iv ((p1 <<< ((12 : Int32) &&& 31)) >>> ((12 : Int32) &&& 31)), iv ((p2 <<< ((12 : Int32) &&& 31)) >>> ((12 : Int32) &&& 31)), .val (.double (FP.dmul (4616189618054758400 : UInt64) (4467570830351532032 : UInt64))), .second] [(.double (FP.i2d ((p2 <<< ((12 : Int32) &&& 31)) >>> ((12 : Int32) &&& 31)))), (.double (FP.dadd (FP.i2d ((p1 <<< ((12 : Int32) &&& 31)) >>> ((12 : Int32) &&& 31))) (FP.dmul (4616189618054758400 : UInt64) (4467570830351532032 : UInt64))))]))
            obtain ⟨v66, T66, L66, X66, hQ66, st66⟩ := own_callS (y := (⟨"com/example/nudo/nudo/ConflictRegions", "fits", "(DD)Z"⟩ : MethodName)) X0 hx hZ hown (ow2 hw) (ow3 hw) (ow4 hw) (ow5 hw) (rm_fits l Z a0 hw [] (FP.dadd (FP.i2d ((p1 <<< ((12 : Int32) &&& 31)) >>> ((12 : Int32) &&& 31))) (FP.dmul (4616189618054758400 : UInt64) (4467570830351532032 : UInt64))) (FP.i2d ((p2 <<< ((12 : Int32) &&& 31)) >>> ((12 : Int32) &&& 31))) h0 O0 (own_finI _)) 0 0 0 (by show _ ≤ 0; omega) (by show _ ≤ 0; omega) e0 (g := (mkF m 130 #[iv p1, iv p2, iv p3, iv (p3 &&& (3 : Int32)), .val (.double (4467570830351532032 : UInt64)), .second, .val (.double (FP.dadd (FP.i2d ((p1 <<< ((12 : Int32) &&& 31)) >>> ((12 : Int32) &&& 31))) (FP.dmul (4616189618054758400 : UInt64) (4467570830351532032 : UInt64)))), .second, .val (.double (FP.i2d ((p2 <<< ((12 : Int32) &&& 31)) >>> ((12 : Int32) &&& 31)))), .second, iv (0 : Int32), iv ((p1 <<< ((12 : Int32) &&& 31)) >>> ((12 : Int32) &&& 31)), iv ((p2 <<< ((12 : Int32) &&& 31)) >>> ((12 : Int32) &&& 31)), .val (.double (FP.dmul (4616189618054758400 : UInt64) (4467570830351532032 : UInt64))), .second] [(.double (FP.i2d ((p2 <<< ((12 : Int32) &&& 31)) >>> ((12 : Int32) &&& 31)))), (.double (FP.dadd (FP.i2d ((p1 <<< ((12 : Int32) &&& 31)) >>> ((12 : Int32) &&& 31))) (FP.dmul (4616189618054758400 : UInt64) (4467570830351532032 : UInt64))))])) rfl (by rw [hml]; rfl) [(.double (FP.dadd (FP.i2d ((p1 <<< ((12 : Int32) &&& 31)) >>> ((12 : Int32) &&& 31))) (FP.dmul (4616189618054758400 : UInt64) (4467570830351532032 : UInt64)))), (.double (FP.i2d ((p2 <<< ((12 : Int32) &&& 31)) >>> ((12 : Int32) &&& 31))))] [] (lenOf own_pd_0 rfl) rfl rfl (hb hby at_130)
            rcases hQ66 with hQ66 | hQ66
            · obtain ⟨rfl, Nc69, hp67, Kc68⟩ := hQ66
              refine own_go st66 ?_
              clear st66 X0 e0
              replace N0 := Fr.app N0 Nc69
              clear Nc69
              show own_Go p e below s _ _ _ (T66.setTop (mkF m 133 #[iv p1, iv p2, iv p3, iv (p3 &&& (3 : Int32)), .val (.double (4467570830351532032 : UInt64)), .second, .val (.double (FP.dadd (FP.i2d ((p1 <<< ((12 : Int32) &&& 31)) >>> ((12 : Int32) &&& 31))) (FP.dmul (4616189618054758400 : UInt64) (4467570830351532032 : UInt64)))), .second, .val (.double (FP.i2d ((p2 <<< ((12 : Int32) &&& 31)) >>> ((12 : Int32) &&& 31)))), .second, iv (0 : Int32), iv ((p1 <<< ((12 : Int32) &&& 31)) >>> ((12 : Int32) &&& 31)), iv ((p2 <<< ((12 : Int32) &&& 31)) >>> ((12 : Int32) &&& 31)), .val (.double (FP.dmul (4616189618054758400 : UInt64) (4467570830351532032 : UInt64))), .second] [(.int (0 : Int32))]))
              refine own_go (fun _ k => XS.iload X66.here hx rfl (hb hby at_133) rfl k) ?_
              show own_Go p e below s _ _ _ (T66.setTop (mkF m 135 #[iv p1, iv p2, iv p3, iv (p3 &&& (3 : Int32)), .val (.double (4467570830351532032 : UInt64)), .second, .val (.double (FP.dadd (FP.i2d ((p1 <<< ((12 : Int32) &&& 31)) >>> ((12 : Int32) &&& 31))) (FP.dmul (4616189618054758400 : UInt64) (4467570830351532032 : UInt64)))), .second, .val (.double (FP.i2d ((p2 <<< ((12 : Int32) &&& 31)) >>> ((12 : Int32) &&& 31)))), .second, iv (0 : Int32), iv ((p1 <<< ((12 : Int32) &&& 31)) >>> ((12 : Int32) &&& 31)), iv ((p2 <<< ((12 : Int32) &&& 31)) >>> ((12 : Int32) &&& 31)), .val (.double (FP.dmul (4616189618054758400 : UInt64) (4467570830351532032 : UInt64))), .second] [(.int (0 : Int32)), (.int (0 : Int32))]))
              refine own_go (fun _ k => XS.icmpNo X66.here hx rfl (hb hby at_135) rfl (teq (by decide : (0 : Int32) = (0 : Int32))).2 k) ?_
              show own_Go p e below s _ _ _ (T66.setTop (mkF m 138 #[iv p1, iv p2, iv p3, iv (p3 &&& (3 : Int32)), .val (.double (4467570830351532032 : UInt64)), .second, .val (.double (FP.dadd (FP.i2d ((p1 <<< ((12 : Int32) &&& 31)) >>> ((12 : Int32) &&& 31))) (FP.dmul (4616189618054758400 : UInt64) (4467570830351532032 : UInt64)))), .second, .val (.double (FP.i2d ((p2 <<< ((12 : Int32) &&& 31)) >>> ((12 : Int32) &&& 31)))), .second, iv (0 : Int32), iv ((p1 <<< ((12 : Int32) &&& 31)) >>> ((12 : Int32) &&& 31)), iv ((p2 <<< ((12 : Int32) &&& 31)) >>> ((12 : Int32) &&& 31)), .val (.double (FP.dmul (4616189618054758400 : UInt64) (4467570830351532032 : UInt64))), .second] []))
              refine own_go (fun _ k => XS.iconst X66.here hx rfl (hb hby at_138) k) ?_
              show own_Go p e below s _ _ _ (T66.setTop (mkF m 139 #[iv p1, iv p2, iv p3, iv (p3 &&& (3 : Int32)), .val (.double (4467570830351532032 : UInt64)), .second, .val (.double (FP.dadd (FP.i2d ((p1 <<< ((12 : Int32) &&& 31)) >>> ((12 : Int32) &&& 31))) (FP.dmul (4616189618054758400 : UInt64) (4467570830351532032 : UInt64)))), .second, .val (.double (FP.i2d ((p2 <<< ((12 : Int32) &&& 31)) >>> ((12 : Int32) &&& 31)))), .second, iv (0 : Int32), iv ((p1 <<< ((12 : Int32) &&& 31)) >>> ((12 : Int32) &&& 31)), iv ((p2 <<< ((12 : Int32) &&& 31)) >>> ((12 : Int32) &&& 31)), .val (.double (FP.dmul (4616189618054758400 : UInt64) (4467570830351532032 : UInt64))), .second] [(.int (1 : Int32))]))
              refine own_go (fun _ k => XS.goto X66.here hx rfl (pc0 := 139) (pc' := 143) rfl (hb hby at_139) (by decide) (by decide) k) ?_
              show own_Go p e below s _ _ _ (T66.setTop (mkF m 143 #[iv p1, iv p2, iv p3, iv (p3 &&& (3 : Int32)), .val (.double (4467570830351532032 : UInt64)), .second, .val (.double (FP.dadd (FP.i2d ((p1 <<< ((12 : Int32) &&& 31)) >>> ((12 : Int32) &&& 31))) (FP.dmul (4616189618054758400 : UInt64) (4467570830351532032 : UInt64)))), .second, .val (.double (FP.i2d ((p2 <<< ((12 : Int32) &&& 31)) >>> ((12 : Int32) &&& 31)))), .second, iv (0 : Int32), iv ((p1 <<< ((12 : Int32) &&& 31)) >>> ((12 : Int32) &&& 31)), iv ((p2 <<< ((12 : Int32) &&& 31)) >>> ((12 : Int32) &&& 31)), .val (.double (FP.dmul (4616189618054758400 : UInt64) (4467570830351532032 : UInt64))), .second] [(.int (1 : Int32))]))
              refine own_retN X66 hx hlk Kc68 (t := .boolean) hret (by simp) (hb hby at_143) (by show _ ≤ 0; omega) (by show _ ≤ 0; omega) ?_
              exact ⟨rfl, N0, K0⟩
            · obtain ⟨rfl, Nc72, hp70, Kc71⟩ := hQ66
              refine own_go st66 ?_
              clear st66 X0 e0
              replace N0 := Fr.app N0 Nc72
              clear Nc72
              show own_Go p e below s _ _ _ (T66.setTop (mkF m 133 #[iv p1, iv p2, iv p3, iv (p3 &&& (3 : Int32)), .val (.double (4467570830351532032 : UInt64)), .second, .val (.double (FP.dadd (FP.i2d ((p1 <<< ((12 : Int32) &&& 31)) >>> ((12 : Int32) &&& 31))) (FP.dmul (4616189618054758400 : UInt64) (4467570830351532032 : UInt64)))), .second, .val (.double (FP.i2d ((p2 <<< ((12 : Int32) &&& 31)) >>> ((12 : Int32) &&& 31)))), .second, iv (0 : Int32), iv ((p1 <<< ((12 : Int32) &&& 31)) >>> ((12 : Int32) &&& 31)), iv ((p2 <<< ((12 : Int32) &&& 31)) >>> ((12 : Int32) &&& 31)), .val (.double (FP.dmul (4616189618054758400 : UInt64) (4467570830351532032 : UInt64))), .second] [(.int (1 : Int32))]))
              refine own_go (fun _ k => XS.iload X66.here hx rfl (hb hby at_133) rfl k) ?_
              show own_Go p e below s _ _ _ (T66.setTop (mkF m 135 #[iv p1, iv p2, iv p3, iv (p3 &&& (3 : Int32)), .val (.double (4467570830351532032 : UInt64)), .second, .val (.double (FP.dadd (FP.i2d ((p1 <<< ((12 : Int32) &&& 31)) >>> ((12 : Int32) &&& 31))) (FP.dmul (4616189618054758400 : UInt64) (4467570830351532032 : UInt64)))), .second, .val (.double (FP.i2d ((p2 <<< ((12 : Int32) &&& 31)) >>> ((12 : Int32) &&& 31)))), .second, iv (0 : Int32), iv ((p1 <<< ((12 : Int32) &&& 31)) >>> ((12 : Int32) &&& 31)), iv ((p2 <<< ((12 : Int32) &&& 31)) >>> ((12 : Int32) &&& 31)), .val (.double (FP.dmul (4616189618054758400 : UInt64) (4467570830351532032 : UInt64))), .second] [(.int (0 : Int32)), (.int (1 : Int32))]))
              refine own_go (fun _ k => XS.icmpYes X66.here hx rfl (pc0 := 135) (pc' := 142) rfl (hb hby at_135) rfl (feq (by decide : ¬ ((1 : Int32) = (0 : Int32)))).2 (by decide) (by decide) k) ?_
              show own_Go p e below s _ _ _ (T66.setTop (mkF m 142 #[iv p1, iv p2, iv p3, iv (p3 &&& (3 : Int32)), .val (.double (4467570830351532032 : UInt64)), .second, .val (.double (FP.dadd (FP.i2d ((p1 <<< ((12 : Int32) &&& 31)) >>> ((12 : Int32) &&& 31))) (FP.dmul (4616189618054758400 : UInt64) (4467570830351532032 : UInt64)))), .second, .val (.double (FP.i2d ((p2 <<< ((12 : Int32) &&& 31)) >>> ((12 : Int32) &&& 31)))), .second, iv (0 : Int32), iv ((p1 <<< ((12 : Int32) &&& 31)) >>> ((12 : Int32) &&& 31)), iv ((p2 <<< ((12 : Int32) &&& 31)) >>> ((12 : Int32) &&& 31)), .val (.double (FP.dmul (4616189618054758400 : UInt64) (4467570830351532032 : UInt64))), .second] []))
              refine own_go (fun _ k => XS.iconst X66.here hx rfl (hb hby at_142) k) ?_
              show own_Go p e below s _ _ _ (T66.setTop (mkF m 143 #[iv p1, iv p2, iv p3, iv (p3 &&& (3 : Int32)), .val (.double (4467570830351532032 : UInt64)), .second, .val (.double (FP.dadd (FP.i2d ((p1 <<< ((12 : Int32) &&& 31)) >>> ((12 : Int32) &&& 31))) (FP.dmul (4616189618054758400 : UInt64) (4467570830351532032 : UInt64)))), .second, .val (.double (FP.i2d ((p2 <<< ((12 : Int32) &&& 31)) >>> ((12 : Int32) &&& 31)))), .second, iv (0 : Int32), iv ((p1 <<< ((12 : Int32) &&& 31)) >>> ((12 : Int32) &&& 31)), iv ((p2 <<< ((12 : Int32) &&& 31)) >>> ((12 : Int32) &&& 31)), .val (.double (FP.dmul (4616189618054758400 : UInt64) (4467570830351532032 : UInt64))), .second] [(.int (0 : Int32))]))
              refine own_retN X66 hx hlk Kc71 (t := .boolean) hret (by simp) (hb hby at_143) (by show _ ≤ 0; omega) (by show _ ≤ 0; omega) ?_
              exfalso
              have hz := mt (own_law2 (own_Ssh p1) (own_Ssh p2)).mpr hp70
              have ar0 := rng32 p3
              have ar1 := c_mask p3 (3 : Int32) 2 (by decide) (by decide)
              have ar2 : (0 : Int32).toInt = 0 := by decide
              have ar3 := mt Int32.toInt_inj.mp hc1
              have ar4 : (1 : Int32).toInt = 1 := by decide
              have ar5 := mt Int32.toInt_inj.mp hc17
              have ar6 : (2 : Int32).toInt = 2 := by decide
              have ar7 := congrArg Int32.toInt hc49
              have ar8 := rng32 p1
              have ar9 := c_ishl p1 (12 : Int32) 12 (by decide)
              have ar10 := rng32 (p1 <<< ((12 : Int32) &&& 31))
              have ar11 := c_ishr (p1 <<< ((12 : Int32) &&& 31)) (12 : Int32) 12 (by decide)
              have ar12 := rng32 p2
              have ar13 := c_ishl p2 (12 : Int32) 12 (by decide)
              have ar14 := rng32 (p2 <<< ((12 : Int32) &&& 31))
              have ar15 := c_ishr (p2 <<< ((12 : Int32) &&& 31)) (12 : Int32) 12 (by decide)
              have ar16 := mt Int32.lt_iff_toInt_lt.mpr hc50
              have ar17 := mt Int32.toInt_inj.mp hc58
              omega
      · refine own_go (fun _ k => XS.icmpYes X0.here hx rfl (pc0 := 68) (pc' := 82) rfl (hb hby at_68) rfl (feq hc49).2 (by decide) (by decide) k) ?_
        show own_Go p e below s _ _ _ (T.setTop (mkF m 82 #[iv p1, iv p2, iv p3, iv (p3 &&& (3 : Int32)), .val (.double (4467570830351532032 : UInt64)), .second, .unset, .unset, .unset, .unset, .unset, iv ((p1 <<< ((12 : Int32) &&& 31)) >>> ((12 : Int32) &&& 31)), iv ((p2 <<< ((12 : Int32) &&& 31)) >>> ((12 : Int32) &&& 31)), .unset, .unset] []))
        refine own_go (fun _ k => XS.dload X0.here hx rfl (hb hby at_82) rfl k) ?_
        show own_Go p e below s _ _ _ (T.setTop (mkF m 84 #[iv p1, iv p2, iv p3, iv (p3 &&& (3 : Int32)), .val (.double (4467570830351532032 : UInt64)), .second, .unset, .unset, .unset, .unset, .unset, iv ((p1 <<< ((12 : Int32) &&& 31)) >>> ((12 : Int32) &&& 31)), iv ((p2 <<< ((12 : Int32) &&& 31)) >>> ((12 : Int32) &&& 31)), .unset, .unset] [(.double (4467570830351532032 : UInt64))]))
        refine own_go (fun _ k => XS.dnegS X0.here hx rfl (hb hby at_84) rfl rfl k) ?_
        show own_Go p e below s _ _ _ (T.setTop (mkF m 85 #[iv p1, iv p2, iv p3, iv (p3 &&& (3 : Int32)), .val (.double (4467570830351532032 : UInt64)), .second, .unset, .unset, .unset, .unset, .unset, iv ((p1 <<< ((12 : Int32) &&& 31)) >>> ((12 : Int32) &&& 31)), iv ((p2 <<< ((12 : Int32) &&& 31)) >>> ((12 : Int32) &&& 31)), .unset, .unset] [(.double (FP.dneg (4467570830351532032 : UInt64)))]))
        refine own_go (fun _ k => XS.dstore X0.here hx rfl (hb hby at_85) rfl (l' := #[iv p1, iv p2, iv p3, iv (p3 &&& (3 : Int32)), .val (.double (4467570830351532032 : UInt64)), .second, .unset, .unset, .unset, .unset, .unset, iv ((p1 <<< ((12 : Int32) &&& 31)) >>> ((12 : Int32) &&& 31)), iv ((p2 <<< ((12 : Int32) &&& 31)) >>> ((12 : Int32) &&& 31)), .val (.double (FP.dneg (4467570830351532032 : UInt64))), .second]) rfl k) ?_
        show own_Go p e below s _ _ _ (T.setTop (mkF m 87 #[iv p1, iv p2, iv p3, iv (p3 &&& (3 : Int32)), .val (.double (4467570830351532032 : UInt64)), .second, .unset, .unset, .unset, .unset, .unset, iv ((p1 <<< ((12 : Int32) &&& 31)) >>> ((12 : Int32) &&& 31)), iv ((p2 <<< ((12 : Int32) &&& 31)) >>> ((12 : Int32) &&& 31)), .val (.double (FP.dneg (4467570830351532032 : UInt64))), .second] []))
        refine own_go (fun _ k => XS.iload X0.here hx rfl (hb hby at_87) rfl k) ?_
        show own_Go p e below s _ _ _ (T.setTop (mkF m 89 #[iv p1, iv p2, iv p3, iv (p3 &&& (3 : Int32)), .val (.double (4467570830351532032 : UInt64)), .second, .unset, .unset, .unset, .unset, .unset, iv ((p1 <<< ((12 : Int32) &&& 31)) >>> ((12 : Int32) &&& 31)), iv ((p2 <<< ((12 : Int32) &&& 31)) >>> ((12 : Int32) &&& 31)), .val (.double (FP.dneg (4467570830351532032 : UInt64))), .second] [(.int ((p1 <<< ((12 : Int32) &&& 31)) >>> ((12 : Int32) &&& 31)))]))
        refine own_go (fun _ k => XS.i2dS X0.here hx rfl (hb hby at_89) rfl rfl k) ?_
        show own_Go p e below s _ _ _ (T.setTop (mkF m 90 #[iv p1, iv p2, iv p3, iv (p3 &&& (3 : Int32)), .val (.double (4467570830351532032 : UInt64)), .second, .unset, .unset, .unset, .unset, .unset, iv ((p1 <<< ((12 : Int32) &&& 31)) >>> ((12 : Int32) &&& 31)), iv ((p2 <<< ((12 : Int32) &&& 31)) >>> ((12 : Int32) &&& 31)), .val (.double (FP.dneg (4467570830351532032 : UInt64))), .second] [(.double (FP.i2d ((p1 <<< ((12 : Int32) &&& 31)) >>> ((12 : Int32) &&& 31))))]))
        refine own_go (fun _ k => XS.dload X0.here hx rfl (hb hby at_90) rfl k) ?_
        show own_Go p e below s _ _ _ (T.setTop (mkF m 92 #[iv p1, iv p2, iv p3, iv (p3 &&& (3 : Int32)), .val (.double (4467570830351532032 : UInt64)), .second, .unset, .unset, .unset, .unset, .unset, iv ((p1 <<< ((12 : Int32) &&& 31)) >>> ((12 : Int32) &&& 31)), iv ((p2 <<< ((12 : Int32) &&& 31)) >>> ((12 : Int32) &&& 31)), .val (.double (FP.dneg (4467570830351532032 : UInt64))), .second] [(.double (FP.dneg (4467570830351532032 : UInt64))), (.double (FP.i2d ((p1 <<< ((12 : Int32) &&& 31)) >>> ((12 : Int32) &&& 31))))]))
        refine own_go (fun _ k => XS.daddS X0.here hx rfl (hb hby at_92) rfl (own_nn64 (own_nna (own_finI _) own_fin3)) rfl k) ?_
        show own_Go p e below s _ _ _ (T.setTop (mkF m 93 #[iv p1, iv p2, iv p3, iv (p3 &&& (3 : Int32)), .val (.double (4467570830351532032 : UInt64)), .second, .unset, .unset, .unset, .unset, .unset, iv ((p1 <<< ((12 : Int32) &&& 31)) >>> ((12 : Int32) &&& 31)), iv ((p2 <<< ((12 : Int32) &&& 31)) >>> ((12 : Int32) &&& 31)), .val (.double (FP.dneg (4467570830351532032 : UInt64))), .second] [(.double (FP.dadd (FP.i2d ((p1 <<< ((12 : Int32) &&& 31)) >>> ((12 : Int32) &&& 31))) (FP.dneg (4467570830351532032 : UInt64))))]))
        refine own_go (fun _ k => XS.dstore X0.here hx rfl (hb hby at_93) rfl (l' := #[iv p1, iv p2, iv p3, iv (p3 &&& (3 : Int32)), .val (.double (4467570830351532032 : UInt64)), .second, .val (.double (FP.dadd (FP.i2d ((p1 <<< ((12 : Int32) &&& 31)) >>> ((12 : Int32) &&& 31))) (FP.dneg (4467570830351532032 : UInt64)))), .second, .unset, .unset, .unset, iv ((p1 <<< ((12 : Int32) &&& 31)) >>> ((12 : Int32) &&& 31)), iv ((p2 <<< ((12 : Int32) &&& 31)) >>> ((12 : Int32) &&& 31)), .val (.double (FP.dneg (4467570830351532032 : UInt64))), .second]) rfl k) ?_
        show own_Go p e below s _ _ _ (T.setTop (mkF m 95 #[iv p1, iv p2, iv p3, iv (p3 &&& (3 : Int32)), .val (.double (4467570830351532032 : UInt64)), .second, .val (.double (FP.dadd (FP.i2d ((p1 <<< ((12 : Int32) &&& 31)) >>> ((12 : Int32) &&& 31))) (FP.dneg (4467570830351532032 : UInt64)))), .second, .unset, .unset, .unset, iv ((p1 <<< ((12 : Int32) &&& 31)) >>> ((12 : Int32) &&& 31)), iv ((p2 <<< ((12 : Int32) &&& 31)) >>> ((12 : Int32) &&& 31)), .val (.double (FP.dneg (4467570830351532032 : UInt64))), .second] []))
        refine own_go (fun _ k => XS.iload X0.here hx rfl (hb hby at_95) rfl k) ?_
        show own_Go p e below s _ _ _ (T.setTop (mkF m 97 #[iv p1, iv p2, iv p3, iv (p3 &&& (3 : Int32)), .val (.double (4467570830351532032 : UInt64)), .second, .val (.double (FP.dadd (FP.i2d ((p1 <<< ((12 : Int32) &&& 31)) >>> ((12 : Int32) &&& 31))) (FP.dneg (4467570830351532032 : UInt64)))), .second, .unset, .unset, .unset, iv ((p1 <<< ((12 : Int32) &&& 31)) >>> ((12 : Int32) &&& 31)), iv ((p2 <<< ((12 : Int32) &&& 31)) >>> ((12 : Int32) &&& 31)), .val (.double (FP.dneg (4467570830351532032 : UInt64))), .second] [(.int ((p2 <<< ((12 : Int32) &&& 31)) >>> ((12 : Int32) &&& 31)))]))
        refine own_go (fun _ k => XS.i2dS X0.here hx rfl (hb hby at_97) rfl rfl k) ?_
        show own_Go p e below s _ _ _ (T.setTop (mkF m 98 #[iv p1, iv p2, iv p3, iv (p3 &&& (3 : Int32)), .val (.double (4467570830351532032 : UInt64)), .second, .val (.double (FP.dadd (FP.i2d ((p1 <<< ((12 : Int32) &&& 31)) >>> ((12 : Int32) &&& 31))) (FP.dneg (4467570830351532032 : UInt64)))), .second, .unset, .unset, .unset, iv ((p1 <<< ((12 : Int32) &&& 31)) >>> ((12 : Int32) &&& 31)), iv ((p2 <<< ((12 : Int32) &&& 31)) >>> ((12 : Int32) &&& 31)), .val (.double (FP.dneg (4467570830351532032 : UInt64))), .second] [(.double (FP.i2d ((p2 <<< ((12 : Int32) &&& 31)) >>> ((12 : Int32) &&& 31))))]))
        refine own_go (fun _ k => XS.dstore X0.here hx rfl (hb hby at_98) rfl (l' := #[iv p1, iv p2, iv p3, iv (p3 &&& (3 : Int32)), .val (.double (4467570830351532032 : UInt64)), .second, .val (.double (FP.dadd (FP.i2d ((p1 <<< ((12 : Int32) &&& 31)) >>> ((12 : Int32) &&& 31))) (FP.dneg (4467570830351532032 : UInt64)))), .second, .val (.double (FP.i2d ((p2 <<< ((12 : Int32) &&& 31)) >>> ((12 : Int32) &&& 31)))), .second, .unset, iv ((p1 <<< ((12 : Int32) &&& 31)) >>> ((12 : Int32) &&& 31)), iv ((p2 <<< ((12 : Int32) &&& 31)) >>> ((12 : Int32) &&& 31)), .val (.double (FP.dneg (4467570830351532032 : UInt64))), .second]) rfl k) ?_
        show own_Go p e below s _ _ _ (T.setTop (mkF m 100 #[iv p1, iv p2, iv p3, iv (p3 &&& (3 : Int32)), .val (.double (4467570830351532032 : UInt64)), .second, .val (.double (FP.dadd (FP.i2d ((p1 <<< ((12 : Int32) &&& 31)) >>> ((12 : Int32) &&& 31))) (FP.dneg (4467570830351532032 : UInt64)))), .second, .val (.double (FP.i2d ((p2 <<< ((12 : Int32) &&& 31)) >>> ((12 : Int32) &&& 31)))), .second, .unset, iv ((p1 <<< ((12 : Int32) &&& 31)) >>> ((12 : Int32) &&& 31)), iv ((p2 <<< ((12 : Int32) &&& 31)) >>> ((12 : Int32) &&& 31)), .val (.double (FP.dneg (4467570830351532032 : UInt64))), .second] []))
        refine own_go (fun _ k => XS.iload X0.here hx rfl (hb hby at_100) rfl k) ?_
        show own_Go p e below s _ _ _ (T.setTop (mkF m 102 #[iv p1, iv p2, iv p3, iv (p3 &&& (3 : Int32)), .val (.double (4467570830351532032 : UInt64)), .second, .val (.double (FP.dadd (FP.i2d ((p1 <<< ((12 : Int32) &&& 31)) >>> ((12 : Int32) &&& 31))) (FP.dneg (4467570830351532032 : UInt64)))), .second, .val (.double (FP.i2d ((p2 <<< ((12 : Int32) &&& 31)) >>> ((12 : Int32) &&& 31)))), .second, .unset, iv ((p1 <<< ((12 : Int32) &&& 31)) >>> ((12 : Int32) &&& 31)), iv ((p2 <<< ((12 : Int32) &&& 31)) >>> ((12 : Int32) &&& 31)), .val (.double (FP.dneg (4467570830351532032 : UInt64))), .second] [(.int ((p1 <<< ((12 : Int32) &&& 31)) >>> ((12 : Int32) &&& 31)))]))
        refine own_go (fun _ k => XS.iload X0.here hx rfl (hb hby at_102) rfl k) ?_
        show own_Go p e below s _ _ _ (T.setTop (mkF m 104 #[iv p1, iv p2, iv p3, iv (p3 &&& (3 : Int32)), .val (.double (4467570830351532032 : UInt64)), .second, .val (.double (FP.dadd (FP.i2d ((p1 <<< ((12 : Int32) &&& 31)) >>> ((12 : Int32) &&& 31))) (FP.dneg (4467570830351532032 : UInt64)))), .second, .val (.double (FP.i2d ((p2 <<< ((12 : Int32) &&& 31)) >>> ((12 : Int32) &&& 31)))), .second, .unset, iv ((p1 <<< ((12 : Int32) &&& 31)) >>> ((12 : Int32) &&& 31)), iv ((p2 <<< ((12 : Int32) &&& 31)) >>> ((12 : Int32) &&& 31)), .val (.double (FP.dneg (4467570830351532032 : UInt64))), .second] [(.int ((p2 <<< ((12 : Int32) &&& 31)) >>> ((12 : Int32) &&& 31))), (.int ((p1 <<< ((12 : Int32) &&& 31)) >>> ((12 : Int32) &&& 31)))]))
        by_cases hc73 : ((p1 <<< ((12 : Int32) &&& 31)) >>> ((12 : Int32) &&& 31)) < ((p2 <<< ((12 : Int32) &&& 31)) >>> ((12 : Int32) &&& 31))
        · refine own_go (fun _ k => XS.icmpYes X0.here hx rfl (pc0 := 104) (pc' := 119) rfl (hb hby at_104) rfl (tlt hc73).1 (by decide) (by decide) k) ?_
          show own_Go p e below s _ _ _ (T.setTop (mkF m 119 #[iv p1, iv p2, iv p3, iv (p3 &&& (3 : Int32)), .val (.double (4467570830351532032 : UInt64)), .second, .val (.double (FP.dadd (FP.i2d ((p1 <<< ((12 : Int32) &&& 31)) >>> ((12 : Int32) &&& 31))) (FP.dneg (4467570830351532032 : UInt64)))), .second, .val (.double (FP.i2d ((p2 <<< ((12 : Int32) &&& 31)) >>> ((12 : Int32) &&& 31)))), .second, .unset, iv ((p1 <<< ((12 : Int32) &&& 31)) >>> ((12 : Int32) &&& 31)), iv ((p2 <<< ((12 : Int32) &&& 31)) >>> ((12 : Int32) &&& 31)), .val (.double (FP.dneg (4467570830351532032 : UInt64))), .second] []))
          refine own_go (fun _ k => XS.iconst X0.here hx rfl (hb hby at_119) k) ?_
          show own_Go p e below s _ _ _ (T.setTop (mkF m 120 #[iv p1, iv p2, iv p3, iv (p3 &&& (3 : Int32)), .val (.double (4467570830351532032 : UInt64)), .second, .val (.double (FP.dadd (FP.i2d ((p1 <<< ((12 : Int32) &&& 31)) >>> ((12 : Int32) &&& 31))) (FP.dneg (4467570830351532032 : UInt64)))), .second, .val (.double (FP.i2d ((p2 <<< ((12 : Int32) &&& 31)) >>> ((12 : Int32) &&& 31)))), .second, .unset, iv ((p1 <<< ((12 : Int32) &&& 31)) >>> ((12 : Int32) &&& 31)), iv ((p2 <<< ((12 : Int32) &&& 31)) >>> ((12 : Int32) &&& 31)), .val (.double (FP.dneg (4467570830351532032 : UInt64))), .second] [(.int (1 : Int32))]))
          refine own_go (fun _ k => XS.goto X0.here hx rfl (pc0 := 120) (pc' := 124) rfl (hb hby at_120) (by decide) (by decide) k) ?_
          show own_Go p e below s _ _ _ (T.setTop (mkF m 124 #[iv p1, iv p2, iv p3, iv (p3 &&& (3 : Int32)), .val (.double (4467570830351532032 : UInt64)), .second, .val (.double (FP.dadd (FP.i2d ((p1 <<< ((12 : Int32) &&& 31)) >>> ((12 : Int32) &&& 31))) (FP.dneg (4467570830351532032 : UInt64)))), .second, .val (.double (FP.i2d ((p2 <<< ((12 : Int32) &&& 31)) >>> ((12 : Int32) &&& 31)))), .second, .unset, iv ((p1 <<< ((12 : Int32) &&& 31)) >>> ((12 : Int32) &&& 31)), iv ((p2 <<< ((12 : Int32) &&& 31)) >>> ((12 : Int32) &&& 31)), .val (.double (FP.dneg (4467570830351532032 : UInt64))), .second] [(.int (1 : Int32))]))
          refine own_go (fun _ k => XS.istore X0.here hx rfl (hb hby at_124) rfl (l' := #[iv p1, iv p2, iv p3, iv (p3 &&& (3 : Int32)), .val (.double (4467570830351532032 : UInt64)), .second, .val (.double (FP.dadd (FP.i2d ((p1 <<< ((12 : Int32) &&& 31)) >>> ((12 : Int32) &&& 31))) (FP.dneg (4467570830351532032 : UInt64)))), .second, .val (.double (FP.i2d ((p2 <<< ((12 : Int32) &&& 31)) >>> ((12 : Int32) &&& 31)))), .second, iv (1 : Int32), iv ((p1 <<< ((12 : Int32) &&& 31)) >>> ((12 : Int32) &&& 31)), iv ((p2 <<< ((12 : Int32) &&& 31)) >>> ((12 : Int32) &&& 31)), .val (.double (FP.dneg (4467570830351532032 : UInt64))), .second]) rfl k) ?_
          show own_Go p e below s _ _ _ (T.setTop (mkF m 126 #[iv p1, iv p2, iv p3, iv (p3 &&& (3 : Int32)), .val (.double (4467570830351532032 : UInt64)), .second, .val (.double (FP.dadd (FP.i2d ((p1 <<< ((12 : Int32) &&& 31)) >>> ((12 : Int32) &&& 31))) (FP.dneg (4467570830351532032 : UInt64)))), .second, .val (.double (FP.i2d ((p2 <<< ((12 : Int32) &&& 31)) >>> ((12 : Int32) &&& 31)))), .second, iv (1 : Int32), iv ((p1 <<< ((12 : Int32) &&& 31)) >>> ((12 : Int32) &&& 31)), iv ((p2 <<< ((12 : Int32) &&& 31)) >>> ((12 : Int32) &&& 31)), .val (.double (FP.dneg (4467570830351532032 : UInt64))), .second] []))
          refine own_go (fun _ k => XS.dload X0.here hx rfl (hb hby at_126) rfl k) ?_
          show own_Go p e below s _ _ _ (T.setTop (mkF m 128 #[iv p1, iv p2, iv p3, iv (p3 &&& (3 : Int32)), .val (.double (4467570830351532032 : UInt64)), .second, .val (.double (FP.dadd (FP.i2d ((p1 <<< ((12 : Int32) &&& 31)) >>> ((12 : Int32) &&& 31))) (FP.dneg (4467570830351532032 : UInt64)))), .second, .val (.double (FP.i2d ((p2 <<< ((12 : Int32) &&& 31)) >>> ((12 : Int32) &&& 31)))), .second, iv (1 : Int32), iv ((p1 <<< ((12 : Int32) &&& 31)) >>> ((12 : Int32) &&& 31)), iv ((p2 <<< ((12 : Int32) &&& 31)) >>> ((12 : Int32) &&& 31)), .val (.double (FP.dneg (4467570830351532032 : UInt64))), .second] [(.double (FP.dadd (FP.i2d ((p1 <<< ((12 : Int32) &&& 31)) >>> ((12 : Int32) &&& 31))) (FP.dneg (4467570830351532032 : UInt64))))]))
          refine own_go (fun _ k => XS.dload X0.here hx rfl (hb hby at_128) rfl k) ?_
          show own_Go p e below s _ _ _ (T.setTop (mkF m 130 #[iv p1, iv p2, iv p3, iv (p3 &&& (3 : Int32)), .val (.double (4467570830351532032 : UInt64)), .second, .val (.double (FP.dadd (FP.i2d ((p1 <<< ((12 : Int32) &&& 31)) >>> ((12 : Int32) &&& 31))) (FP.dneg (4467570830351532032 : UInt64)))), .second, .val (.double (FP.i2d ((p2 <<< ((12 : Int32) &&& 31)) >>> ((12 : Int32) &&& 31)))), .second, iv (1 : Int32), iv ((p1 <<< ((12 : Int32) &&& 31)) >>> ((12 : Int32) &&& 31)), iv ((p2 <<< ((12 : Int32) &&& 31)) >>> ((12 : Int32) &&& 31)), .val (.double (FP.dneg (4467570830351532032 : UInt64))), .second] [(.double (FP.i2d ((p2 <<< ((12 : Int32) &&& 31)) >>> ((12 : Int32) &&& 31)))), (.double (FP.dadd (FP.i2d ((p1 <<< ((12 : Int32) &&& 31)) >>> ((12 : Int32) &&& 31))) (FP.dneg (4467570830351532032 : UInt64))))]))
          obtain ⟨v74, T74, L74, X74, hQ74, st74⟩ := own_callS (y := (⟨"com/example/nudo/nudo/ConflictRegions", "fits", "(DD)Z"⟩ : MethodName)) X0 hx hZ hown (ow2 hw) (ow3 hw) (ow4 hw) (ow5 hw) (rm_fits l Z a0 hw [] (FP.dadd (FP.i2d ((p1 <<< ((12 : Int32) &&& 31)) >>> ((12 : Int32) &&& 31))) (FP.dneg (4467570830351532032 : UInt64))) (FP.i2d ((p2 <<< ((12 : Int32) &&& 31)) >>> ((12 : Int32) &&& 31))) h0 O0 (own_finI _)) 0 0 0 (by show _ ≤ 0; omega) (by show _ ≤ 0; omega) e0 (g := (mkF m 130 #[iv p1, iv p2, iv p3, iv (p3 &&& (3 : Int32)), .val (.double (4467570830351532032 : UInt64)), .second, .val (.double (FP.dadd (FP.i2d ((p1 <<< ((12 : Int32) &&& 31)) >>> ((12 : Int32) &&& 31))) (FP.dneg (4467570830351532032 : UInt64)))), .second, .val (.double (FP.i2d ((p2 <<< ((12 : Int32) &&& 31)) >>> ((12 : Int32) &&& 31)))), .second, iv (1 : Int32), iv ((p1 <<< ((12 : Int32) &&& 31)) >>> ((12 : Int32) &&& 31)), iv ((p2 <<< ((12 : Int32) &&& 31)) >>> ((12 : Int32) &&& 31)), .val (.double (FP.dneg (4467570830351532032 : UInt64))), .second] [(.double (FP.i2d ((p2 <<< ((12 : Int32) &&& 31)) >>> ((12 : Int32) &&& 31)))), (.double (FP.dadd (FP.i2d ((p1 <<< ((12 : Int32) &&& 31)) >>> ((12 : Int32) &&& 31))) (FP.dneg (4467570830351532032 : UInt64))))])) rfl (by rw [hml]; rfl) [(.double (FP.dadd (FP.i2d ((p1 <<< ((12 : Int32) &&& 31)) >>> ((12 : Int32) &&& 31))) (FP.dneg (4467570830351532032 : UInt64)))), (.double (FP.i2d ((p2 <<< ((12 : Int32) &&& 31)) >>> ((12 : Int32) &&& 31))))] [] (lenOf own_pd_0 rfl) rfl rfl (hb hby at_130)
          rcases hQ74 with hQ74 | hQ74
          · obtain ⟨rfl, Nc77, hp75, Kc76⟩ := hQ74
            refine own_go st74 ?_
            clear st74 X0 e0
            replace N0 := Fr.app N0 Nc77
            clear Nc77
            show own_Go p e below s _ _ _ (T74.setTop (mkF m 133 #[iv p1, iv p2, iv p3, iv (p3 &&& (3 : Int32)), .val (.double (4467570830351532032 : UInt64)), .second, .val (.double (FP.dadd (FP.i2d ((p1 <<< ((12 : Int32) &&& 31)) >>> ((12 : Int32) &&& 31))) (FP.dneg (4467570830351532032 : UInt64)))), .second, .val (.double (FP.i2d ((p2 <<< ((12 : Int32) &&& 31)) >>> ((12 : Int32) &&& 31)))), .second, iv (1 : Int32), iv ((p1 <<< ((12 : Int32) &&& 31)) >>> ((12 : Int32) &&& 31)), iv ((p2 <<< ((12 : Int32) &&& 31)) >>> ((12 : Int32) &&& 31)), .val (.double (FP.dneg (4467570830351532032 : UInt64))), .second] [(.int (0 : Int32))]))
            refine own_go (fun _ k => XS.iload X74.here hx rfl (hb hby at_133) rfl k) ?_
            show own_Go p e below s _ _ _ (T74.setTop (mkF m 135 #[iv p1, iv p2, iv p3, iv (p3 &&& (3 : Int32)), .val (.double (4467570830351532032 : UInt64)), .second, .val (.double (FP.dadd (FP.i2d ((p1 <<< ((12 : Int32) &&& 31)) >>> ((12 : Int32) &&& 31))) (FP.dneg (4467570830351532032 : UInt64)))), .second, .val (.double (FP.i2d ((p2 <<< ((12 : Int32) &&& 31)) >>> ((12 : Int32) &&& 31)))), .second, iv (1 : Int32), iv ((p1 <<< ((12 : Int32) &&& 31)) >>> ((12 : Int32) &&& 31)), iv ((p2 <<< ((12 : Int32) &&& 31)) >>> ((12 : Int32) &&& 31)), .val (.double (FP.dneg (4467570830351532032 : UInt64))), .second] [(.int (1 : Int32)), (.int (0 : Int32))]))
            refine own_go (fun _ k => XS.icmpYes X74.here hx rfl (pc0 := 135) (pc' := 142) rfl (hb hby at_135) rfl (feq (by decide : ¬ ((0 : Int32) = (1 : Int32)))).2 (by decide) (by decide) k) ?_
            show own_Go p e below s _ _ _ (T74.setTop (mkF m 142 #[iv p1, iv p2, iv p3, iv (p3 &&& (3 : Int32)), .val (.double (4467570830351532032 : UInt64)), .second, .val (.double (FP.dadd (FP.i2d ((p1 <<< ((12 : Int32) &&& 31)) >>> ((12 : Int32) &&& 31))) (FP.dneg (4467570830351532032 : UInt64)))), .second, .val (.double (FP.i2d ((p2 <<< ((12 : Int32) &&& 31)) >>> ((12 : Int32) &&& 31)))), .second, iv (1 : Int32), iv ((p1 <<< ((12 : Int32) &&& 31)) >>> ((12 : Int32) &&& 31)), iv ((p2 <<< ((12 : Int32) &&& 31)) >>> ((12 : Int32) &&& 31)), .val (.double (FP.dneg (4467570830351532032 : UInt64))), .second] []))
            refine own_go (fun _ k => XS.iconst X74.here hx rfl (hb hby at_142) k) ?_
            show own_Go p e below s _ _ _ (T74.setTop (mkF m 143 #[iv p1, iv p2, iv p3, iv (p3 &&& (3 : Int32)), .val (.double (4467570830351532032 : UInt64)), .second, .val (.double (FP.dadd (FP.i2d ((p1 <<< ((12 : Int32) &&& 31)) >>> ((12 : Int32) &&& 31))) (FP.dneg (4467570830351532032 : UInt64)))), .second, .val (.double (FP.i2d ((p2 <<< ((12 : Int32) &&& 31)) >>> ((12 : Int32) &&& 31)))), .second, iv (1 : Int32), iv ((p1 <<< ((12 : Int32) &&& 31)) >>> ((12 : Int32) &&& 31)), iv ((p2 <<< ((12 : Int32) &&& 31)) >>> ((12 : Int32) &&& 31)), .val (.double (FP.dneg (4467570830351532032 : UInt64))), .second] [(.int (0 : Int32))]))
            refine own_retN X74 hx hlk Kc76 (t := .boolean) hret (by simp) (hb hby at_143) (by show _ ≤ 0; omega) (by show _ ≤ 0; omega) ?_
            exfalso
            have hz := (own_law3 (own_Ssh p1) (own_Ssh p2)).mp hp75
            have ar0 := rng32 p3
            have ar1 := c_mask p3 (3 : Int32) 2 (by decide) (by decide)
            have ar2 : (0 : Int32).toInt = 0 := by decide
            have ar3 := mt Int32.toInt_inj.mp hc1
            have ar4 : (1 : Int32).toInt = 1 := by decide
            have ar5 := mt Int32.toInt_inj.mp hc17
            have ar6 : (2 : Int32).toInt = 2 := by decide
            have ar7 := mt Int32.toInt_inj.mp hc49
            have ar8 := rng32 p1
            have ar9 := c_ishl p1 (12 : Int32) 12 (by decide)
            have ar10 := rng32 (p1 <<< ((12 : Int32) &&& 31))
            have ar11 := c_ishr (p1 <<< ((12 : Int32) &&& 31)) (12 : Int32) 12 (by decide)
            have ar12 := rng32 p2
            have ar13 := c_ishl p2 (12 : Int32) 12 (by decide)
            have ar14 := rng32 (p2 <<< ((12 : Int32) &&& 31))
            have ar15 := c_ishr (p2 <<< ((12 : Int32) &&& 31)) (12 : Int32) 12 (by decide)
            have ar16 := Int32.lt_iff_toInt_lt.mp hc73
            omega
          · obtain ⟨rfl, Nc80, hp78, Kc79⟩ := hQ74
            refine own_go st74 ?_
            clear st74 X0 e0
            replace N0 := Fr.app N0 Nc80
            clear Nc80
            show own_Go p e below s _ _ _ (T74.setTop (mkF m 133 #[iv p1, iv p2, iv p3, iv (p3 &&& (3 : Int32)), .val (.double (4467570830351532032 : UInt64)), .second, .val (.double (FP.dadd (FP.i2d ((p1 <<< ((12 : Int32) &&& 31)) >>> ((12 : Int32) &&& 31))) (FP.dneg (4467570830351532032 : UInt64)))), .second, .val (.double (FP.i2d ((p2 <<< ((12 : Int32) &&& 31)) >>> ((12 : Int32) &&& 31)))), .second, iv (1 : Int32), iv ((p1 <<< ((12 : Int32) &&& 31)) >>> ((12 : Int32) &&& 31)), iv ((p2 <<< ((12 : Int32) &&& 31)) >>> ((12 : Int32) &&& 31)), .val (.double (FP.dneg (4467570830351532032 : UInt64))), .second] [(.int (1 : Int32))]))
            refine own_go (fun _ k => XS.iload X74.here hx rfl (hb hby at_133) rfl k) ?_
            show own_Go p e below s _ _ _ (T74.setTop (mkF m 135 #[iv p1, iv p2, iv p3, iv (p3 &&& (3 : Int32)), .val (.double (4467570830351532032 : UInt64)), .second, .val (.double (FP.dadd (FP.i2d ((p1 <<< ((12 : Int32) &&& 31)) >>> ((12 : Int32) &&& 31))) (FP.dneg (4467570830351532032 : UInt64)))), .second, .val (.double (FP.i2d ((p2 <<< ((12 : Int32) &&& 31)) >>> ((12 : Int32) &&& 31)))), .second, iv (1 : Int32), iv ((p1 <<< ((12 : Int32) &&& 31)) >>> ((12 : Int32) &&& 31)), iv ((p2 <<< ((12 : Int32) &&& 31)) >>> ((12 : Int32) &&& 31)), .val (.double (FP.dneg (4467570830351532032 : UInt64))), .second] [(.int (1 : Int32)), (.int (1 : Int32))]))
            refine own_go (fun _ k => XS.icmpNo X74.here hx rfl (hb hby at_135) rfl (teq (by decide : (1 : Int32) = (1 : Int32))).2 k) ?_
            show own_Go p e below s _ _ _ (T74.setTop (mkF m 138 #[iv p1, iv p2, iv p3, iv (p3 &&& (3 : Int32)), .val (.double (4467570830351532032 : UInt64)), .second, .val (.double (FP.dadd (FP.i2d ((p1 <<< ((12 : Int32) &&& 31)) >>> ((12 : Int32) &&& 31))) (FP.dneg (4467570830351532032 : UInt64)))), .second, .val (.double (FP.i2d ((p2 <<< ((12 : Int32) &&& 31)) >>> ((12 : Int32) &&& 31)))), .second, iv (1 : Int32), iv ((p1 <<< ((12 : Int32) &&& 31)) >>> ((12 : Int32) &&& 31)), iv ((p2 <<< ((12 : Int32) &&& 31)) >>> ((12 : Int32) &&& 31)), .val (.double (FP.dneg (4467570830351532032 : UInt64))), .second] []))
            refine own_go (fun _ k => XS.iconst X74.here hx rfl (hb hby at_138) k) ?_
            show own_Go p e below s _ _ _ (T74.setTop (mkF m 139 #[iv p1, iv p2, iv p3, iv (p3 &&& (3 : Int32)), .val (.double (4467570830351532032 : UInt64)), .second, .val (.double (FP.dadd (FP.i2d ((p1 <<< ((12 : Int32) &&& 31)) >>> ((12 : Int32) &&& 31))) (FP.dneg (4467570830351532032 : UInt64)))), .second, .val (.double (FP.i2d ((p2 <<< ((12 : Int32) &&& 31)) >>> ((12 : Int32) &&& 31)))), .second, iv (1 : Int32), iv ((p1 <<< ((12 : Int32) &&& 31)) >>> ((12 : Int32) &&& 31)), iv ((p2 <<< ((12 : Int32) &&& 31)) >>> ((12 : Int32) &&& 31)), .val (.double (FP.dneg (4467570830351532032 : UInt64))), .second] [(.int (1 : Int32))]))
            refine own_go (fun _ k => XS.goto X74.here hx rfl (pc0 := 139) (pc' := 143) rfl (hb hby at_139) (by decide) (by decide) k) ?_
            show own_Go p e below s _ _ _ (T74.setTop (mkF m 143 #[iv p1, iv p2, iv p3, iv (p3 &&& (3 : Int32)), .val (.double (4467570830351532032 : UInt64)), .second, .val (.double (FP.dadd (FP.i2d ((p1 <<< ((12 : Int32) &&& 31)) >>> ((12 : Int32) &&& 31))) (FP.dneg (4467570830351532032 : UInt64)))), .second, .val (.double (FP.i2d ((p2 <<< ((12 : Int32) &&& 31)) >>> ((12 : Int32) &&& 31)))), .second, iv (1 : Int32), iv ((p1 <<< ((12 : Int32) &&& 31)) >>> ((12 : Int32) &&& 31)), iv ((p2 <<< ((12 : Int32) &&& 31)) >>> ((12 : Int32) &&& 31)), .val (.double (FP.dneg (4467570830351532032 : UInt64))), .second] [(.int (1 : Int32))]))
            refine own_retN X74 hx hlk Kc79 (t := .boolean) hret (by simp) (hb hby at_143) (by show _ ≤ 0; omega) (by show _ ≤ 0; omega) ?_
            exact ⟨rfl, N0, K0⟩
        · refine own_go (fun _ k => XS.icmpNo X0.here hx rfl (hb hby at_104) rfl (flt hc73).1 k) ?_
          show own_Go p e below s _ _ _ (T.setTop (mkF m 107 #[iv p1, iv p2, iv p3, iv (p3 &&& (3 : Int32)), .val (.double (4467570830351532032 : UInt64)), .second, .val (.double (FP.dadd (FP.i2d ((p1 <<< ((12 : Int32) &&& 31)) >>> ((12 : Int32) &&& 31))) (FP.dneg (4467570830351532032 : UInt64)))), .second, .val (.double (FP.i2d ((p2 <<< ((12 : Int32) &&& 31)) >>> ((12 : Int32) &&& 31)))), .second, .unset, iv ((p1 <<< ((12 : Int32) &&& 31)) >>> ((12 : Int32) &&& 31)), iv ((p2 <<< ((12 : Int32) &&& 31)) >>> ((12 : Int32) &&& 31)), .val (.double (FP.dneg (4467570830351532032 : UInt64))), .second] []))
          refine own_go (fun _ k => XS.iload X0.here hx rfl (hb hby at_107) rfl k) ?_
          show own_Go p e below s _ _ _ (T.setTop (mkF m 109 #[iv p1, iv p2, iv p3, iv (p3 &&& (3 : Int32)), .val (.double (4467570830351532032 : UInt64)), .second, .val (.double (FP.dadd (FP.i2d ((p1 <<< ((12 : Int32) &&& 31)) >>> ((12 : Int32) &&& 31))) (FP.dneg (4467570830351532032 : UInt64)))), .second, .val (.double (FP.i2d ((p2 <<< ((12 : Int32) &&& 31)) >>> ((12 : Int32) &&& 31)))), .second, .unset, iv ((p1 <<< ((12 : Int32) &&& 31)) >>> ((12 : Int32) &&& 31)), iv ((p2 <<< ((12 : Int32) &&& 31)) >>> ((12 : Int32) &&& 31)), .val (.double (FP.dneg (4467570830351532032 : UInt64))), .second] [(.int ((p1 <<< ((12 : Int32) &&& 31)) >>> ((12 : Int32) &&& 31)))]))
          refine own_go (fun _ k => XS.iload X0.here hx rfl (hb hby at_109) rfl k) ?_
          show own_Go p e below s _ _ _ (T.setTop (mkF m 111 #[iv p1, iv p2, iv p3, iv (p3 &&& (3 : Int32)), .val (.double (4467570830351532032 : UInt64)), .second, .val (.double (FP.dadd (FP.i2d ((p1 <<< ((12 : Int32) &&& 31)) >>> ((12 : Int32) &&& 31))) (FP.dneg (4467570830351532032 : UInt64)))), .second, .val (.double (FP.i2d ((p2 <<< ((12 : Int32) &&& 31)) >>> ((12 : Int32) &&& 31)))), .second, .unset, iv ((p1 <<< ((12 : Int32) &&& 31)) >>> ((12 : Int32) &&& 31)), iv ((p2 <<< ((12 : Int32) &&& 31)) >>> ((12 : Int32) &&& 31)), .val (.double (FP.dneg (4467570830351532032 : UInt64))), .second] [(.int ((p2 <<< ((12 : Int32) &&& 31)) >>> ((12 : Int32) &&& 31))), (.int ((p1 <<< ((12 : Int32) &&& 31)) >>> ((12 : Int32) &&& 31)))]))
          by_cases hc81 : ((p1 <<< ((12 : Int32) &&& 31)) >>> ((12 : Int32) &&& 31)) = ((p2 <<< ((12 : Int32) &&& 31)) >>> ((12 : Int32) &&& 31))
          · refine own_go (fun _ k => XS.icmpNo X0.here hx rfl (hb hby at_111) rfl (teq hc81).2 k) ?_
            show own_Go p e below s _ _ _ (T.setTop (mkF m 114 #[iv p1, iv p2, iv p3, iv (p3 &&& (3 : Int32)), .val (.double (4467570830351532032 : UInt64)), .second, .val (.double (FP.dadd (FP.i2d ((p1 <<< ((12 : Int32) &&& 31)) >>> ((12 : Int32) &&& 31))) (FP.dneg (4467570830351532032 : UInt64)))), .second, .val (.double (FP.i2d ((p2 <<< ((12 : Int32) &&& 31)) >>> ((12 : Int32) &&& 31)))), .second, .unset, iv ((p1 <<< ((12 : Int32) &&& 31)) >>> ((12 : Int32) &&& 31)), iv ((p2 <<< ((12 : Int32) &&& 31)) >>> ((12 : Int32) &&& 31)), .val (.double (FP.dneg (4467570830351532032 : UInt64))), .second] []))
            refine own_go (fun _ k => XS.iloadN X0.here hx rfl (hb hby at_114) rfl k) ?_
            show own_Go p e below s _ _ _ (T.setTop (mkF m 115 #[iv p1, iv p2, iv p3, iv (p3 &&& (3 : Int32)), .val (.double (4467570830351532032 : UInt64)), .second, .val (.double (FP.dadd (FP.i2d ((p1 <<< ((12 : Int32) &&& 31)) >>> ((12 : Int32) &&& 31))) (FP.dneg (4467570830351532032 : UInt64)))), .second, .val (.double (FP.i2d ((p2 <<< ((12 : Int32) &&& 31)) >>> ((12 : Int32) &&& 31)))), .second, .unset, iv ((p1 <<< ((12 : Int32) &&& 31)) >>> ((12 : Int32) &&& 31)), iv ((p2 <<< ((12 : Int32) &&& 31)) >>> ((12 : Int32) &&& 31)), .val (.double (FP.dneg (4467570830351532032 : UInt64))), .second] [(.int (p3 &&& (3 : Int32)))]))
            refine own_go (fun _ k => XS.iconst X0.here hx rfl (hb hby at_115) k) ?_
            show own_Go p e below s _ _ _ (T.setTop (mkF m 116 #[iv p1, iv p2, iv p3, iv (p3 &&& (3 : Int32)), .val (.double (4467570830351532032 : UInt64)), .second, .val (.double (FP.dadd (FP.i2d ((p1 <<< ((12 : Int32) &&& 31)) >>> ((12 : Int32) &&& 31))) (FP.dneg (4467570830351532032 : UInt64)))), .second, .val (.double (FP.i2d ((p2 <<< ((12 : Int32) &&& 31)) >>> ((12 : Int32) &&& 31)))), .second, .unset, iv ((p1 <<< ((12 : Int32) &&& 31)) >>> ((12 : Int32) &&& 31)), iv ((p2 <<< ((12 : Int32) &&& 31)) >>> ((12 : Int32) &&& 31)), .val (.double (FP.dneg (4467570830351532032 : UInt64))), .second] [(.int (2 : Int32)), (.int (p3 &&& (3 : Int32)))]))
            refine own_go (fun _ k => XS.icmpNo X0.here hx rfl (hb hby at_116) rfl (feq hc49).1 k) ?_
            show own_Go p e below s _ _ _ (T.setTop (mkF m 119 #[iv p1, iv p2, iv p3, iv (p3 &&& (3 : Int32)), .val (.double (4467570830351532032 : UInt64)), .second, .val (.double (FP.dadd (FP.i2d ((p1 <<< ((12 : Int32) &&& 31)) >>> ((12 : Int32) &&& 31))) (FP.dneg (4467570830351532032 : UInt64)))), .second, .val (.double (FP.i2d ((p2 <<< ((12 : Int32) &&& 31)) >>> ((12 : Int32) &&& 31)))), .second, .unset, iv ((p1 <<< ((12 : Int32) &&& 31)) >>> ((12 : Int32) &&& 31)), iv ((p2 <<< ((12 : Int32) &&& 31)) >>> ((12 : Int32) &&& 31)), .val (.double (FP.dneg (4467570830351532032 : UInt64))), .second] []))
            refine own_go (fun _ k => XS.iconst X0.here hx rfl (hb hby at_119) k) ?_
            show own_Go p e below s _ _ _ (T.setTop (mkF m 120 #[iv p1, iv p2, iv p3, iv (p3 &&& (3 : Int32)), .val (.double (4467570830351532032 : UInt64)), .second, .val (.double (FP.dadd (FP.i2d ((p1 <<< ((12 : Int32) &&& 31)) >>> ((12 : Int32) &&& 31))) (FP.dneg (4467570830351532032 : UInt64)))), .second, .val (.double (FP.i2d ((p2 <<< ((12 : Int32) &&& 31)) >>> ((12 : Int32) &&& 31)))), .second, .unset, iv ((p1 <<< ((12 : Int32) &&& 31)) >>> ((12 : Int32) &&& 31)), iv ((p2 <<< ((12 : Int32) &&& 31)) >>> ((12 : Int32) &&& 31)), .val (.double (FP.dneg (4467570830351532032 : UInt64))), .second] [(.int (1 : Int32))]))
            refine own_go (fun _ k => XS.goto X0.here hx rfl (pc0 := 120) (pc' := 124) rfl (hb hby at_120) (by decide) (by decide) k) ?_
            show own_Go p e below s _ _ _ (T.setTop (mkF m 124 #[iv p1, iv p2, iv p3, iv (p3 &&& (3 : Int32)), .val (.double (4467570830351532032 : UInt64)), .second, .val (.double (FP.dadd (FP.i2d ((p1 <<< ((12 : Int32) &&& 31)) >>> ((12 : Int32) &&& 31))) (FP.dneg (4467570830351532032 : UInt64)))), .second, .val (.double (FP.i2d ((p2 <<< ((12 : Int32) &&& 31)) >>> ((12 : Int32) &&& 31)))), .second, .unset, iv ((p1 <<< ((12 : Int32) &&& 31)) >>> ((12 : Int32) &&& 31)), iv ((p2 <<< ((12 : Int32) &&& 31)) >>> ((12 : Int32) &&& 31)), .val (.double (FP.dneg (4467570830351532032 : UInt64))), .second] [(.int (1 : Int32))]))
            refine own_go (fun _ k => XS.istore X0.here hx rfl (hb hby at_124) rfl (l' := #[iv p1, iv p2, iv p3, iv (p3 &&& (3 : Int32)), .val (.double (4467570830351532032 : UInt64)), .second, .val (.double (FP.dadd (FP.i2d ((p1 <<< ((12 : Int32) &&& 31)) >>> ((12 : Int32) &&& 31))) (FP.dneg (4467570830351532032 : UInt64)))), .second, .val (.double (FP.i2d ((p2 <<< ((12 : Int32) &&& 31)) >>> ((12 : Int32) &&& 31)))), .second, iv (1 : Int32), iv ((p1 <<< ((12 : Int32) &&& 31)) >>> ((12 : Int32) &&& 31)), iv ((p2 <<< ((12 : Int32) &&& 31)) >>> ((12 : Int32) &&& 31)), .val (.double (FP.dneg (4467570830351532032 : UInt64))), .second]) rfl k) ?_
            show own_Go p e below s _ _ _ (T.setTop (mkF m 126 #[iv p1, iv p2, iv p3, iv (p3 &&& (3 : Int32)), .val (.double (4467570830351532032 : UInt64)), .second, .val (.double (FP.dadd (FP.i2d ((p1 <<< ((12 : Int32) &&& 31)) >>> ((12 : Int32) &&& 31))) (FP.dneg (4467570830351532032 : UInt64)))), .second, .val (.double (FP.i2d ((p2 <<< ((12 : Int32) &&& 31)) >>> ((12 : Int32) &&& 31)))), .second, iv (1 : Int32), iv ((p1 <<< ((12 : Int32) &&& 31)) >>> ((12 : Int32) &&& 31)), iv ((p2 <<< ((12 : Int32) &&& 31)) >>> ((12 : Int32) &&& 31)), .val (.double (FP.dneg (4467570830351532032 : UInt64))), .second] []))
            refine own_go (fun _ k => XS.dload X0.here hx rfl (hb hby at_126) rfl k) ?_
            show own_Go p e below s _ _ _ (T.setTop (mkF m 128 #[iv p1, iv p2, iv p3, iv (p3 &&& (3 : Int32)), .val (.double (4467570830351532032 : UInt64)), .second, .val (.double (FP.dadd (FP.i2d ((p1 <<< ((12 : Int32) &&& 31)) >>> ((12 : Int32) &&& 31))) (FP.dneg (4467570830351532032 : UInt64)))), .second, .val (.double (FP.i2d ((p2 <<< ((12 : Int32) &&& 31)) >>> ((12 : Int32) &&& 31)))), .second, iv (1 : Int32), iv ((p1 <<< ((12 : Int32) &&& 31)) >>> ((12 : Int32) &&& 31)), iv ((p2 <<< ((12 : Int32) &&& 31)) >>> ((12 : Int32) &&& 31)), .val (.double (FP.dneg (4467570830351532032 : UInt64))), .second] [(.double (FP.dadd (FP.i2d ((p1 <<< ((12 : Int32) &&& 31)) >>> ((12 : Int32) &&& 31))) (FP.dneg (4467570830351532032 : UInt64))))]))
            refine own_go (fun _ k => XS.dload X0.here hx rfl (hb hby at_128) rfl k) ?_
            show own_Go p e below s _ _ _ (T.setTop (mkF m 130 #[iv p1, iv p2, iv p3, iv (p3 &&& (3 : Int32)), .val (.double (4467570830351532032 : UInt64)), .second, .val (.double (FP.dadd (FP.i2d ((p1 <<< ((12 : Int32) &&& 31)) >>> ((12 : Int32) &&& 31))) (FP.dneg (4467570830351532032 : UInt64)))), .second, .val (.double (FP.i2d ((p2 <<< ((12 : Int32) &&& 31)) >>> ((12 : Int32) &&& 31)))), .second, iv (1 : Int32), iv ((p1 <<< ((12 : Int32) &&& 31)) >>> ((12 : Int32) &&& 31)), iv ((p2 <<< ((12 : Int32) &&& 31)) >>> ((12 : Int32) &&& 31)), .val (.double (FP.dneg (4467570830351532032 : UInt64))), .second] [(.double (FP.i2d ((p2 <<< ((12 : Int32) &&& 31)) >>> ((12 : Int32) &&& 31)))), (.double (FP.dadd (FP.i2d ((p1 <<< ((12 : Int32) &&& 31)) >>> ((12 : Int32) &&& 31))) (FP.dneg (4467570830351532032 : UInt64))))]))
            obtain ⟨v82, T82, L82, X82, hQ82, st82⟩ := own_callS (y := (⟨"com/example/nudo/nudo/ConflictRegions", "fits", "(DD)Z"⟩ : MethodName)) X0 hx hZ hown (ow2 hw) (ow3 hw) (ow4 hw) (ow5 hw) (rm_fits l Z a0 hw [] (FP.dadd (FP.i2d ((p1 <<< ((12 : Int32) &&& 31)) >>> ((12 : Int32) &&& 31))) (FP.dneg (4467570830351532032 : UInt64))) (FP.i2d ((p2 <<< ((12 : Int32) &&& 31)) >>> ((12 : Int32) &&& 31))) h0 O0 (own_finI _)) 0 0 0 (by show _ ≤ 0; omega) (by show _ ≤ 0; omega) e0 (g := (mkF m 130 #[iv p1, iv p2, iv p3, iv (p3 &&& (3 : Int32)), .val (.double (4467570830351532032 : UInt64)), .second, .val (.double (FP.dadd (FP.i2d ((p1 <<< ((12 : Int32) &&& 31)) >>> ((12 : Int32) &&& 31))) (FP.dneg (4467570830351532032 : UInt64)))), .second, .val (.double (FP.i2d ((p2 <<< ((12 : Int32) &&& 31)) >>> ((12 : Int32) &&& 31)))), .second, iv (1 : Int32), iv ((p1 <<< ((12 : Int32) &&& 31)) >>> ((12 : Int32) &&& 31)), iv ((p2 <<< ((12 : Int32) &&& 31)) >>> ((12 : Int32) &&& 31)), .val (.double (FP.dneg (4467570830351532032 : UInt64))), .second] [(.double (FP.i2d ((p2 <<< ((12 : Int32) &&& 31)) >>> ((12 : Int32) &&& 31)))), (.double (FP.dadd (FP.i2d ((p1 <<< ((12 : Int32) &&& 31)) >>> ((12 : Int32) &&& 31))) (FP.dneg (4467570830351532032 : UInt64))))])) rfl (by rw [hml]; rfl) [(.double (FP.dadd (FP.i2d ((p1 <<< ((12 : Int32) &&& 31)) >>> ((12 : Int32) &&& 31))) (FP.dneg (4467570830351532032 : UInt64)))), (.double (FP.i2d ((p2 <<< ((12 : Int32) &&& 31)) >>> ((12 : Int32) &&& 31))))] [] (lenOf own_pd_0 rfl) rfl rfl (hb hby at_130)
            rcases hQ82 with hQ82 | hQ82
            · obtain ⟨rfl, Nc85, hp83, Kc84⟩ := hQ82
              refine own_go st82 ?_
              clear st82 X0 e0
              replace N0 := Fr.app N0 Nc85
              clear Nc85
              show own_Go p e below s _ _ _ (T82.setTop (mkF m 133 #[iv p1, iv p2, iv p3, iv (p3 &&& (3 : Int32)), .val (.double (4467570830351532032 : UInt64)), .second, .val (.double (FP.dadd (FP.i2d ((p1 <<< ((12 : Int32) &&& 31)) >>> ((12 : Int32) &&& 31))) (FP.dneg (4467570830351532032 : UInt64)))), .second, .val (.double (FP.i2d ((p2 <<< ((12 : Int32) &&& 31)) >>> ((12 : Int32) &&& 31)))), .second, iv (1 : Int32), iv ((p1 <<< ((12 : Int32) &&& 31)) >>> ((12 : Int32) &&& 31)), iv ((p2 <<< ((12 : Int32) &&& 31)) >>> ((12 : Int32) &&& 31)), .val (.double (FP.dneg (4467570830351532032 : UInt64))), .second] [(.int (0 : Int32))]))
              refine own_go (fun _ k => XS.iload X82.here hx rfl (hb hby at_133) rfl k) ?_
              show own_Go p e below s _ _ _ (T82.setTop (mkF m 135 #[iv p1, iv p2, iv p3, iv (p3 &&& (3 : Int32)), .val (.double (4467570830351532032 : UInt64)), .second, .val (.double (FP.dadd (FP.i2d ((p1 <<< ((12 : Int32) &&& 31)) >>> ((12 : Int32) &&& 31))) (FP.dneg (4467570830351532032 : UInt64)))), .second, .val (.double (FP.i2d ((p2 <<< ((12 : Int32) &&& 31)) >>> ((12 : Int32) &&& 31)))), .second, iv (1 : Int32), iv ((p1 <<< ((12 : Int32) &&& 31)) >>> ((12 : Int32) &&& 31)), iv ((p2 <<< ((12 : Int32) &&& 31)) >>> ((12 : Int32) &&& 31)), .val (.double (FP.dneg (4467570830351532032 : UInt64))), .second] [(.int (1 : Int32)), (.int (0 : Int32))]))
              refine own_go (fun _ k => XS.icmpYes X82.here hx rfl (pc0 := 135) (pc' := 142) rfl (hb hby at_135) rfl (feq (by decide : ¬ ((0 : Int32) = (1 : Int32)))).2 (by decide) (by decide) k) ?_
              show own_Go p e below s _ _ _ (T82.setTop (mkF m 142 #[iv p1, iv p2, iv p3, iv (p3 &&& (3 : Int32)), .val (.double (4467570830351532032 : UInt64)), .second, .val (.double (FP.dadd (FP.i2d ((p1 <<< ((12 : Int32) &&& 31)) >>> ((12 : Int32) &&& 31))) (FP.dneg (4467570830351532032 : UInt64)))), .second, .val (.double (FP.i2d ((p2 <<< ((12 : Int32) &&& 31)) >>> ((12 : Int32) &&& 31)))), .second, iv (1 : Int32), iv ((p1 <<< ((12 : Int32) &&& 31)) >>> ((12 : Int32) &&& 31)), iv ((p2 <<< ((12 : Int32) &&& 31)) >>> ((12 : Int32) &&& 31)), .val (.double (FP.dneg (4467570830351532032 : UInt64))), .second] []))
              refine own_go (fun _ k => XS.iconst X82.here hx rfl (hb hby at_142) k) ?_
              show own_Go p e below s _ _ _ (T82.setTop (mkF m 143 #[iv p1, iv p2, iv p3, iv (p3 &&& (3 : Int32)), .val (.double (4467570830351532032 : UInt64)), .second, .val (.double (FP.dadd (FP.i2d ((p1 <<< ((12 : Int32) &&& 31)) >>> ((12 : Int32) &&& 31))) (FP.dneg (4467570830351532032 : UInt64)))), .second, .val (.double (FP.i2d ((p2 <<< ((12 : Int32) &&& 31)) >>> ((12 : Int32) &&& 31)))), .second, iv (1 : Int32), iv ((p1 <<< ((12 : Int32) &&& 31)) >>> ((12 : Int32) &&& 31)), iv ((p2 <<< ((12 : Int32) &&& 31)) >>> ((12 : Int32) &&& 31)), .val (.double (FP.dneg (4467570830351532032 : UInt64))), .second] [(.int (0 : Int32))]))
              refine own_retN X82 hx hlk Kc84 (t := .boolean) hret (by simp) (hb hby at_143) (by show _ ≤ 0; omega) (by show _ ≤ 0; omega) ?_
              exfalso
              have hz := (own_law3 (own_Ssh p1) (own_Ssh p2)).mp hp83
              have ar0 := rng32 p3
              have ar1 := c_mask p3 (3 : Int32) 2 (by decide) (by decide)
              have ar2 : (0 : Int32).toInt = 0 := by decide
              have ar3 := mt Int32.toInt_inj.mp hc1
              have ar4 : (1 : Int32).toInt = 1 := by decide
              have ar5 := mt Int32.toInt_inj.mp hc17
              have ar6 : (2 : Int32).toInt = 2 := by decide
              have ar7 := mt Int32.toInt_inj.mp hc49
              have ar8 := rng32 p1
              have ar9 := c_ishl p1 (12 : Int32) 12 (by decide)
              have ar10 := rng32 (p1 <<< ((12 : Int32) &&& 31))
              have ar11 := c_ishr (p1 <<< ((12 : Int32) &&& 31)) (12 : Int32) 12 (by decide)
              have ar12 := rng32 p2
              have ar13 := c_ishl p2 (12 : Int32) 12 (by decide)
              have ar14 := rng32 (p2 <<< ((12 : Int32) &&& 31))
              have ar15 := c_ishr (p2 <<< ((12 : Int32) &&& 31)) (12 : Int32) 12 (by decide)
              have ar16 := mt Int32.lt_iff_toInt_lt.mpr hc73
              have ar17 := congrArg Int32.toInt hc81
              omega
            · obtain ⟨rfl, Nc88, hp86, Kc87⟩ := hQ82
              refine own_go st82 ?_
              clear st82 X0 e0
              replace N0 := Fr.app N0 Nc88
              clear Nc88
              show own_Go p e below s _ _ _ (T82.setTop (mkF m 133 #[iv p1, iv p2, iv p3, iv (p3 &&& (3 : Int32)), .val (.double (4467570830351532032 : UInt64)), .second, .val (.double (FP.dadd (FP.i2d ((p1 <<< ((12 : Int32) &&& 31)) >>> ((12 : Int32) &&& 31))) (FP.dneg (4467570830351532032 : UInt64)))), .second, .val (.double (FP.i2d ((p2 <<< ((12 : Int32) &&& 31)) >>> ((12 : Int32) &&& 31)))), .second, iv (1 : Int32), iv ((p1 <<< ((12 : Int32) &&& 31)) >>> ((12 : Int32) &&& 31)), iv ((p2 <<< ((12 : Int32) &&& 31)) >>> ((12 : Int32) &&& 31)), .val (.double (FP.dneg (4467570830351532032 : UInt64))), .second] [(.int (1 : Int32))]))
              refine own_go (fun _ k => XS.iload X82.here hx rfl (hb hby at_133) rfl k) ?_
              show own_Go p e below s _ _ _ (T82.setTop (mkF m 135 #[iv p1, iv p2, iv p3, iv (p3 &&& (3 : Int32)), .val (.double (4467570830351532032 : UInt64)), .second, .val (.double (FP.dadd (FP.i2d ((p1 <<< ((12 : Int32) &&& 31)) >>> ((12 : Int32) &&& 31))) (FP.dneg (4467570830351532032 : UInt64)))), .second, .val (.double (FP.i2d ((p2 <<< ((12 : Int32) &&& 31)) >>> ((12 : Int32) &&& 31)))), .second, iv (1 : Int32), iv ((p1 <<< ((12 : Int32) &&& 31)) >>> ((12 : Int32) &&& 31)), iv ((p2 <<< ((12 : Int32) &&& 31)) >>> ((12 : Int32) &&& 31)), .val (.double (FP.dneg (4467570830351532032 : UInt64))), .second] [(.int (1 : Int32)), (.int (1 : Int32))]))
              refine own_go (fun _ k => XS.icmpNo X82.here hx rfl (hb hby at_135) rfl (teq (by decide : (1 : Int32) = (1 : Int32))).2 k) ?_
              show own_Go p e below s _ _ _ (T82.setTop (mkF m 138 #[iv p1, iv p2, iv p3, iv (p3 &&& (3 : Int32)), .val (.double (4467570830351532032 : UInt64)), .second, .val (.double (FP.dadd (FP.i2d ((p1 <<< ((12 : Int32) &&& 31)) >>> ((12 : Int32) &&& 31))) (FP.dneg (4467570830351532032 : UInt64)))), .second, .val (.double (FP.i2d ((p2 <<< ((12 : Int32) &&& 31)) >>> ((12 : Int32) &&& 31)))), .second, iv (1 : Int32), iv ((p1 <<< ((12 : Int32) &&& 31)) >>> ((12 : Int32) &&& 31)), iv ((p2 <<< ((12 : Int32) &&& 31)) >>> ((12 : Int32) &&& 31)), .val (.double (FP.dneg (4467570830351532032 : UInt64))), .second] []))
              refine own_go (fun _ k => XS.iconst X82.here hx rfl (hb hby at_138) k) ?_
              show own_Go p e below s _ _ _ (T82.setTop (mkF m 139 #[iv p1, iv p2, iv p3, iv (p3 &&& (3 : Int32)), .val (.double (4467570830351532032 : UInt64)), .second, .val (.double (FP.dadd (FP.i2d ((p1 <<< ((12 : Int32) &&& 31)) >>> ((12 : Int32) &&& 31))) (FP.dneg (4467570830351532032 : UInt64)))), .second, .val (.double (FP.i2d ((p2 <<< ((12 : Int32) &&& 31)) >>> ((12 : Int32) &&& 31)))), .second, iv (1 : Int32), iv ((p1 <<< ((12 : Int32) &&& 31)) >>> ((12 : Int32) &&& 31)), iv ((p2 <<< ((12 : Int32) &&& 31)) >>> ((12 : Int32) &&& 31)), .val (.double (FP.dneg (4467570830351532032 : UInt64))), .second] [(.int (1 : Int32))]))
              refine own_go (fun _ k => XS.goto X82.here hx rfl (pc0 := 139) (pc' := 143) rfl (hb hby at_139) (by decide) (by decide) k) ?_
              show own_Go p e below s _ _ _ (T82.setTop (mkF m 143 #[iv p1, iv p2, iv p3, iv (p3 &&& (3 : Int32)), .val (.double (4467570830351532032 : UInt64)), .second, .val (.double (FP.dadd (FP.i2d ((p1 <<< ((12 : Int32) &&& 31)) >>> ((12 : Int32) &&& 31))) (FP.dneg (4467570830351532032 : UInt64)))), .second, .val (.double (FP.i2d ((p2 <<< ((12 : Int32) &&& 31)) >>> ((12 : Int32) &&& 31)))), .second, iv (1 : Int32), iv ((p1 <<< ((12 : Int32) &&& 31)) >>> ((12 : Int32) &&& 31)), iv ((p2 <<< ((12 : Int32) &&& 31)) >>> ((12 : Int32) &&& 31)), .val (.double (FP.dneg (4467570830351532032 : UInt64))), .second] [(.int (1 : Int32))]))
              refine own_retN X82 hx hlk Kc87 (t := .boolean) hret (by simp) (hb hby at_143) (by show _ ≤ 0; omega) (by show _ ≤ 0; omega) ?_
              exact ⟨rfl, N0, K0⟩
          · refine own_go (fun _ k => XS.icmpYes X0.here hx rfl (pc0 := 111) (pc' := 123) rfl (hb hby at_111) rfl (feq hc81).2 (by decide) (by decide) k) ?_
            show own_Go p e below s _ _ _ (T.setTop (mkF m 123 #[iv p1, iv p2, iv p3, iv (p3 &&& (3 : Int32)), .val (.double (4467570830351532032 : UInt64)), .second, .val (.double (FP.dadd (FP.i2d ((p1 <<< ((12 : Int32) &&& 31)) >>> ((12 : Int32) &&& 31))) (FP.dneg (4467570830351532032 : UInt64)))), .second, .val (.double (FP.i2d ((p2 <<< ((12 : Int32) &&& 31)) >>> ((12 : Int32) &&& 31)))), .second, .unset, iv ((p1 <<< ((12 : Int32) &&& 31)) >>> ((12 : Int32) &&& 31)), iv ((p2 <<< ((12 : Int32) &&& 31)) >>> ((12 : Int32) &&& 31)), .val (.double (FP.dneg (4467570830351532032 : UInt64))), .second] []))
            refine own_go (fun _ k => XS.iconst X0.here hx rfl (hb hby at_123) k) ?_
            show own_Go p e below s _ _ _ (T.setTop (mkF m 124 #[iv p1, iv p2, iv p3, iv (p3 &&& (3 : Int32)), .val (.double (4467570830351532032 : UInt64)), .second, .val (.double (FP.dadd (FP.i2d ((p1 <<< ((12 : Int32) &&& 31)) >>> ((12 : Int32) &&& 31))) (FP.dneg (4467570830351532032 : UInt64)))), .second, .val (.double (FP.i2d ((p2 <<< ((12 : Int32) &&& 31)) >>> ((12 : Int32) &&& 31)))), .second, .unset, iv ((p1 <<< ((12 : Int32) &&& 31)) >>> ((12 : Int32) &&& 31)), iv ((p2 <<< ((12 : Int32) &&& 31)) >>> ((12 : Int32) &&& 31)), .val (.double (FP.dneg (4467570830351532032 : UInt64))), .second] [(.int (0 : Int32))]))
            refine own_go (fun _ k => XS.istore X0.here hx rfl (hb hby at_124) rfl (l' := #[iv p1, iv p2, iv p3, iv (p3 &&& (3 : Int32)), .val (.double (4467570830351532032 : UInt64)), .second, .val (.double (FP.dadd (FP.i2d ((p1 <<< ((12 : Int32) &&& 31)) >>> ((12 : Int32) &&& 31))) (FP.dneg (4467570830351532032 : UInt64)))), .second, .val (.double (FP.i2d ((p2 <<< ((12 : Int32) &&& 31)) >>> ((12 : Int32) &&& 31)))), .second, iv (0 : Int32), iv ((p1 <<< ((12 : Int32) &&& 31)) >>> ((12 : Int32) &&& 31)), iv ((p2 <<< ((12 : Int32) &&& 31)) >>> ((12 : Int32) &&& 31)), .val (.double (FP.dneg (4467570830351532032 : UInt64))), .second]) rfl k) ?_
            show own_Go p e below s _ _ _ (T.setTop (mkF m 126 #[iv p1, iv p2, iv p3, iv (p3 &&& (3 : Int32)), .val (.double (4467570830351532032 : UInt64)), .second, .val (.double (FP.dadd (FP.i2d ((p1 <<< ((12 : Int32) &&& 31)) >>> ((12 : Int32) &&& 31))) (FP.dneg (4467570830351532032 : UInt64)))), .second, .val (.double (FP.i2d ((p2 <<< ((12 : Int32) &&& 31)) >>> ((12 : Int32) &&& 31)))), .second, iv (0 : Int32), iv ((p1 <<< ((12 : Int32) &&& 31)) >>> ((12 : Int32) &&& 31)), iv ((p2 <<< ((12 : Int32) &&& 31)) >>> ((12 : Int32) &&& 31)), .val (.double (FP.dneg (4467570830351532032 : UInt64))), .second] []))
            refine own_go (fun _ k => XS.dload X0.here hx rfl (hb hby at_126) rfl k) ?_
            show own_Go p e below s _ _ _ (T.setTop (mkF m 128 #[iv p1, iv p2, iv p3, iv (p3 &&& (3 : Int32)), .val (.double (4467570830351532032 : UInt64)), .second, .val (.double (FP.dadd (FP.i2d ((p1 <<< ((12 : Int32) &&& 31)) >>> ((12 : Int32) &&& 31))) (FP.dneg (4467570830351532032 : UInt64)))), .second, .val (.double (FP.i2d ((p2 <<< ((12 : Int32) &&& 31)) >>> ((12 : Int32) &&& 31)))), .second, iv (0 : Int32), iv ((p1 <<< ((12 : Int32) &&& 31)) >>> ((12 : Int32) &&& 31)), iv ((p2 <<< ((12 : Int32) &&& 31)) >>> ((12 : Int32) &&& 31)), .val (.double (FP.dneg (4467570830351532032 : UInt64))), .second] [(.double (FP.dadd (FP.i2d ((p1 <<< ((12 : Int32) &&& 31)) >>> ((12 : Int32) &&& 31))) (FP.dneg (4467570830351532032 : UInt64))))]))
            refine own_go (fun _ k => XS.dload X0.here hx rfl (hb hby at_128) rfl k) ?_
            show own_Go p e below s _ _ _ (T.setTop (mkF m 130 #[iv p1, iv p2, iv p3, iv (p3 &&& (3 : Int32)), .val (.double (4467570830351532032 : UInt64)), .second, .val (.double (FP.dadd (FP.i2d ((p1 <<< ((12 : Int32) &&& 31)) >>> ((12 : Int32) &&& 31))) (FP.dneg (4467570830351532032 : UInt64)))), .second, .val (.double (FP.i2d ((p2 <<< ((12 : Int32) &&& 31)) >>> ((12 : Int32) &&& 31)))), .second, iv (0 : Int32), iv ((p1 <<< ((12 : Int32) &&& 31)) >>> ((12 : Int32) &&& 31)), iv ((p2 <<< ((12 : Int32) &&& 31)) >>> ((12 : Int32) &&& 31)), .val (.double (FP.dneg (4467570830351532032 : UInt64))), .second] [(.double (FP.i2d ((p2 <<< ((12 : Int32) &&& 31)) >>> ((12 : Int32) &&& 31)))), (.double (FP.dadd (FP.i2d ((p1 <<< ((12 : Int32) &&& 31)) >>> ((12 : Int32) &&& 31))) (FP.dneg (4467570830351532032 : UInt64))))]))
            obtain ⟨v89, T89, L89, X89, hQ89, st89⟩ := own_callS (y := (⟨"com/example/nudo/nudo/ConflictRegions", "fits", "(DD)Z"⟩ : MethodName)) X0 hx hZ hown (ow2 hw) (ow3 hw) (ow4 hw) (ow5 hw) (rm_fits l Z a0 hw [] (FP.dadd (FP.i2d ((p1 <<< ((12 : Int32) &&& 31)) >>> ((12 : Int32) &&& 31))) (FP.dneg (4467570830351532032 : UInt64))) (FP.i2d ((p2 <<< ((12 : Int32) &&& 31)) >>> ((12 : Int32) &&& 31))) h0 O0 (own_finI _)) 0 0 0 (by show _ ≤ 0; omega) (by show _ ≤ 0; omega) e0 (g := (mkF m 130 #[iv p1, iv p2, iv p3, iv (p3 &&& (3 : Int32)), .val (.double (4467570830351532032 : UInt64)), .second, .val (.double (FP.dadd (FP.i2d ((p1 <<< ((12 : Int32) &&& 31)) >>> ((12 : Int32) &&& 31))) (FP.dneg (4467570830351532032 : UInt64)))), .second, .val (.double (FP.i2d ((p2 <<< ((12 : Int32) &&& 31)) >>> ((12 : Int32) &&& 31)))), .second, iv (0 : Int32), iv ((p1 <<< ((12 : Int32) &&& 31)) >>> ((12 : Int32) &&& 31)), iv ((p2 <<< ((12 : Int32) &&& 31)) >>> ((12 : Int32) &&& 31)), .val (.double (FP.dneg (4467570830351532032 : UInt64))), .second] [(.double (FP.i2d ((p2 <<< ((12 : Int32) &&& 31)) >>> ((12 : Int32) &&& 31)))), (.double (FP.dadd (FP.i2d ((p1 <<< ((12 : Int32) &&& 31)) >>> ((12 : Int32) &&& 31))) (FP.dneg (4467570830351532032 : UInt64))))])) rfl (by rw [hml]; rfl) [(.double (FP.dadd (FP.i2d ((p1 <<< ((12 : Int32) &&& 31)) >>> ((12 : Int32) &&& 31))) (FP.dneg (4467570830351532032 : UInt64)))), (.double (FP.i2d ((p2 <<< ((12 : Int32) &&& 31)) >>> ((12 : Int32) &&& 31))))] [] (lenOf own_pd_0 rfl) rfl rfl (hb hby at_130)
            rcases hQ89 with hQ89 | hQ89
            · obtain ⟨rfl, Nc92, hp90, Kc91⟩ := hQ89
              refine own_go st89 ?_
              clear st89 X0 e0
              replace N0 := Fr.app N0 Nc92
              clear Nc92
              show own_Go p e below s _ _ _ (T89.setTop (mkF m 133 #[iv p1, iv p2, iv p3, iv (p3 &&& (3 : Int32)), .val (.double (4467570830351532032 : UInt64)), .second, .val (.double (FP.dadd (FP.i2d ((p1 <<< ((12 : Int32) &&& 31)) >>> ((12 : Int32) &&& 31))) (FP.dneg (4467570830351532032 : UInt64)))), .second, .val (.double (FP.i2d ((p2 <<< ((12 : Int32) &&& 31)) >>> ((12 : Int32) &&& 31)))), .second, iv (0 : Int32), iv ((p1 <<< ((12 : Int32) &&& 31)) >>> ((12 : Int32) &&& 31)), iv ((p2 <<< ((12 : Int32) &&& 31)) >>> ((12 : Int32) &&& 31)), .val (.double (FP.dneg (4467570830351532032 : UInt64))), .second] [(.int (0 : Int32))]))
              refine own_go (fun _ k => XS.iload X89.here hx rfl (hb hby at_133) rfl k) ?_
              show own_Go p e below s _ _ _ (T89.setTop (mkF m 135 #[iv p1, iv p2, iv p3, iv (p3 &&& (3 : Int32)), .val (.double (4467570830351532032 : UInt64)), .second, .val (.double (FP.dadd (FP.i2d ((p1 <<< ((12 : Int32) &&& 31)) >>> ((12 : Int32) &&& 31))) (FP.dneg (4467570830351532032 : UInt64)))), .second, .val (.double (FP.i2d ((p2 <<< ((12 : Int32) &&& 31)) >>> ((12 : Int32) &&& 31)))), .second, iv (0 : Int32), iv ((p1 <<< ((12 : Int32) &&& 31)) >>> ((12 : Int32) &&& 31)), iv ((p2 <<< ((12 : Int32) &&& 31)) >>> ((12 : Int32) &&& 31)), .val (.double (FP.dneg (4467570830351532032 : UInt64))), .second] [(.int (0 : Int32)), (.int (0 : Int32))]))
              refine own_go (fun _ k => XS.icmpNo X89.here hx rfl (hb hby at_135) rfl (teq (by decide : (0 : Int32) = (0 : Int32))).2 k) ?_
              show own_Go p e below s _ _ _ (T89.setTop (mkF m 138 #[iv p1, iv p2, iv p3, iv (p3 &&& (3 : Int32)), .val (.double (4467570830351532032 : UInt64)), .second, .val (.double (FP.dadd (FP.i2d ((p1 <<< ((12 : Int32) &&& 31)) >>> ((12 : Int32) &&& 31))) (FP.dneg (4467570830351532032 : UInt64)))), .second, .val (.double (FP.i2d ((p2 <<< ((12 : Int32) &&& 31)) >>> ((12 : Int32) &&& 31)))), .second, iv (0 : Int32), iv ((p1 <<< ((12 : Int32) &&& 31)) >>> ((12 : Int32) &&& 31)), iv ((p2 <<< ((12 : Int32) &&& 31)) >>> ((12 : Int32) &&& 31)), .val (.double (FP.dneg (4467570830351532032 : UInt64))), .second] []))
              refine own_go (fun _ k => XS.iconst X89.here hx rfl (hb hby at_138) k) ?_
              show own_Go p e below s _ _ _ (T89.setTop (mkF m 139 #[iv p1, iv p2, iv p3, iv (p3 &&& (3 : Int32)), .val (.double (4467570830351532032 : UInt64)), .second, .val (.double (FP.dadd (FP.i2d ((p1 <<< ((12 : Int32) &&& 31)) >>> ((12 : Int32) &&& 31))) (FP.dneg (4467570830351532032 : UInt64)))), .second, .val (.double (FP.i2d ((p2 <<< ((12 : Int32) &&& 31)) >>> ((12 : Int32) &&& 31)))), .second, iv (0 : Int32), iv ((p1 <<< ((12 : Int32) &&& 31)) >>> ((12 : Int32) &&& 31)), iv ((p2 <<< ((12 : Int32) &&& 31)) >>> ((12 : Int32) &&& 31)), .val (.double (FP.dneg (4467570830351532032 : UInt64))), .second] [(.int (1 : Int32))]))
              refine own_go (fun _ k => XS.goto X89.here hx rfl (pc0 := 139) (pc' := 143) rfl (hb hby at_139) (by decide) (by decide) k) ?_
              show own_Go p e below s _ _ _ (T89.setTop (mkF m 143 #[iv p1, iv p2, iv p3, iv (p3 &&& (3 : Int32)), .val (.double (4467570830351532032 : UInt64)), .second, .val (.double (FP.dadd (FP.i2d ((p1 <<< ((12 : Int32) &&& 31)) >>> ((12 : Int32) &&& 31))) (FP.dneg (4467570830351532032 : UInt64)))), .second, .val (.double (FP.i2d ((p2 <<< ((12 : Int32) &&& 31)) >>> ((12 : Int32) &&& 31)))), .second, iv (0 : Int32), iv ((p1 <<< ((12 : Int32) &&& 31)) >>> ((12 : Int32) &&& 31)), iv ((p2 <<< ((12 : Int32) &&& 31)) >>> ((12 : Int32) &&& 31)), .val (.double (FP.dneg (4467570830351532032 : UInt64))), .second] [(.int (1 : Int32))]))
              refine own_retN X89 hx hlk Kc91 (t := .boolean) hret (by simp) (hb hby at_143) (by show _ ≤ 0; omega) (by show _ ≤ 0; omega) ?_
              exact ⟨rfl, N0, K0⟩
            · obtain ⟨rfl, Nc95, hp93, Kc94⟩ := hQ89
              refine own_go st89 ?_
              clear st89 X0 e0
              replace N0 := Fr.app N0 Nc95
              clear Nc95
              show own_Go p e below s _ _ _ (T89.setTop (mkF m 133 #[iv p1, iv p2, iv p3, iv (p3 &&& (3 : Int32)), .val (.double (4467570830351532032 : UInt64)), .second, .val (.double (FP.dadd (FP.i2d ((p1 <<< ((12 : Int32) &&& 31)) >>> ((12 : Int32) &&& 31))) (FP.dneg (4467570830351532032 : UInt64)))), .second, .val (.double (FP.i2d ((p2 <<< ((12 : Int32) &&& 31)) >>> ((12 : Int32) &&& 31)))), .second, iv (0 : Int32), iv ((p1 <<< ((12 : Int32) &&& 31)) >>> ((12 : Int32) &&& 31)), iv ((p2 <<< ((12 : Int32) &&& 31)) >>> ((12 : Int32) &&& 31)), .val (.double (FP.dneg (4467570830351532032 : UInt64))), .second] [(.int (1 : Int32))]))
              refine own_go (fun _ k => XS.iload X89.here hx rfl (hb hby at_133) rfl k) ?_
              show own_Go p e below s _ _ _ (T89.setTop (mkF m 135 #[iv p1, iv p2, iv p3, iv (p3 &&& (3 : Int32)), .val (.double (4467570830351532032 : UInt64)), .second, .val (.double (FP.dadd (FP.i2d ((p1 <<< ((12 : Int32) &&& 31)) >>> ((12 : Int32) &&& 31))) (FP.dneg (4467570830351532032 : UInt64)))), .second, .val (.double (FP.i2d ((p2 <<< ((12 : Int32) &&& 31)) >>> ((12 : Int32) &&& 31)))), .second, iv (0 : Int32), iv ((p1 <<< ((12 : Int32) &&& 31)) >>> ((12 : Int32) &&& 31)), iv ((p2 <<< ((12 : Int32) &&& 31)) >>> ((12 : Int32) &&& 31)), .val (.double (FP.dneg (4467570830351532032 : UInt64))), .second] [(.int (0 : Int32)), (.int (1 : Int32))]))
              refine own_go (fun _ k => XS.icmpYes X89.here hx rfl (pc0 := 135) (pc' := 142) rfl (hb hby at_135) rfl (feq (by decide : ¬ ((1 : Int32) = (0 : Int32)))).2 (by decide) (by decide) k) ?_
              show own_Go p e below s _ _ _ (T89.setTop (mkF m 142 #[iv p1, iv p2, iv p3, iv (p3 &&& (3 : Int32)), .val (.double (4467570830351532032 : UInt64)), .second, .val (.double (FP.dadd (FP.i2d ((p1 <<< ((12 : Int32) &&& 31)) >>> ((12 : Int32) &&& 31))) (FP.dneg (4467570830351532032 : UInt64)))), .second, .val (.double (FP.i2d ((p2 <<< ((12 : Int32) &&& 31)) >>> ((12 : Int32) &&& 31)))), .second, iv (0 : Int32), iv ((p1 <<< ((12 : Int32) &&& 31)) >>> ((12 : Int32) &&& 31)), iv ((p2 <<< ((12 : Int32) &&& 31)) >>> ((12 : Int32) &&& 31)), .val (.double (FP.dneg (4467570830351532032 : UInt64))), .second] []))
              refine own_go (fun _ k => XS.iconst X89.here hx rfl (hb hby at_142) k) ?_
              show own_Go p e below s _ _ _ (T89.setTop (mkF m 143 #[iv p1, iv p2, iv p3, iv (p3 &&& (3 : Int32)), .val (.double (4467570830351532032 : UInt64)), .second, .val (.double (FP.dadd (FP.i2d ((p1 <<< ((12 : Int32) &&& 31)) >>> ((12 : Int32) &&& 31))) (FP.dneg (4467570830351532032 : UInt64)))), .second, .val (.double (FP.i2d ((p2 <<< ((12 : Int32) &&& 31)) >>> ((12 : Int32) &&& 31)))), .second, iv (0 : Int32), iv ((p1 <<< ((12 : Int32) &&& 31)) >>> ((12 : Int32) &&& 31)), iv ((p2 <<< ((12 : Int32) &&& 31)) >>> ((12 : Int32) &&& 31)), .val (.double (FP.dneg (4467570830351532032 : UInt64))), .second] [(.int (0 : Int32))]))
              refine own_retN X89 hx hlk Kc94 (t := .boolean) hret (by simp) (hb hby at_143) (by show _ ≤ 0; omega) (by show _ ≤ 0; omega) ?_
              exfalso
              have hz := mt (own_law3 (own_Ssh p1) (own_Ssh p2)).mpr hp93
              have ar0 := rng32 p3
              have ar1 := c_mask p3 (3 : Int32) 2 (by decide) (by decide)
              have ar2 : (0 : Int32).toInt = 0 := by decide
              have ar3 := mt Int32.toInt_inj.mp hc1
              have ar4 : (1 : Int32).toInt = 1 := by decide
              have ar5 := mt Int32.toInt_inj.mp hc17
              have ar6 : (2 : Int32).toInt = 2 := by decide
              have ar7 := mt Int32.toInt_inj.mp hc49
              have ar8 := rng32 p1
              have ar9 := c_ishl p1 (12 : Int32) 12 (by decide)
              have ar10 := rng32 (p1 <<< ((12 : Int32) &&& 31))
              have ar11 := c_ishr (p1 <<< ((12 : Int32) &&& 31)) (12 : Int32) 12 (by decide)
              have ar12 := rng32 p2
              have ar13 := c_ishl p2 (12 : Int32) 12 (by decide)
              have ar14 := rng32 (p2 <<< ((12 : Int32) &&& 31))
              have ar15 := c_ishr (p2 <<< ((12 : Int32) &&& 31)) (12 : Int32) 12 (by decide)
              have ar16 := mt Int32.lt_iff_toInt_lt.mpr hc73
              have ar17 := mt Int32.toInt_inj.mp hc81
              omega
set_option maxRecDepth 65536 in
set_option maxHeartbeats 40000000 in
theorem comes_1 {Post : Tables → Env → Array Value → State → Outcome → State → Prop} (hpost : ∀ tb e args s v u, (limb_1_1.after args s (.returned v) u = true ∧ limb_1_2.after args s (.returned v) u = true ∧ True) → FrameEnd s (.returned v) u (Jvm.fieldLocs frame_1_writes args s ++ Jvm.arrayLocs frame_1_arrays args s ++ Jvm.staticLocs frame_1_statics s) 0 0 → Post tb e args s (.returned v) u) :
    ArmFor flags0 classFile x code maxLocals ret World_1 tables_1 room_1 Calls_1 rest_1 Pre_1 Post := by
  intro l hfl _ _ p e ha hc hk s m args below hf hA hF happ hP
  obtain ⟨hcalls, hrest, hpre⟩ := hP
  obtain ⟨-, -, -, hnamed, -, -, -, hat⟩ := (Spec.applies_iff hf).mp happ
  obtain ⟨hg, hn⟩ := and_e (Cond.before_iff.mp (show (Jvm.Cond.and given_1 narrow_1).before args s = true from hpre))
  obtain ⟨gA0, gB0⟩ := and_e hg
  obtain ⟨gA1, gB1⟩ := and_e gB0
  obtain ⟨gA2, gB2⟩ := and_e gB1
  obtain ⟨w0, w1, w2, rfl⟩ : ∃ w0 w1 w2 : Value, args = #[w0, w1, w2] := by
    have hs : args.size = 3 := by simpa [Cond.value, given_1] using gA0
    obtain ⟨L⟩ := args
    match L, hs with
    | [w0, w1, w2], _ => exact ⟨w0, w1, w2, rfl⟩
  have hw := fun d (hd : d ∈ tables_1) => atoms_spec (ws := Jvm.Cond.code x code maxLocals ret :: tables_1) hat d (List.mem_cons_of_mem _ hd)
  have hfit : Fit s := fun {y c} hc i hi => by
    obtain ⟨ha, rfl⟩ := Array.getElem?_eq_some_iff.mp hc
    have q := List.all_eq_true.mp ((Array.all_eq_true_iff_forall_mem.mp hF) _ (Array.getElem_mem ha)) i (List.mem_range.mpr hi)
    simpa [Array.getElem?_eq_getElem hi] using q
  obtain ⟨i0, ei0⟩ := is_v gA1
  obtain rfl : w0 = (.int i0) := Option.some.inj ei0
  obtain ⟨i1, ei1⟩ := is_v gA2
  obtain rfl : w1 = (.int i1) := Option.some.inj ei1
  obtain ⟨i2, ei2⟩ := is_v gB2
  obtain rfl : w2 = (.int i2) := Option.some.inj ei2
  obtain ⟨n, o, h1, h2, h3, _, L, rfl, ⟨rfl, N, -⟩, hq⟩ := rm_law l s _ hw tables_1 i0 i1 i2  s.heap ⟨Nat.le_refl _, fun _ _ q => q⟩  p e ha hc hk s m _ below hf ((Spec.applies_iff_loose hf).mp happ).1 ⟨rfl, State.Warmed39.refl s, rfl⟩ trivial
  refine ⟨n, _, h1, h2, h3, hpost _ _ _ _ _ _ ⟨Cond.after_iff.mpr rfl, Cond.after_iff.mpr (eq_i res_at (Term.int_eval (1)) rfl), trivial⟩ ⟨hq.1, hq.2.1, (hq.2.2.sift fun y hy => Or.inr (N y hy)).mono (by decide) (by decide)⟩⟩
theorem main_1_1 : Claimed_1_1 := comes_1 fun _ _ _ _ _ _ h hF => ⟨h.1, hF⟩
theorem main_1_2 : Claimed_1_2 := comes_1 fun _ _ _ _ _ _ h hF => ⟨h.2.1, hF⟩
end Jvm.Pilot.@@N@@
namespace Jvm.Pilot.@@N@@
open Jvm Jvm.ClassFile Sem Op Lib Jvm.Free Jvm.Stand Jvm.Pilot.@@N@@.Jvm.D
/-! MADE BY PROGRAM (witnessworld.py) out of the Statement's table words and the real class files: 10 classes; the members and pool entries that the words name. The judged class is class 1, her method 1. -/
namespace start1
open Jvm.ClassFile
def u (s : String) : CpInfo := .utf8 (stringToUtf16 s)
/-- a pool by its gaps: so many unusable entries, then the entry; so many at the end -/
def gap : Nat → List CpInfo → List CpInfo
  | 0, r => r
  | n + 1, r => .unusable :: gap n r
def poolList (es : List (Nat × CpInfo)) (last : Nat) : List CpInfo := es.foldr (fun e r => gap e.1 (e.2 :: r)) (gap last [])
def pool (es : List (Nat × CpInfo)) (last : Nat) : Array CpInfo := ⟨poolList es last⟩
def fileOf (pool : Array CpInfo) (this : Nat) (attrs : Array Attribute := #[]) (ms : Array MethodInfo := #[]) (fl : Nat := 33) (sup : Nat := 0) (ifs : Array Nat := #[]) (fds : Array FieldInfo := #[]) : ClassFile where
  minorVersion := 0
  majorVersion := 65
  constantPool := pool
  accessFlags := fl
  thisClass := this
  superClass := sup
  interfaces := ifs
  fields := fds
  methods := ms
  attributes := attrs
def plain (name : String) (sup : Option ClassId) : Class where
  name := name
  kind := .ordinary
  loader := none
  accessFlags := 33
  super := sup
  interfaces := #[]
  cf := none
  fields := #[]
  methods := #[]
  instanceTypes := #[]
  staticTypes := #[]
  resolved := #[]
  callSites := []
  init := .initialized
  statics := none
  mirror := none

def pool0 : Array CpInfo := pool [(5, u "<init>"), (0, u "()V"), (1, .class_ 10), (1, u "java/lang/Object")] 113

def k0m0 : Method := { name := "<init>", desc := "()V", sig := { parameters := [], returnType := none }, accessFlags := 1, code := none }
/-- java/lang/Object -/
def k0 : Class := { plain "java/lang/Object" none with
  accessFlags := 33
  interfaces := #[]
  cf := some (fileOf pool0 8 #[] #[{ accessFlags := 1, nameIndex := 5, descriptorIndex := 6, attributes := #[] }] 33 0 #[] #[])
  fields := #[]
  methods := #[k0m0]
  instanceTypes := #[]
  staticTypes := #[]
  resolved := Array.replicate 124 none
  statics := none }

def pool1 : Array CpInfo := pool [(2, .class_ 4), (1, u "java/lang/Object"), (0, u "<init>"), (0, u "()V"), (0, .double 4467570830351532032), (1, .double 4616189618054758400), (1, .methodref 12 13), (0, .class_ 14), (0, .nameAndType 15 16), (0, u "com/example/nudo/nudo/ConflictRegions"), (0, u "fits"), (0, u "(DD)Z"), (0, .class_ 18), (0, u "com/example/nudo/nudo/ConflictRegionsFitsPinLaw"), (2, u "law"), (0, u "(III)Z")] 3

def k1m0 : Method := { name := "<init>", desc := "()V", sig := { parameters := [], returnType := none }, accessFlags := 2, code := none }
def k1c1 : Code := { maxStack := 4, maxLocals := 15, code := code, exceptionTable := #[], attributes := #[] }
def k1m1 : Method := { name := "law", desc := "(III)Z", sig := { parameters := [.int, .int, .int], returnType := some .boolean }, accessFlags := 9, code := some k1c1 }
/-- com/example/nudo/nudo/ConflictRegionsFitsPinLaw -/
def k1 : Class := { plain "com/example/nudo/nudo/ConflictRegionsFitsPinLaw" (some 0) with
  accessFlags := 49
  interfaces := #[]
  cf := some (fileOf pool1 17 #[] #[{ accessFlags := 2, nameIndex := 5, descriptorIndex := 6, attributes := #[] }, { accessFlags := 9, nameIndex := 21, descriptorIndex := 22, attributes := #[] }] 49 2 #[] #[])
  fields := #[]
  methods := #[k1m0, k1m1]
  instanceTypes := #[]
  staticTypes := #[]
  resolved := Array.replicate 26 none
  statics := none }

def pool2 : Array CpInfo := pool [(23, .class_ 24), (0, u "com/example/nudo/nudo/NodeControl"), (0, .class_ 26), (0, u "java/lang/Object"), (14, .class_ 42), (0, u "com/example/nudo/nudo/NodeControl$Offer")] 16

/-- com/example/nudo/nudo/NodeControl -/
def k2 : Class := { plain "com/example/nudo/nudo/NodeControl" (some 0) with
  accessFlags := 1536
  interfaces := #[]
  cf := some (fileOf pool2 23 #[.nestMembers #[41]] #[] 1536 25 #[] #[])
  fields := #[]
  methods := #[]
  instanceTypes := #[]
  staticTypes := #[]
  resolved := Array.replicate 59 none
  statics := none }

def pool3 : Array CpInfo := pool [(2, .class_ 4), (1, u "java/lang/Object"), (9, .class_ 16), (1, u "com/example/nudo/nudo/ConflictRegions"), (0, u "incoming"), (0, u "Ljava/util/List;"), (2, u "outgoing"), (53, u "[[[I"), (2, u "passed"), (7, .class_ 87), (0, u "com/example/nudo/nudo/ConflictRegions$Direction"), (10, u "capacities"), (0, u "[D"), (18, u "[[[Lcom/example/nudo/nudo/ConflictRegions$Need;"), (2, u "needs"), (15, u "withoutGeometry"), (0, u "Z"), (0, .double 4472406533629990549), (2, .class_ 144), (1, u "com/example/nudo/nudo/NodeControl"), (7, .class_ 154), (1, u "com/example/nudo/nudo/ConflictRegions$Need"), (13, u "fits"), (0, u "(DD)Z"), (0, .class_ 171), (0, u "com/example/nudo/nudo/ConflictRegions$Units"), (86, u "ROUNDING"), (0, u "D")] 67

def k3c0 : Code := { maxStack := 6, maxLocals := 4, code := prog_11_method_2_code, exceptionTable := #[], attributes := #[] }
def k3m0 : Method := { name := "fits", desc := "(DD)Z", sig := { parameters := [.double, .double], returnType := some .boolean }, accessFlags := 8, code := some k3c0 }
/-- com/example/nudo/nudo/ConflictRegions -/
def k3 : Class := { plain "com/example/nudo/nudo/ConflictRegions" (some 0) with
  accessFlags := 48
  interfaces := #[2]
  cf := some (fileOf pool3 14 #[.nestMembers #[86, 152, 170]] #[{ accessFlags := 8, nameIndex := 168, descriptorIndex := 169, attributes := #[] }] 48 2 #[142] #[{ accessFlags := 26, nameIndex := 258, descriptorIndex := 259, attributes := #[] }, { accessFlags := 18, nameIndex := 17, descriptorIndex := 18, attributes := #[] }, { accessFlags := 18, nameIndex := 21, descriptorIndex := 18, attributes := #[] }, { accessFlags := 18, nameIndex := 78, descriptorIndex := 75, attributes := #[] }, { accessFlags := 18, nameIndex := 98, descriptorIndex := 99, attributes := #[] }, { accessFlags := 18, nameIndex := 121, descriptorIndex := 118, attributes := #[] }, { accessFlags := 18, nameIndex := 137, descriptorIndex := 138, attributes := #[] }])
  fields := #[{ name := "ROUNDING", type := .double, accessFlags := 26, slot := 0, constantValue := 0 }, { name := "incoming", type := (.object "java/util/List"), accessFlags := 18, slot := 0, constantValue := 0 }, { name := "outgoing", type := (.object "java/util/List"), accessFlags := 18, slot := 1, constantValue := 0 }, { name := "passed", type := (.array (.array (.array .int))), accessFlags := 18, slot := 2, constantValue := 0 }, { name := "capacities", type := (.array .double), accessFlags := 18, slot := 3, constantValue := 0 }, { name := "needs", type := (.array (.array (.array (.object "com/example/nudo/nudo/ConflictRegions$Need")))), accessFlags := 18, slot := 4, constantValue := 0 }, { name := "withoutGeometry", type := .boolean, accessFlags := 18, slot := 5, constantValue := 0 }]
  methods := #[k3m0]
  instanceTypes := #[(.object "java/util/List"), (.object "java/util/List"), (.array (.array (.array .int))), (.array .double), (.array (.array (.array (.object "com/example/nudo/nudo/ConflictRegions$Need")))), .boolean]
  staticTypes := #[.double]
  resolved := Array.replicate 327 none
  statics := none }

def pool4 : Array CpInfo := pool [(1, u "java/lang/Cloneable"), (0, .class_ 1), (0, u "java/lang/Object"), (0, .class_ 3)] 3

/-- java/lang/Cloneable -/
def k4 : Class := { plain "java/lang/Cloneable" (some 0) with
  accessFlags := 1537
  interfaces := #[]
  cf := some (fileOf pool4 2 #[] #[] 1537 4 #[] #[])
  fields := #[]
  methods := #[]
  instanceTypes := #[]
  staticTypes := #[]
  resolved := Array.replicate 8 none
  statics := none }

def pool5 : Array CpInfo := pool [(1, u "java/io/Serializable"), (0, .class_ 1), (0, u "java/lang/Object"), (0, .class_ 3)] 3

/-- java/io/Serializable -/
def k5 : Class := { plain "java/io/Serializable" (some 0) with
  accessFlags := 1537
  interfaces := #[]
  cf := some (fileOf pool5 2 #[] #[] 1537 4 #[] #[])
  fields := #[]
  methods := #[]
  instanceTypes := #[]
  staticTypes := #[]
  resolved := Array.replicate 8 none
  statics := none }

/-- the primitive byte -/
def k6 : Class := { plain "byte" none with kind := .primitive 'B', accessFlags := 0x411 }
/-- [B -/
def k7 : Class := { plain "[B" (some 0) with kind := .array 6 .byte, interfaces := #[4, 5], accessFlags := 1041 }

/-- the primitive int -/
def k8 : Class := { plain "int" none with kind := .primitive 'I', accessFlags := 0x411 }
/-- [I -/
def k9 : Class := { plain "[I" (some 0) with kind := .array 8 .int, interfaces := #[4, 5], accessFlags := 1041 }

def heap : Heap := #[]
def classes : Array Class := #[k0, k1, k2, k3, k4, k5, k6, k7, k8, k9]
def interned : List (Array UInt16 × Addr) := []
def slotsUsed : Nat := 0
def theMethod : MethodId := ⟨1, 1⟩
def args0 : Array Value := #[.int 3, .int 4, .int 5]
def aboutOver (below : List Frame) : State where
  vm := { classes := classes, interned := interned.toArray }
  heap := heap
  slotsUsed := slotsUsed
  threads := #[{ frames := .invoking theMethod args0 :: below }]
def below0 : List Frame := [.native { method := ⟨0, 0⟩, args := #[] }]
def about1 : State := aboutOver below0
def p0 : Program := .bare "" "" ""
def e0 : Env := launch0.env 0 0 0
theorem w_frames : about1.frames = Frame.invoking theMethod args0 :: below0 := rfl
set_option maxRecDepth 65536 in
theorem w_args : argsFit about1.vm theMethod args0 = true := by decide +kernel
set_option maxRecDepth 65536 in
theorem w_heap : heapFits about1 = true := by decide +kernel
set_option maxRecDepth 65536 in
theorem w_runnable : about1.curStatus? = some .runnable := by decide +kernel
set_option maxRecDepth 65536 in
theorem w_alone : about1.alone = true := by decide +kernel
set_option maxRecDepth 65536 in
theorem w_named : about1.methodNamed? x = some theMethod := by decide +kernel
set_option maxRecDepth 65536 in
theorem w_hears : about1.hears theMethod below0 = true := by decide +kernel
set_option maxRecDepth 65536 in
theorem w_ripe : about1.ripe theMethod args0 below0 = true := by decide +kernel
theorem w_running : about1.status = .running := rfl
set_option maxRecDepth 65536 in
theorem w_room : about1.hasRoom e0.platform room_1 = true :=
  launch0.hasRoom_least _ room_1 (by decide +kernel) (by decide +kernel) (by decide +kernel) (by decide +kernel) (by decide +kernel) (by decide +kernel)
theorem allAtoms_all (ts : List Jvm.Cond) (a : Array Jvm.Value) (st : Jvm.State) : (allAtoms ts).before a st = ts.all (fun c => c.before a st) := by
  induction ts with
  | nil => rfl
  | cons c t ih =>
    show (Jvm.Cond.and c (allAtoms t)).before a st = _
    rw [Jvm.Cond.before_and, ih, List.all_cons]
def words1 : List Jvm.Cond := Jvm.Cond.code x code maxLocals ret :: tables_1
/-- a 'code' word, met by the world's own term for the bytes: nothing is compared byte by byte -/
theorem code_word {y : MethodName} {bytes : ByteArray} {mx : Nat} {rt : Option FieldType} {a : Array Value} {s : State} {m : MethodId} {meth : Method} {c : Code} (h1 : s.methodNamed? y = some m) (h2 : s.vm.method? m = some meth) (h3 : meth.code = some c) (h4 : c.code = bytes)
    (h5 : (c.maxLocals == mx && c.exceptionTable.isEmpty && decide (c.maxStack ≤ mostOperands) && decide (meth.sig.returnType = rt) && !meth.locks && decide (parseMethodDescriptor y.desc = some meth.sig)) = true) : (Jvm.Cond.code y bytes mx rt).before a s = true := by
  simp only [Bool.and_eq_true, beq_iff_eq, Bool.not_eq_true', decide_eq_true_eq] at h5
  obtain ⟨⟨⟨⟨⟨g1, g2⟩, g3⟩, g4⟩, g5⟩, g6⟩ := h5
  simp [Cond.before, Cond.holds, Cond.value, h1, h2, h3, h4, g1, g2, g3, g4, g5, g6]
def isCode : Jvm.Cond → Bool
  | .code _ _ _ _ => true
  | _ => false
theorem all_split {L : List Jvm.Cond} {P : Jvm.Cond → Bool} (h1 : L.all (fun c => isCode c || P c) = true) (h2 : ∀ c ∈ L.filter isCode, P c = true) : L.all P = true := by
  refine List.all_eq_true.mpr fun c hc => ?_
  have h := List.all_eq_true.mp h1 c hc
  rcases Bool.eq_false_or_eq_true (isCode c) with hi | hi
  · exact h2 c (List.mem_filter.mpr ⟨hc, hi⟩)
  · simpa [hi] using h
set_option maxRecDepth 65536 in
theorem w_c0 : (Jvm.Cond.code x code maxLocals ret).before args0 about1 = true := code_word (m := ⟨1, 1⟩) (meth := k1m1) (c := k1c1) (by decide +kernel) rfl rfl rfl (by decide +kernel)
set_option maxRecDepth 65536 in
theorem w_c1 : (Jvm.Cond.code ({ cls := "com/example/nudo/nudo/ConflictRegions", name := "fits", desc := "(DD)Z" } : Jvm.MethodName) prog_11_method_2_code (4 : Nat) (Option.some Jvm.ClassFile.FieldType.boolean)).before args0 about1 = true := code_word (m := ⟨3, 0⟩) (meth := k3m0) (c := k3c0) (by decide +kernel) rfl rfl rfl (by decide +kernel)
def codes1 : List Jvm.Cond := [Jvm.Cond.code x code maxLocals ret, Jvm.Cond.code ({ cls := "com/example/nudo/nudo/ConflictRegions", name := "fits", desc := "(DD)Z" } : Jvm.MethodName) prog_11_method_2_code (4 : Nat) (Option.some Jvm.ClassFile.FieldType.boolean)]
set_option maxRecDepth 65536 in
theorem codes_eq : words1.filter isCode = codes1 := rfl
theorem w_codes : ∀ c ∈ words1.filter isCode, c.before args0 about1 = true := by
  rw [codes_eq]
  intro c hc
  simp only [codes1, List.mem_cons, List.not_mem_nil, or_false] at hc
  rcases hc with rfl | rfl
  · exact w_c0
  · exact w_c1
set_option maxRecDepth 65536 in
theorem w_t1 : words1.all (fun c => isCode c || c.before args0 about1) = true := by decide +kernel
theorem w_tables : (allAtoms (Jvm.Cond.code x code maxLocals ret :: tables_1)).before args0 about1 = true := by
  rw [allAtoms_all]
  show words1.all (fun c => c.before args0 about1) = true
  refine all_split ?_ w_codes
  rw [w_t1]
set_option maxRecDepth 65536 in
theorem w_case : (Jvm.Cond.and given_1 narrow_1).before args0 about1 = true := by decide +kernel
theorem w_applies : (headSpec (Jvm.Cond.code x code maxLocals ret :: tables_1) room_1).applies x e0.platform about1 = true :=
  (Spec.applies_iff w_frames).mpr ⟨w_running, w_runnable, w_alone, w_named, w_hears, w_ripe, w_room, w_tables⟩
theorem atStart : AtStart classFile x code maxLocals ret World_1 tables_1 room_1 Calls_1 rest_1 Pre_1 launch0 p0 e0 about1 theMethod args0 below0 :=
  ⟨lists_1, trivial, launch0.admits_env _ _ _, launch0.least_env, fairChoices_fair.cas, fairChoices_fair.clock, w_frames, w_args, w_heap, w_applies, trivial, trivial, w_case⟩
end start1
theorem witness_1 : WitnessClaimed_1 := ⟨start1.p0, start1.e0, start1.about1, start1.theMethod, start1.args0, start1.below0, start1.atStart⟩
end Jvm.Pilot.@@N@@
